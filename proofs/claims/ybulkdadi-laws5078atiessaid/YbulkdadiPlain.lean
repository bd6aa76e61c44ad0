/-
  PLAIN WORDS FOR zzs5078acheck (rows of cells; two sorted arrangements of the same keys agree), AND zzs5078aless (8).
-/
import Derived.Test.YbulkdadiBy
namespace Go.Proofs.Ybulkdadi.Pl
open Go.ChangeShapes Go.WideShapes Go.ChangeAt Go.RowKit Go.Sort Go.Lib Go.Proofs.Ybulkdadi.Srt Go.Proofs.Ybulkdadi.Tm Go.Proofs.Ybulkdadi.Ls Go.Proofs.Ybulkdadi.By

/-- n cells from b's first. -/
structure Row (w : World) (b n : Nat) (f : Nat → Value) : Prop where
  lt : b < w.heap.size
  cell : ∀ k, k < n → w.cell? ⟨b, k, none⟩ = some (f k)
  froz : ∀ k, k < n → w.frozen? ⟨b, k, none⟩ = false

variable {w w' : World} {b n : Nat} {f g : Nat → Value}
theorem Row.ext (h : Row w b n f) (e : ∀ k, k < n → f k = g k) : Row w b n g := ⟨h.lt, fun k hk => by rw [h.cell k hk, e k hk], h.froz⟩
theorem Row.below (h : Row w b n f) (hb : Below w.heap.size w w') : Row w' b n f :=
  ⟨Nat.lt_of_lt_of_le h.lt hb.size, fun k hk => (hb.cell (p := ⟨b, k, none⟩) h.lt).trans (h.cell k hk), fun k hk => (hb.frozen (p := ⟨b, k, none⟩) h.lt).trans (h.froz k hk)⟩
theorem Row.alloc (h : Row w b n f) (o : Obj) : Row (w.alloc o) b n f := h.below ((Below.refl _ _).alloc (Nat.le_refl _) _)
theorem Row.grown {c : Nat} (h : Row w b n f) (hg : w.grownBy w' (some c)) (hne : b ≠ c) : Row w' b n f :=
  ⟨Nat.lt_of_lt_of_le h.lt hg.size, fun k hk => hg.cell (h.cell k hk) (fun e => hne (Option.some.inj e)), fun k hk => (World.frozen?_of_block (hg.block b h.lt (fun e => hne (Option.some.inj e)))).trans (h.froz k hk)⟩
theorem Row.set (h : Row w b n f) (k : Nat) (hk : k < n) (v : Value) : Row (w.setCell ⟨b, k, none⟩ v) b n (fun j => if j = k then v else f j) := by
  refine ⟨by simpa [World.setCell] using h.lt, fun j hj => ?_, fun j hj => by rw [World.frozen?_setCell]; exact h.froz j hj⟩
  by_cases e : j = k
  · subst e; rw [World.cell?_setCell_same _ _ _ (h.cell j hj)]; simp
  · rw [World.cell?_setCell_other _ _ _ _ (by intro q; injection q; omega), h.cell j hj]; simp [e]
theorem Row.other (h : Row w b n f) (a : Addr) (ha : a.block ≠ b) (v : Value) : Row (w.setCell a v) b n f :=
  ⟨by simpa [World.setCell] using h.lt, fun j hj => by rw [World.cell?_setCell_other _ _ _ _ (by intro q; rw [q] at ha; exact ha rfl)]; exact h.cell j hj, fun j hj => by rw [World.frozen?_setCell]; exact h.froz j hj⟩
theorem Row.holds {A : Nat → Nat} {d : Array Nat} (h : Row w b n (fun j => encA A d[j]!)) (hd : d.size = n) : Holds (encA A) w b 0 d := fun j hj => by
  rw [Nat.zero_add]; exact ⟨h.cell j (by omega), h.froz j (by omega)⟩
theorem Row.of_holds {A : Nat → Nat} {d : Array Nat} (h : Holds (encA A) w b 0 d) (hd : d.size = n) (hb : b < w.heap.size) : Row w b n (fun j => encA A d[j]!) :=
  ⟨hb, fun k hk => by have := (h k (by omega)).1; rw [Nat.zero_add] at this; exact this, fun k hk => by have := (h k (by omega)).2; rw [Nat.zero_add] at this; exact this⟩
theorem Row.new (w : World) (C : Array Value) (e : TypeId) (n : Nat) (f : Nat → Value) (hf : ∀ j, j < n → C[j]? = some (f j)) : Row (w.alloc (.cells C e)) w.heap.size n f :=
  ⟨by simp, fun k hk => by simp [hf k hk], fun k hk => by simp⟩

/-! ### Two sorted arrangements agree -/
abbrev Key := Int × List UInt8
def ltKey (x y : Key) : Bool := if x.1 = y.1 then Op.bytesLess x.2 y.2 else decide (x.1 < y.1)
theorem ltKey_of (T : Nat → Int) (B : Nat → ByteArray) (x y : Nat) : ltKey (T x, (B x).toList) (T y, (B y).toList) = ltA T B x y := rfl
theorem ltKey_true {x y : Key} : ltKey x y = true ↔ x.1 < y.1 ∨ x.1 = y.1 ∧ x.2 < y.2 := by
  unfold ltKey
  by_cases h : x.1 = y.1
  · rw [if_pos h, bytesLess_eq]; simp [h]
  · rw [if_neg h]; simp [h]
theorem ltKey_false {x y : Key} : ltKey x y = false ↔ y.1 < x.1 ∨ x.1 = y.1 ∧ y.2 ≤ x.2 := by
  unfold ltKey
  by_cases h : x.1 = y.1
  · rw [if_pos h, bytesLess_eq]; simp [h]
  · rw [if_neg h]; simp [h]; omega
theorem swoKey : SWO ltKey where
  irrefl x := ltKey_false.2 (Or.inr ⟨rfl, List.le_refl _⟩)
  trans x y z h1 h2 := by
    rcases ltKey_true.1 h1 with h | ⟨h, hb⟩ <;> rcases ltKey_true.1 h2 with k | ⟨k, kb⟩
    · exact ltKey_true.2 (Or.inl (by omega))
    · exact ltKey_true.2 (Or.inl (by omega))
    · exact ltKey_true.2 (Or.inl (by omega))
    · exact ltKey_true.2 (Or.inr ⟨by omega, List.lt_trans hb kb⟩)
  ntrans x y z h1 h2 := by
    rcases ltKey_false.1 h1 with h | ⟨h, hb⟩ <;> rcases ltKey_false.1 h2 with k | ⟨k, kb⟩
    · exact ltKey_false.2 (Or.inl (by omega))
    · exact ltKey_false.2 (Or.inl (by omega))
    · exact ltKey_false.2 (Or.inl (by omega))
    · exact ltKey_false.2 (Or.inr ⟨by omega, List.le_trans kb hb⟩)
theorem ltKey_same (x y : Key) (h1 : ltKey x y = false) (h2 : ltKey y x = false) : x = y := by
  rcases ltKey_false.1 h1 with h | ⟨h, hb⟩ <;> rcases ltKey_false.1 h2 with k | ⟨k, kb⟩
  · omega
  · omega
  · omega
  · exact Prod.ext h (List.le_antisymm kb hb)

theorem keys_sorted (T : Nat → Int) (B : Nat → ByteArray) (d R : Array Nat) (h : Done (ltA T B) 0 d.size d R) :
    (R.map fun x => ((T x, (B x).toList) : Key)).toList = (d.map fun x => ((T x, (B x).toList) : Key)).toList.mergeSort (fun x y => !ltKey y x) := by
  obtain ⟨⟨hs, ho, hp⟩, hso⟩ := h
  refine sorted_unique_holds swoKey ltKey_same _ _ ⟨by simp [hs], fun i hi => ?_, ?_⟩ ?_
  · have : d.size ≤ i := by simpa using hi
    simp [this, hs]
  · have e1 : ∀ (X : Array Nat), (X.map fun x => ((T x, (B x).toList) : Key)).extract 0 (X.map fun x => ((T x, (B x).toList) : Key)).size = X.map fun x => ((T x, (B x).toList) : Key) := fun X => by simp
    have hR : R.extract 0 d.size = R := by rw [← hs]; simp
    have hD : d.extract 0 d.size = d := by simp
    rw [hR, hD] at hp
    have h2 := hp.map fun x => ((T x, (B x).toList) : Key)
    have e2 : (d.map fun x => ((T x, (B x).toList) : Key)).size = (R.map fun x => ((T x, (B x).toList) : Key)).size := by simp [hs]
    rw [show (R.map fun x => ((T x, (B x).toList) : Key)).extract 0 (d.map fun x => ((T x, (B x).toList) : Key)).size = R.map fun x => ((T x, (B x).toList) : Key) from by rw [e2]; exact e1 R, e1 d]
    simpa using h2
  · intro i j _ hij hj
    have hj' : j < d.size := by simpa using hj
    have := hso i j (Nat.zero_le _) hij hj'
    have hjR : j < R.size := by omega
    have hiR : i < R.size := by omega
    simp only [Array.getElem!_eq_getD, Array.getD_eq_getD_getElem?, Array.getElem?_map, Array.getElem?_eq_getElem hjR, Array.getElem?_eq_getElem hiR, Option.map_some, Option.getD_some] at this ⊢
    exact this

theorem same_keys (T : Nat → Int) (B : Nat → ByteArray) (d R O : Array Nat) (hR : Done (ltA T B) 0 d.size d R) (hO : Done (ltA T B) 0 d.size d O) (k : Nat) (hk : k < d.size) : T O[k]! = T R[k]! ∧ B O[k]! = B R[k]! := by
  have e := (keys_sorted T B d O hO).trans (keys_sorted T B d R hR).symm
  have e' : (O.map fun x => ((T x, (B x).toList) : Key)) = R.map fun x => ((T x, (B x).toList) : Key) := Array.toList_inj.1 e
  have hRs := hR.1.1
  have hOs := hO.1.1
  have hjR : k < R.size := by omega
  have hjO : k < O.size := by omega
  have q := congrArg (fun X : Array Key => X[k]?) e'
  simp only [Array.getElem?_map, Array.getElem?_eq_getElem hjR, Array.getElem?_eq_getElem hjO, Option.map_some, Option.some.injEq, Prod.mk.injEq] at q
  have r1 : O[k]! = O[k] := by simp [hjO]
  have r2 : R[k]! = R[k] := by simp [hjR]
  rw [r1, r2]
  exact ⟨q.1, by
    have h := q.2
    have : (B O[k]).data.toList = (B R[k]).data.toList := by rw [← Lib.toList_data, ← Lib.toList_data]; exact h
    cases hx : B O[k]; cases hy : B R[k]; rw [hx, hy] at this; simp at this; rw [this]⟩

/-! ### A sorted arrangement of 0, 1, .. n - 1 -/
theorem done_lt {lt : Nat → Nat → Bool} {n : Nat} {R : Array Nat} (h : Done lt 0 n (Array.range n) R) (k : Nat) (hk : k < n) : R[k]! < n := by
  have hs : R.size = n := by simpa using h.1.1
  have hp := h.1.2.2
  have hR : R.extract 0 n = R := by rw [← hs]; simp
  have hD : (Array.range n).extract 0 n = Array.range n := by have := Array.extract_size (xs := Array.range n); rwa [Array.size_range] at this
  rw [hR, hD] at hp
  have hm : R[k]! ∈ R.toList := by rw [show R[k]! = R[k] from by simp [hs, hk]]; simp
  have := hp.mem_iff.1 hm
  simpa using this
theorem done_inj {lt : Nat → Nat → Bool} {n : Nat} {R : Array Nat} (h : Done lt 0 n (Array.range n) R) (i k : Nat) (hik : i < k) (hk : k < n) : R[i]! ≠ R[k]! := by
  have hs : R.size = n := by simpa using h.1.1
  have hp := h.1.2.2
  have hR : R.extract 0 n = R := by rw [← hs]; simp
  have hD : (Array.range n).extract 0 n = Array.range n := by have := Array.extract_size (xs := Array.range n); rwa [Array.size_range] at this
  rw [hR, hD] at hp
  have hn : R.toList.Nodup := hp.nodup_iff.2 (by simp [List.nodup_range])
  rw [show R[i]! = R.toList[i]'(by simp; omega) from by simp [hs, show i < n by omega], show R[k]! = R.toList[k]'(by simp; omega) from by simp [hs, hk]]
  intro e
  have := (List.getElem_inj hn).1 e
  omega

theorem swp_lt {d : Array Nat} {n i j : Nat} (hd : d.size = n) (h : ∀ k, k < n → d[k]! < n) (hi : i < n) (hj : j < n) : ∀ k, k < n → (swp d i j)[k]! < n := by
  intro k hk
  by_cases hkj : k = j
  · subst hkj; rw [swp_right d i k (by omega)]; exact h i hi
  · by_cases hki : k = i
    · subst hki; rw [swp_left d k j (by omega) (by omega)]; exact h j hj
    · rw [swp_other d i j k hki hkj]; exact h k hk

set_option maxHeartbeats 1000000 in
theorem zless_any (w : World) (tb bb n c c' i j : Nat) (t1 t2 : Int) (b1 b2 : ByteArray) (hi : i < n) (hj : j < n)
    (ci : w.cell? ⟨tb, i, none⟩ = some (.int .i64 t1)) (cj : w.cell? ⟨tb, j, none⟩ = some (.int .i64 t2)) (di : w.cell? ⟨bb, i, none⟩ = some (.string b1)) (dj : w.cell? ⟨bb, j, none⟩ = some (.string b2)) :
    Calls Yba.prog 8 #[.slice (some ⟨tb, 0, none⟩) n c, .slice (some ⟨bb, 0, none⟩) n c', .int .i64 (i : Int), .int .i64 (j : Int)] w fun e w' => e = .returned (.bool (ltK t1 b1 t2 b2)) ∧ ∃ q, w' = w.drewN q := by
  unfold ltK
  by_cases h : t1 = t2
  · rw [if_pos h]
    subst h
    go_enter Yba.func8, Yba.ntmps8
    go_wp2
    go_quiet (fail)
    go_wp2
    go_quiet (fail)
    go_wp2
    go_ret
    exact ⟨rfl, _, World.drewN_drewN _ _ _⟩
  · rw [if_neg h]
    have hd : (t1 == t2) = false := by simp [h]
    go_enter Yba.func8, Yba.ntmps8
    go_wp2
    go_quiet (fail)
    go_wp2
    go_quiet (fail)
    go_wp2
    go_ret
    exact ⟨rfl, _, World.drewN_drewN _ _ _⟩
end Go.Proofs.Ybulkdadi.Pl
