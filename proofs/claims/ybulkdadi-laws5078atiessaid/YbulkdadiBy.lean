/-
  sortByLastAccess (7), AT THIS DUMP: it leaves the pointers a permutation, sorted by (last access, base).
-/
import Derived.Test.YbulkdadiSort10
import Derived.Test.YbulkdadiLess
import Derived.Shelf.GgSortFunc.Small
import Derived.Shelf.GgSortFunc.Tiny
import Derived.Shelf.GgSortFunc.Slice
import Derived.Sort.Walk0
namespace Go.Proofs.Ybulkdadi.By
open Go.ChangeShapes Go.WideShapes Go.ChangeAt Go.RowKit Go.Sort Go.Lib Go.Proofs.Ybulkdadi.Srt Go.Proofs.Ybulkdadi.Tm Go.Proofs.Ybulkdadi.Ls

/-- The order of the places. -/
def ltA (T : Nat → Int) (B : Nat → ByteArray) (x y : Nat) : Bool := ltK (T x) (B x) (T y) (B y)

theorem ltK_true {t1 t2 : Int} {b1 b2 : ByteArray} : ltK t1 b1 t2 b2 = true ↔ t1 < t2 ∨ t1 = t2 ∧ b1.toList < b2.toList := by
  unfold ltK
  by_cases h : t1 = t2
  · rw [if_pos h, bytesLess_eq]; simp [h]
  · rw [if_neg h]; simp [h]
theorem ltK_false {t1 t2 : Int} {b1 b2 : ByteArray} : ltK t1 b1 t2 b2 = false ↔ t2 < t1 ∨ t1 = t2 ∧ b2.toList ≤ b1.toList := by
  unfold ltK
  by_cases h : t1 = t2
  · rw [if_pos h, bytesLess_eq]; simp [h]
  · rw [if_neg h]; simp [h]; omega

theorem swo (T : Nat → Int) (B : Nat → ByteArray) : SWO (ltA T B) where
  irrefl x := ltK_false.2 (Or.inr ⟨rfl, List.le_refl _⟩)
  trans x y z h1 h2 := by
    rcases ltK_true.1 h1 with h | ⟨h, hb⟩ <;> rcases ltK_true.1 h2 with k | ⟨k, kb⟩
    · exact ltK_true.2 (Or.inl (by omega))
    · exact ltK_true.2 (Or.inl (by omega))
    · exact ltK_true.2 (Or.inl (by omega))
    · exact ltK_true.2 (Or.inr ⟨by omega, List.lt_trans hb kb⟩)
  ntrans x y z h1 h2 := by
    rcases ltK_false.1 h1 with h | ⟨h, hb⟩ <;> rcases ltK_false.1 h2 with k | ⟨k, kb⟩
    · exact ltK_false.2 (Or.inl (by omega))
    · exact ltK_false.2 (Or.inl (by omega))
    · exact ltK_false.2 (Or.inl (by omega))
    · exact ltK_false.2 (Or.inr ⟨by omega, List.le_trans kb hb⟩)

/-- Neither before the other: the keys are the same. -/
theorem ltK_same {t1 t2 : Int} {b1 b2 : ByteArray} (h1 : ltK t1 b1 t2 b2 = false) (h2 : ltK t2 b2 t1 b1 = false) : t1 = t2 ∧ b1.toList = b2.toList := by
  rcases ltK_false.1 h1 with h | ⟨h, hb⟩ <;> rcases ltK_false.1 h2 with k | ⟨k, kb⟩
  · omega
  · omega
  · omega
  · exact ⟨h, List.le_antisymm kb hb⟩

def encA (A : Nat → Nat) (k : Nat) : Value := .pointer (some ⟨A k, 0, none⟩)

/-- What the pointers point at. -/
structure Items (w : World) (blk : Nat) (A : Nat → Nat) (T : Nat → Int) (B : Nat → ByteArray) : Prop where
  lt : ∀ k, A k < w.heap.size
  ne : ∀ k, A k ≠ blk
  c0 : ∀ k, w.cell? ⟨A k, 0, none⟩ = some (.string (B k))
  c1 : ∀ k, w.cell? ⟨A k, 12, none⟩ = some (.int .u64 (T k % 1000000000))
  c2 : ∀ k, w.cell? ⟨A k, 13, none⟩ = some (.int .i64 (T k / 1000000000))
  c3 : ∀ k, w.cell? ⟨A k, 14, none⟩ = some (.pointer none)

theorem Items.grown {w w' : World} {blk : Nat} {A : Nat → Nat} {T : Nat → Int} {B : Nat → ByteArray} (h : Items w blk A T B) (hg : w.grownBy w' (some blk)) : Items w' blk A T B := by
  have hne : ∀ k, some (A k) ≠ some blk := fun k e => h.ne k (Option.some.inj e)
  exact ⟨fun k => Nat.lt_of_lt_of_le (h.lt k) hg.size, h.ne, fun k => hg.cell (h.c0 k) (hne k), fun k => hg.cell (h.c1 k) (hne k), fun k => hg.cell (h.c2 k) (hne k), fun k => hg.cell (h.c3 k) (hne k)⟩

noncomputable def pT : TypeInfo := (Yba.prog.info? 31).get (by kernel_rfl)
noncomputable def pE : TypeInfo := (Yba.prog.info? 32).get (by kernel_rfl)
theorem pK (n : Nat) (h2 : 2 ≤ n) : Lib.swapperK n pE 22 = 3 := by
  have a : pE.hasPointers = true := by kernel_rfl
  have b : pE.bytes = 8 := by kernel_rfl
  have c : (n == 0) = false := by simp; omega
  have d : (n == 1) = false := by simp; omega
  simp [Lib.swapperK, a, b, c, d]

theorem ctx (w0 : World) (blk n c Bs : Nat) (A : Nat → Nat) (T : Nat → Int) (B : Nat → ByteArray) (hb : blk < w0.heap.size) (hn : n ≤ 4096) (hI : Items w0 blk A T B) (hBs : Bs < w0.heap.size) (hne : Bs ≠ blk)
    (cs : w0.cell? ⟨Bs, 0, none⟩ = some (.slice (some ⟨blk, 0, none⟩) n c)) :
    Ctx w0 blk n (encA A) (ltA T B) #[.pointer (some ⟨Bs, 0, none⟩)] 25 #[.slice (some ⟨blk, 0, none⟩) n c, typeHandle Yba.prog 32] where
  blt := hb
  small := hn
  less W dk hs i j hi hj := by
    have hI' := hI.grown hs.gr
    have hk := hs.gr.cell cs (fun e => hne (Option.some.inj e))
    have hsz := hs.sz
    have h := less_any W Bs blk n c i j (A dk[i]!) (A dk[j]!) (T dk[i]!) (T dk[j]!) (B dk[i]!) (B dk[j]!) (Nat.lt_of_lt_of_le hBs hs.gr.size) (hs.blt hb) (hI'.lt _) (hI'.lt _) hi hj hk
      (by have := (hs.ho i (by omega)).1; rw [Nat.zero_add] at this; exact this) (by have := (hs.ho j (by omega)).1; rw [Nat.zero_add] at this; exact this)
      (hI'.c0 _) (hI'.c1 _) (hI'.c2 _) (hI'.c3 _) (hI'.c0 _) (hI'.c1 _) (hI'.c2 _) (hI'.c3 _)
    exact h
  swap := swapSwaps_of_literal true 25 (fun args W => run_callFunc_extern Yba.func25 (by kernel_rfl) (by kernel_rfl) (by kernel_rfl) (e := Extern.ReflectliteSwapper.swap true) (by kernel_rfl) args W)
    32 pE (by kernel_rfl) (by kernel_rfl) (fun _ => by kernel_rfl) (encA A) (fun _ => rfl) blk 0 n c

theorem aux_le : ∀ f x : Nat, Lib.bitLenAux f x ≤ f
  | 0, _ => Nat.le_refl _
  | f + 1, x => by
    have := aux_le f (x / 2)
    unfold Lib.bitLenAux
    split <;> omega
theorem bitLen_small (n : Nat) : Lib.bitLen n ≤ 4096 := Nat.le_trans (aux_le _ _) (by decide)

set_option maxHeartbeats 1000000 in
theorem sortBy_any (w : World) (blk n c : Nat) (d : Array Nat) (A : Nat → Nat) (T : Nat → Int) (B : Nat → ByteArray) (hb : blk < w.heap.size) (hn : n ≤ 4096) (hI : 2 ≤ n → Items w blk A T B) (hH : Holds (encA A) w blk 0 d) (hd : d.size = n) :
    Calls Yba.prog 7 #[.slice (some ⟨blk, 0, none⟩) n c] w fun e w' => e = .returned (.tuple #[]) ∧ w.grownBy w' (some blk) ∧ ∃ R, Holds (encA A) w' blk 0 R ∧ Done (ltA T B) 0 n d R := by
  have hg1 : w.grownBy (w.alloc (.cells #[.slice (some ⟨blk, 0, none⟩) n c] 31)) (some blk) := World.grownBy_alloc _ _ _
  by_cases h2 : 2 ≤ n
  · have hS := Any.sort_Slice_of_pdq (P := Yba.prog) (ρ := Yba.sl6_ren) Yba.sl6 31 32 pT pE (by kernel_rfl) (by kernel_rfl) (by kernel_rfl) (by kernel_rfl) 22 (fun _ => by kernel_rfl) (some ⟨blk, 0, none⟩) n c (by omega) 25 (by rw [pK n h2]; kernel_rfl) (.func 15) #[] #[.pointer (some ⟨w.heap.size, 0, none⟩)]
      (w.alloc (.cells #[.slice (some ⟨blk, 0, none⟩) n c] 31)) (fun w' => w.grownBy w' (some blk) ∧ ∃ R, Holds (encA A) w' blk 0 R ∧ Done (ltA T B) 0 n d R) (by
        have hB : sliceBound Yba.prog 32 pE 22 (some ⟨blk, 0, none⟩) n c = #[.slice (some ⟨blk, 0, none⟩) n c, typeHandle Yba.prog 32] := by
          unfold sliceBound; rw [if_neg (swapperK_gt _ _ _ h2)]
        rw [hB]
        have hg2 : (w.alloc (.cells #[.slice (some ⟨blk, 0, none⟩) n c] 31)).grownBy (sliceWorld Yba.prog Yba.sl6_ren 31 (some ⟨blk, 0, none⟩) n c (w.alloc (.cells #[.slice (some ⟨blk, 0, none⟩) n c] 31))) (some blk) :=
          grown_trans (World.grownBy_alloc _ _ _) (World.grownBy_alloc _ _ _)
        have hg3 := grown_trans hg1 hg2
        generalize hW : sliceWorld Yba.prog Yba.sl6_ren 31 (some ⟨blk, 0, none⟩) n c (w.alloc (.cells #[.slice (some ⟨blk, 0, none⟩) n c] 31)) = w0 at hg2 hg3
        have hz : w.heap.size < w0.heap.size := Nat.lt_of_lt_of_le (by simp) hg2.size
        have hc : w0.cell? ⟨w.heap.size, 0, none⟩ = some (.slice (some ⟨blk, 0, none⟩) n c) := hg2.cell (by simp) (fun e => by have : w.heap.size = blk := Option.some.inj e; omega)
        have hH0 : Holds (encA A) w0 blk 0 d := by
          rw [← hW]; unfold sliceWorld
          rw [alloc_eq_grow, alloc_eq_grow, alloc_eq_grow, grow_grow, grow_grow]
          exact holds_grow _ _ _ _ _ _ hb hH
        have C := ctx w0 blk n c w.heap.size A T B (Nat.lt_of_lt_of_le hb hg3.size) hn ((hI h2).grown hg3) hz (by omega) hc
        have h := pdq_any C (swo T B) (n + 1) w0 d 0 n (Lib.bitLen n) (by omega) ⟨grown_refl _ _, hH0, hd⟩ (by omega) (Nat.le_refl _) (bitLen_small n) (Or.inl rfl)
        refine h.mono ?_
        rintro e w' ⟨rfl, hg, R, hst, hR⟩
        exact ⟨rfl, grown_trans hg3 hg, R, hst.ho, hR⟩)
    change Calls Yba.prog 14 _ _ _ at hS
    have HS := hide hS
    clear hS hg1 hI hH
    go_enter Yba.func7, Yba.ntmps7
    go_wp2_with fail
    refine (unhide HS).mono ?_
    rintro e w' ⟨rfl, hR⟩
    go_wp2
    go_end0
    exact ⟨rfl, hR⟩
  · have hK : Lib.swapperK n pE 22 = n + 1 := by
      rcases Nat.eq_zero_or_pos n with h | h
      · subst h; simp [Lib.swapperK]
      · obtain rfl : n = 1 := by omega
        simp [Lib.swapperK]
    have hS := Any.sort_Slice_tiny (P := Yba.prog) (ρ := Yba.sl6_ren) Yba.sl6 31 32 pT pE (by kernel_rfl) (by kernel_rfl) (by kernel_rfl) (by kernel_rfl) 22 (fun _ => by kernel_rfl) (some ⟨blk, 0, none⟩) n c (by omega) (23 + n) (by
      rw [hK]
      rcases Nat.eq_zero_or_pos n with h | h
      · subst h; kernel_rfl
      · obtain rfl : n = 1 := by omega
        kernel_rfl) (.func 15) #[] #[.pointer (some ⟨w.heap.size, 0, none⟩)] (w.alloc (.cells #[.slice (some ⟨blk, 0, none⟩) n c] 31))
    change Calls Yba.prog 14 _ _ _ at hS
    have HS := hide hS
    have HG := hide hg1
    have HH := hide hH
    clear hS hg1 hI hH
    go_enter Yba.func7, Yba.ntmps7
    go_wp2_with fail
    refine (unhide HS).mono ?_
    rintro e w' ⟨rfl, os, rfl⟩
    go_wp2
    go_end0
    refine ⟨rfl, ?_, d, ?_, ⟨rfl, fun _ _ => rfl, List.Perm.refl _⟩, fun i j _ _ _ => by omega⟩
    · exact grown_trans (unhide HG) ⟨rfl, rfl, rfl, by rw [size_grow]; omega, fun k hk _ => heap_grow_old _ _ hk⟩
    · rw [alloc_eq_grow, grow_grow]; exact holds_grow _ _ _ _ _ _ hb (unhide HH)
end Go.Proofs.Ybulkdadi.By
