/-
  zzs5078acheck (5): THE WORDS OF ITS FIRST LOOP.
-/
import Derived.Test.YbulkdadiPlain
import Derived.Test.YbulkdadiTime2
namespace Go.Proofs.Ybulkdadi.Chk
open Go.ChangeShapes Go.WideShapes Go.ChangeAt Go.RowKit Go.Sort Go.Lib Go.Proofs.Ybulkdadi.Srt Go.Proofs.Ybulkdadi.Tm Go.Proofs.Ybulkdadi.Ls Go.Proofs.Ybulkdadi.By Go.Proofs.Ybulkdadi.Pl

theorem info32 : (Yba.prog.info? 32).map (fun i => (i.zero, i.size, i.bytes)) = some (some (.pointer none), 1, 8) := by kernel_rfl
theorem info3 : (Yba.prog.info? 3).map (fun i => (i.zero, i.size, i.bytes)) = some (some (.int .i64 0), 1, 8) := by kernel_rfl
theorem info4 : (Yba.prog.info? 4).map (fun i => (i.zero, i.size, i.bytes)) = some (some (.bool false), 1, 1) := by kernel_rfl

theorem mk31 (n : Nat) (h : n ≤ 4096) : ∃ C : Array Value, (∀ j, j < n → C[j]? = some (.pointer none)) ∧
    ∀ w, (Instr.makeSlice 31 (.int .i64 (n : Int)) (.int .i64 (n : Int))).run Yba.prog w = .ok (.slice (some ⟨w.heap.size, 0, none⟩) n n) (w.alloc (.cells C 32)) := by
  obtain ⟨i0, hi, hz0, hz1, hz2⟩ := info_parts info32
  refine ⟨madeCells #[.pointer none] n, fun j hj => ?_, fun w => ?_⟩
  · rw [← Array.getElem?_toList, toList_madeCells_one]; simp [hj]
  · have := run_make (P := Yba.prog) w 31 32 i0 (.pointer none) Yba.underlying31 hi hz0 .i64 .i64 n n (by omega) (by omega) (by rw [hz2]; omega) (by omega)
    rw [hz1] at this
    simpa [Value.cells] using this
theorem mk46 (n : Nat) (h : n ≤ 4096) : ∃ C : Array Value, (∀ j, j < n → C[j]? = some (.int .i64 0)) ∧
    ∀ w, (Instr.makeSlice 46 (.int .i64 (n : Int)) (.int .i64 (n : Int))).run Yba.prog w = .ok (.slice (some ⟨w.heap.size, 0, none⟩) n n) (w.alloc (.cells C 3)) := by
  obtain ⟨i0, hi, hz0, hz1, hz2⟩ := info_parts info3
  refine ⟨madeCells #[.int .i64 0] n, fun j hj => ?_, fun w => ?_⟩
  · rw [← Array.getElem?_toList, toList_madeCells_one]; simp [hj]
  · have := run_make (P := Yba.prog) w 46 3 i0 (.int .i64 0) Yba.underlying46 hi hz0 .i64 .i64 n n (by omega) (by omega) (by rw [hz2]; omega) (by omega)
    rw [hz1] at this
    simpa [Value.cells] using this
theorem mk48 (n : Nat) (h : n ≤ 4096) : ∃ C : Array Value, (∀ j, j < n → C[j]? = some (.bool false)) ∧
    ∀ w, (Instr.makeSlice 48 (.int .i64 (n : Int)) (.int .i64 (n : Int))).run Yba.prog w = .ok (.slice (some ⟨w.heap.size, 0, none⟩) n n) (w.alloc (.cells C 4)) := by
  obtain ⟨i0, hi, hz0, hz1, hz2⟩ := info_parts info4
  refine ⟨madeCells #[.bool false] n, fun j hj => ?_, fun w => ?_⟩
  · rw [← Array.getElem?_toList, toList_madeCells_one]; simp [hj]
  · have := run_make (P := Yba.prog) w 48 4 i0 (.bool false) Yba.underlying48 hi hz0 .i64 .i64 n n (by omega) (by omega) (by rw [hz2]; omega) (by omega)
    rw [hz1] at this
    simpa [Value.cells] using this

/-- The first j pointers are laid. -/
def ptrs (A : Nat → Nat) (k j : Nat) : Value := if j < k then .pointer (some ⟨A j, 0, none⟩) else .pointer none

/-- One entry as it lies. -/
structure Ent (w : World) (a : Nat) (j : Nat) (t : Int) (b : ByteArray) : Prop where
  c0 : w.cell? ⟨a, 0, none⟩ = some (.string b)
  c1 : w.cell? ⟨a, 1, none⟩ = some (.int .i64 (j : Int))
  c4 : w.cell? ⟨a, 4, none⟩ = some (.bool true)
  c12 : w.cell? ⟨a, 12, none⟩ = some (.int .u64 (t % 1000000000))
  c13 : w.cell? ⟨a, 13, none⟩ = some (.int .i64 (t / 1000000000))
  c14 : w.cell? ⟨a, 14, none⟩ = some (.pointer none)

structure L1 (w : World) (T : Nat → Int) (B : Nat → ByteArray) (n k : Nat) (A : Nat → Nat) (wr : World) : Prop where
  bel : Below w.heap.size w wr
  e : Row wr w.heap.size n (ptrs A k)
  p : Row wr (w.heap.size + 1) n (ptrs A k)
  lo : ∀ j, j < k → w.heap.size + 2 ≤ A j
  hi : ∀ j, j < k → A j < wr.heap.size
  ent : ∀ j, j < k → Ent wr (A j) j (T j) (B j)

theorem Ent.below {w w' : World} {a j : Nat} {t : Int} {b : ByteArray} (h : Ent w a j t b) (ha : a < w.heap.size) (hb : Below w.heap.size w w') : Ent w' a j t b :=
  ⟨(hb.cell (p := ⟨a, 0, none⟩) ha).trans h.c0, (hb.cell (p := ⟨a, 1, none⟩) ha).trans h.c1, (hb.cell (p := ⟨a, 4, none⟩) ha).trans h.c4, (hb.cell (p := ⟨a, 12, none⟩) ha).trans h.c12, (hb.cell (p := ⟨a, 13, none⟩) ha).trans h.c13, (hb.cell (p := ⟨a, 14, none⟩) ha).trans h.c14⟩
theorem Ent.grown {w w' : World} {a j c : Nat} {t : Int} {b : ByteArray} (h : Ent w a j t b) (hne : a ≠ c) (hg : w.grownBy w' (some c)) : Ent w' a j t b :=
  ⟨hg.cell h.c0 (fun e => hne (Option.some.inj e)), hg.cell h.c1 (fun e => hne (Option.some.inj e)), hg.cell h.c4 (fun e => hne (Option.some.inj e)), hg.cell h.c12 (fun e => hne (Option.some.inj e)), hg.cell h.c13 (fun e => hne (Option.some.inj e)), hg.cell h.c14 (fun e => hne (Option.some.inj e))⟩
theorem Ent.other {w : World} {a j : Nat} {t : Int} {b : ByteArray} (h : Ent w a j t b) (p : Addr) (hp : p.block ≠ a) (v : Value) : Ent (w.setCell p v) a j t b := by
  have q : ∀ k, p ≠ ⟨a, k, none⟩ := fun k e => hp (by rw [e])
  exact ⟨(World.cell?_setCell_other _ _ _ _ (q _)).trans h.c0, (World.cell?_setCell_other _ _ _ _ (q _)).trans h.c1, (World.cell?_setCell_other _ _ _ _ (q _)).trans h.c4, (World.cell?_setCell_other _ _ _ _ (q _)).trans h.c12, (World.cell?_setCell_other _ _ _ _ (q _)).trans h.c13, (World.cell?_setCell_other _ _ _ _ (q _)).trans h.c14⟩

/-- A new entry's cells. -/
def cell0 (b : ByteArray) (k : Nat) : Array Value := #[.string b, .int .i64 (k : Int), .bool false, .int .i64 0, .bool true, .string ⟨#[]⟩, .int .u64 0, .int .i64 0, .pointer none, .int .u64 0, .int .i64 0, .pointer none, .int .u64 0, .int .i64 0, .pointer none, .int .i64 0, .string ⟨#[]⟩, .bool false]

/-- The world behind a round. -/
def after (w2 : World) (a E k : Nat) (t : Int) : World :=
  ((((w2.setCell ⟨a, 12, none⟩ (.int .u64 (t % 1000000000))).setCell ⟨a, 13, none⟩ (.int .i64 (t / 1000000000))).setCell ⟨a, 14, none⟩ (.pointer none)).setCell ⟨E, k, none⟩ (.pointer (some ⟨a, 0, none⟩))).setCell ⟨E + 1, k, none⟩ (.pointer (some ⟨a, 0, none⟩))

theorem ptrs_step (A : Nat → Nat) (k a j : Nat) : (if j = k then Value.pointer (some ⟨a, 0, none⟩) else ptrs A k j) = ptrs (fun j => if j = k then a else A j) (k + 1) j := by
  unfold ptrs
  by_cases h : j = k
  · subst h; simp
  · rw [if_neg h]
    by_cases h2 : j < k
    · rw [if_pos h2, if_pos (by omega)]; simp [h]
    · rw [if_neg h2, if_neg (by omega)]

theorem L1.step {w : World} {T : Nat → Int} {B : Nat → ByteArray} {n k : Nat} {A : Nat → Nat} {wr w2 : World} (h : L1 w T B n k A wr) (hk : k < n) (hb : Below (wr.alloc (.cells (cell0 (B k) k) 42)).heap.size (wr.alloc (.cells (cell0 (B k) k) 42)) w2) :
    L1 w T B n (k + 1) (fun j => if j = k then wr.heap.size else A j) (after w2 wr.heap.size w.heap.size k (T k)) := by
  have hx : w.heap.size + 2 ≤ wr.heap.size := h.p.lt
  have hs2 : wr.heap.size + 1 ≤ w2.heap.size := by have := hb.size; simpa using this
  have hS : (after w2 wr.heap.size w.heap.size k (T k)).heap.size = w2.heap.size := by simp [after, World.setCell]
  have bel2 : Below w.heap.size w w2 := (h.bel.alloc h.bel.size (.cells (cell0 (B k) k) 42)).trans (hb.mono (by simp; omega))
  have re := (h.e.alloc (.cells (cell0 (B k) k) 42)).below hb
  have rp := (h.p.alloc (.cells (cell0 (B k) k) 42)).below hb
  refine ⟨?_, ?_, ?_, fun j hj => ?_, fun j hj => ?_, fun j hj => ?_⟩
  · unfold after
    exact ((((bel2.setCell (by show w.heap.size ≤ wr.heap.size; omega) _).setCell (by show w.heap.size ≤ wr.heap.size; omega) _).setCell (by show w.heap.size ≤ wr.heap.size; omega) _).setCell (Nat.le_refl _) _).setCell (by show w.heap.size ≤ w.heap.size + 1; omega) _
  · unfold after
    refine Row.ext (Row.other (Row.set (Row.other (Row.other (Row.other re ⟨_, _, _⟩ ?_ _) ⟨_, _, _⟩ ?_ _) ⟨_, _, _⟩ ?_ _) k hk _) ⟨_, _, _⟩ ?_ _) (fun j _ => ptrs_step A k wr.heap.size j)
    all_goals (dsimp only; omega)
  · unfold after
    refine Row.ext (Row.set (Row.other (Row.other (Row.other (Row.other rp ⟨_, _, _⟩ ?_ _) ⟨_, _, _⟩ ?_ _) ⟨_, _, _⟩ ?_ _) ⟨_, _, _⟩ ?_ _) k hk _) (fun j _ => ptrs_step A k wr.heap.size j)
    all_goals (dsimp only; omega)
  · by_cases e : j = k
    · simp [e]; omega
    · simp [e]; exact h.lo j (by omega)
  · rw [hS]
    by_cases e : j = k
    · simp [e]; omega
    · simp [e]; have := h.hi j (by omega); omega
  · by_cases e : j = k
    · subst e
      rw [if_pos rfl]
      have g : ∀ i v, (cell0 (B j) j)[i]? = some v → w2.cell? ⟨wr.heap.size, i, none⟩ = some v := fun i v hv => (hb.cell (p := ⟨wr.heap.size, i, none⟩) (by simp)).trans (by simp [hv])
      have o : ∀ (W : World) (b' o' i : Nat) (v : Value), b' ≠ wr.heap.size → (W.setCell ⟨b', o', none⟩ v).cell? ⟨wr.heap.size, i, none⟩ = W.cell? ⟨wr.heap.size, i, none⟩ := fun W b' o' i v hn => World.cell?_setCell_other _ _ _ _ (by intro q; injection q; omega)
      have o2 : ∀ (W : World) (o' i : Nat) (v : Value), o' ≠ i → (W.setCell ⟨wr.heap.size, o', none⟩ v).cell? ⟨wr.heap.size, i, none⟩ = W.cell? ⟨wr.heap.size, i, none⟩ := fun W o' i v hn => World.cell?_setCell_other _ _ _ _ (by intro q; injection q; omega)
      have g12 := g 12 _ rfl
      have g13 := g 13 _ rfl
      have g14 := g 14 _ rfl
      unfold after
      refine ⟨?_, ?_, ?_, ?_, ?_, ?_⟩ <;> rw [o _ _ _ _ _ (by omega), o _ _ _ _ _ (by omega)]
      · rw [o2 _ _ _ _ (by decide), o2 _ _ _ _ (by decide), o2 _ _ _ _ (by decide)]; exact g 0 _ rfl
      · rw [o2 _ _ _ _ (by decide), o2 _ _ _ _ (by decide), o2 _ _ _ _ (by decide)]; exact g 1 _ rfl
      · rw [o2 _ _ _ _ (by decide), o2 _ _ _ _ (by decide), o2 _ _ _ _ (by decide)]; exact g 4 _ rfl
      · rw [o2 _ _ _ _ (by decide), o2 _ _ _ _ (by decide)]; exact World.cell?_setCell_same _ _ _ g12
      · rw [o2 _ _ _ _ (by decide)]; exact World.cell?_setCell_same _ _ _ ((o2 _ _ _ _ (by decide)).trans g13)
      · exact World.cell?_setCell_same _ _ _ ((o2 _ _ _ _ (by decide)).trans ((o2 _ _ _ _ (by decide)).trans g14))
    · rw [if_neg e]
      have hl := h.lo j (by omega)
      have hh := h.hi j (by omega)
      unfold after
      refine Ent.other (Ent.other (Ent.other (Ent.other (Ent.other (Ent.below (Ent.below (h.ent j (by omega)) hh ((Below.refl _ _).alloc (Nat.le_refl _) _)) (by simp; omega) hb) ⟨_, _, _⟩ ?_ _) ⟨_, _, _⟩ ?_ _) ⟨_, _, _⟩ ?_ _) ⟨_, _, _⟩ ?_ _) ⟨_, _, _⟩ ?_ _
      all_goals (dsimp only; omega)

/-- Numbers off n clamped to 0. -/
def cl {α : Type} (n : Nat) (f : Nat → α) (j : Nat) : α := if j < n then f j else f 0
theorem cl_lt {α : Type} {n : Nat} (f : Nat → α) {j : Nat} (h : j < n) : cl n f j = f j := if_pos h

/-- The world behind the sort. -/
structure L2 (w : World) (T : Nat → Int) (B : Nat → ByteArray) (n : Nat) (A : Nat → Nat) (R : Array Nat) (wr : World) : Prop where
  bel : Below w.heap.size w wr
  e : Row wr w.heap.size n (fun j => encA (cl n A) R[j]!)
  p : Row wr (w.heap.size + 1) n (ptrs A n)
  hi : ∀ j, j < n → A j < wr.heap.size
  ent : ∀ j, j < n → Ent wr (A j) j (T j) (B j)
  done : Done (ltA (cl n T) (cl n B)) 0 n (Array.range n) R

theorem L1.items {w : World} {T : Nat → Int} {B : Nat → ByteArray} {n : Nat} {A : Nat → Nat} {wr : World} (h : L1 w T B n n A wr) (h2 : 2 ≤ n) : Items wr w.heap.size (cl n A) (cl n T) (cl n B) := by
  have q : ∀ k, ∃ j, j < n ∧ cl n A k = A j ∧ cl n T k = T j ∧ cl n B k = B j := fun k => by
    by_cases hk : k < n
    · exact ⟨k, hk, if_pos hk, if_pos hk, if_pos hk⟩
    · exact ⟨0, by omega, if_neg hk, if_neg hk, if_neg hk⟩
  refine ⟨fun k => ?_, fun k => ?_, fun k => ?_, fun k => ?_, fun k => ?_, fun k => ?_⟩ <;> obtain ⟨j, hj, e1, e2, e3⟩ := q k <;> rw [e1]
  · exact h.hi j hj
  · have := h.lo j hj; omega
  · rw [e3]; exact (h.ent j hj).c0
  · rw [e2]; exact (h.ent j hj).c12
  · rw [e2]; exact (h.ent j hj).c13
  · exact (h.ent j hj).c14
theorem range_at (n j : Nat) (h : j < n) : (Array.range n)[j]! = j := by simp [h]
theorem L1.row {w : World} {T : Nat → Int} {B : Nat → ByteArray} {n : Nat} {A : Nat → Nat} {wr : World} (h : L1 w T B n n A wr) : Holds (encA (cl n A)) wr w.heap.size 0 (Array.range n) :=
  Row.holds (n := n) (h.e.ext (fun k hk => by rw [range_at n k hk]; simp [ptrs, encA, cl, hk])) (by simp)
theorem L1.sorted {w : World} {T : Nat → Int} {B : Nat → ByteArray} {n : Nat} {A : Nat → Nat} {wr w3 : World} {R : Array Nat} (h : L1 w T B n n A wr) (hg : wr.grownBy w3 (some w.heap.size)) (hH : Holds (encA (cl n A)) w3 w.heap.size 0 R) (hD : Done (ltA (cl n T) (cl n B)) 0 n (Array.range n) R) : L2 w T B n A R w3 := by
  have hx : w.heap.size + 2 ≤ wr.heap.size := h.p.lt
  have hR : R.size = n := by have := hD.1.1; simpa using this
  refine ⟨h.bel.grown hg h.bel.size (fun k e => by cases e; exact Nat.le_refl _), Row.of_holds hH hR (by have := hg.size; omega), h.p.grown hg (by omega), fun j hj => Nat.lt_of_lt_of_le (h.hi j hj) hg.size, fun j hj => (h.ent j hj).grown (by have := h.lo j hj; omega) hg, hD⟩
theorem L2.below {w : World} {T : Nat → Int} {B : Nat → ByteArray} {n : Nat} {A : Nat → Nat} {wr w3 : World} {R : Array Nat} (h : L2 w T B n A R w3) (hb : Below w3.heap.size w3 wr) : L2 w T B n A R wr :=
  ⟨h.bel.trans (hb.mono h.bel.size), h.e.below hb, h.p.below hb, fun j hj => Nat.lt_of_lt_of_le (h.hi j hj) hb.size, fun j hj => (h.ent j hj).below (h.hi j hj) hb, h.done⟩

/-- The order, an array of ints. -/
def ints (d : Array Nat) (j : Nat) : Value := .int .i64 (d[j]! : Int)
theorem ints_swp {w : World} {b n : Nat} {d : Array Nat} (h : Row w b n (ints d)) (hd : d.size = n) (m : Nat) (hm : m + 1 < n) :
    Row ((w.setCell ⟨b, m + 1, none⟩ (ints d m)).setCell ⟨b, m, none⟩ (ints d (m + 1))) b n (ints (swp d (m + 1) m)) := by
  refine ((h.set (m + 1) hm _).set m (by omega) _).ext (fun k hk => ?_)
  unfold ints
  by_cases e : k = m
  · subst e; rw [if_pos rfl, swp_right d _ _ (by omega)]
  · rw [if_neg e]
    by_cases e2 : k = m + 1
    · subst e2; rw [if_pos rfl, swp_left d _ _ (by omega) (by omega)]
    · rw [if_neg e2, swp_other d _ _ _ e2 e]

structure L3 (w3 : World) (O n : Nat) (d : Array Nat) (wr : World) : Prop where
  bel : Below w3.heap.size w3 wr
  row : Row wr O n (ints d)
  sz : d.size = n
  lt : ∀ j, j < n → d[j]! < n

/-- Seen: the places of the first k. -/
def seen (R : Array Nat) (k j : Nat) : Value := .bool (decide (∃ i, i < k ∧ R[i]! = j))
theorem seen_step (R : Array Nat) (k j : Nat) : (if j = R[k]! then Value.bool true else seen R k j) = seen R (k + 1) j := by
  unfold seen
  by_cases h : j = R[k]!
  · rw [if_pos h]; simp only [Value.bool.injEq]; symm; rw [decide_eq_true_eq]; exact ⟨k, by omega, h.symm⟩
  · rw [if_neg h]; simp only [Value.bool.injEq, decide_eq_decide]
    constructor
    · rintro ⟨i, hi, e⟩; exact ⟨i, by omega, e⟩
    · rintro ⟨i, hi, e⟩
      by_cases hik : i = k
      · subst hik; exact absurd e.symm h
      · exact ⟨i, by omega, e⟩
theorem seen_not {lt : Nat → Nat → Bool} {n : Nat} {R : Array Nat} (h : Done lt 0 n (Array.range n) R) (k : Nat) (hk : k < n) : seen R k R[k]! = .bool false := by
  unfold seen
  simp only [Value.bool.injEq, decide_eq_false_iff_not]
  rintro ⟨i, hi, e⟩
  exact done_inj h i k hi hk e
end Go.Proofs.Ybulkdadi.Chk
