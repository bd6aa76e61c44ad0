/-
  THE TWO LAWS' OWN BODIES: their rows.
-/
import Derived.Test.YbulkdadiCheck2
namespace Go.Proofs.Ybulkdadi.Lw
open Go.ChangeShapes Go.WideShapes Go.ChangeAt Go.RowKit Go.Sort Go.Lib Go.Proofs.Ybulkdadi.Srt Go.Proofs.Ybulkdadi.Tm Go.Proofs.Ybulkdadi.Ls Go.Proofs.Ybulkdadi.By Go.Proofs.Ybulkdadi.Pl Go.Proofs.Ybulkdadi.Chk

theorem info2 : (Yba.prog.info? 2).map (fun i => (i.zero, i.size, i.bytes)) = some (some (.int .i64 0), 1, 8) := by kernel_rfl
theorem info9 : (Yba.prog.info? 9).map (fun i => (i.zero, i.size, i.bytes)) = some (some (.string ⟨#[]⟩), 1, 16) := by kernel_rfl
theorem mk23 (n : Nat) (h : n ≤ 4096) : ∃ C : Array Value, (∀ j, j < n → C[j]? = some (.int .i64 0)) ∧
    ∀ w, (Instr.makeSlice 23 (.int .i64 (n : Int)) (.int .i64 (n : Int))).run Yba.prog w = .ok (.slice (some ⟨w.heap.size, 0, none⟩) n n) (w.alloc (.cells C 2)) := by
  obtain ⟨i0, hi, hz0, hz1, hz2⟩ := info_parts info2
  refine ⟨madeCells #[.int .i64 0] n, fun j hj => ?_, fun w => ?_⟩
  · rw [← Array.getElem?_toList, toList_madeCells_one]; simp [hj]
  · have := run_make (P := Yba.prog) w 23 2 i0 (.int .i64 0) Yba.underlying23 hi hz0 .i64 .i64 n n (by omega) (by omega) (by rw [hz2]; omega) (by omega)
    rw [hz1] at this
    simpa [Value.cells] using this
theorem mk24 (n : Nat) (h : n ≤ 4096) : ∃ C : Array Value, (∀ j, j < n → C[j]? = some (.string ⟨#[]⟩)) ∧
    ∀ w, (Instr.makeSlice 24 (.int .i64 (n : Int)) (.int .i64 (n : Int))).run Yba.prog w = .ok (.slice (some ⟨w.heap.size, 0, none⟩) n n) (w.alloc (.cells C 9)) := by
  obtain ⟨i0, hi, hz0, hz1, hz2⟩ := info_parts info9
  refine ⟨madeCells #[.string ⟨#[]⟩] n, fun j hj => ?_, fun w => ?_⟩
  · rw [← Array.getElem?_toList, toList_madeCells_one]; simp [hj]
  · have := run_make (P := Yba.prog) w 24 9 i0 (.string ⟨#[]⟩) Yba.underlying24 hi hz0 .i64 .i64 n n (by omega) (by omega) (by rw [hz2]; omega) (by omega)
    rw [hz1] at this
    simpa [Value.cells] using this

/-- The two rows, the first k of them laid. -/
def tsv (T : Nat → Int) (k j : Nat) : Value := if j < k then .int .i64 (T j) else .int .i64 0
def bsv (B : Nat → ByteArray) (k j : Nat) : Value := if j < k then .string (B j) else .string ⟨#[]⟩
theorem tsv_step (T : Nat → Int) (k j : Nat) : (if j = k then Value.int .i64 (T k) else tsv T k j) = tsv T (k + 1) j := by
  unfold tsv
  by_cases h : j = k
  · subst h; simp
  · rw [if_neg h]
    by_cases h2 : j < k
    · rw [if_pos h2, if_pos (by omega)]
    · rw [if_neg h2, if_neg (by omega)]
theorem bsv_step (B : Nat → ByteArray) (k j : Nat) : (if j = k then Value.string (B k) else bsv B k j) = bsv B (k + 1) j := by
  unfold bsv
  by_cases h : j = k
  · subst h; simp
  · rw [if_neg h]
    by_cases h2 : j < k
    · rw [if_pos h2, if_pos (by omega)]
    · rw [if_neg h2, if_neg (by omega)]
structure LB (w : World) (T : Nat → Int) (B : Nat → ByteArray) (n k : Nat) (wr : World) : Prop where
  bel : Below w.heap.size w wr
  t : Row wr w.heap.size n (tsv T k)
  b : Row wr (w.heap.size + 1) n (bsv B k)
theorem LB.start (w : World) (T : Nat → Int) (B : Nat → ByteArray) (n : Nat) (C1 C2 : Array Value) (h1 : ∀ j, j < n → C1[j]? = some (.int .i64 0)) (h2 : ∀ j, j < n → C2[j]? = some (.string ⟨#[]⟩)) : LB w T B n 0 ((w.alloc (.cells C1 2)).alloc (.cells C2 9)) :=
  ⟨((Below.refl _ _).alloc (Nat.le_refl _) _).alloc (by simp) _, (Row.new w C1 2 n _ (fun j hj => by rw [h1 j hj]; simp [tsv])).alloc _,
    by have := Row.new (w.alloc (.cells C1 2)) C2 9 n (bsv B 0) (fun j hj => by rw [h2 j hj]; simp [bsv]); simpa using this⟩
theorem LB.step {w : World} {T : Nat → Int} {B : Nat → ByteArray} {n k : Nat} {wr : World} (h : LB w T B n k wr) (hk : k < n) : LB w T B n (k + 1) ((wr.setCell ⟨w.heap.size, k, none⟩ (.int .i64 (T k))).setCell ⟨w.heap.size + 1, k, none⟩ (.string (B k))) := by
  refine ⟨(h.bel.setCell (Nat.le_refl _) _).setCell (by show w.heap.size ≤ w.heap.size + 1; omega) _, ?_, ?_⟩
  · exact ((h.t.set k hk _).other ⟨_, _, _⟩ (by dsimp only; omega) _).ext (fun j _ => tsv_step T k j)
  · exact ((h.b.other ⟨_, _, _⟩ (by dsimp only; omega) _).set k hk _).ext (fun j _ => bsv_step B k j)
theorem LB.check {w : World} {T : Nat → Int} {B : Nat → ByteArray} {n : Nat} {wr : World} (h : LB w T B n n wr) (hn : n ≤ 1024) (hT : ∀ k, k < n → -9223372036854775808 ≤ T k ∧ T k ≤ 9223372036854775807) :
    Calls Yba.prog 5 #[.slice (some ⟨w.heap.size, 0, none⟩) n n, .slice (some ⟨w.heap.size + 1, 0, none⟩) n n] wr fun e w' => e = .returned (.bool true) ∧ Below w.heap.size w w' := by
  have hc := check_any wr w.heap.size (w.heap.size + 1) n n n T B hn h.t.lt h.b.lt (fun k hk => by rw [h.t.cell k hk]; simp [tsv, hk]) (fun k hk => by rw [h.b.cell k hk]; simp [bsv, hk]) hT
  exact hc.mono fun _ _ ⟨he, hb⟩ => ⟨he, h.bel.trans (hb.mono h.bel.size)⟩
end Go.Proofs.Ybulkdadi.Lw
