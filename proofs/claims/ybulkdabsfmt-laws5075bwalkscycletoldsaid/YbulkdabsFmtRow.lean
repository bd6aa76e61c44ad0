/-
  ROWS OF CELLS; SLICES AS make LAYS THEM (types 25, 23, 27, 30, 31, 32).
-/
import Derived.Test.YbulkdabsFmtName
import Derived.OwnWalk
import Derived.Laws.MakeOwn
import Derived.Laws.OwnMore
namespace Go.Proofs.YbulkdabsFmt.Rw
open Go.ChangeShapes Go.WideShapes Go.ChangeAt Go.RowKit

/-- n cells from b's first. -/
structure Row (w : World) (b n : Nat) (f : Nat → Value) : Prop where
  lt : b < w.heap.size
  cell : ∀ k, k < n → w.cell? ⟨b, k, none⟩ = some (f k)
  froz : ∀ k, k < n → w.frozen? ⟨b, k, none⟩ = false

variable {w w' : World} {b n : Nat} {f g : Nat → Value}
theorem Row.ext (h : Row w b n f) (e : ∀ k, k < n → f k = g k) : Row w b n g := ⟨h.lt, fun k hk => by rw [h.cell k hk, e k hk], h.froz⟩
theorem Row.below (h : Row w b n f) (hb : Below w.heap.size w w') : Row w' b n f :=
  ⟨Nat.lt_of_lt_of_le h.lt hb.size, fun k hk => (hb.cell (p := ⟨b, k, none⟩) h.lt).trans (h.cell k hk), fun k hk => (hb.frozen (p := ⟨b, k, none⟩) h.lt).trans (h.froz k hk)⟩
theorem Row.belowAt {B : Nat} (h : Row w b n f) (hb : Below B w w') (hB : b < B) : Row w' b n f :=
  ⟨Nat.lt_of_lt_of_le h.lt hb.size, fun k hk => (hb.cell (p := ⟨b, k, none⟩) hB).trans (h.cell k hk), fun k hk => (hb.frozen (p := ⟨b, k, none⟩) hB).trans (h.froz k hk)⟩
theorem Row.alloc (h : Row w b n f) (o : Obj) : Row (w.alloc o) b n f := h.below ((Below.refl _ _).alloc (Nat.le_refl _) _)
theorem Row.grown {row : Option Nat} (h : Row w b n f) (hg : w.grownBy w' row) (hne : some b ≠ row) : Row w' b n f :=
  ⟨Nat.lt_of_lt_of_le h.lt hg.size, fun k hk => hg.cell (h.cell k hk) hne, fun k hk => (World.frozen?_of_block (hg.block b h.lt hne)).trans (h.froz k hk)⟩
theorem Row.set (h : Row w b n f) (k : Nat) (hk : k < n) (v : Value) : Row (w.setCell ⟨b, k, none⟩ v) b n (fun j => if j = k then v else f j) := by
  refine ⟨by simpa [World.setCell] using h.lt, fun j hj => ?_, fun j hj => by rw [World.frozen?_setCell]; exact h.froz j hj⟩
  by_cases e : j = k
  · subst e; rw [World.cell?_setCell_same _ _ _ (h.cell j hj)]; simp
  · rw [World.cell?_setCell_other _ _ _ _ (by intro q; injection q; omega), h.cell j hj]; simp [e]
theorem Row.other (h : Row w b n f) (a : Addr) (ha : a.block ≠ b) (v : Value) : Row (w.setCell a v) b n f :=
  ⟨by simpa [World.setCell] using h.lt, fun j hj => by rw [World.cell?_setCell_other _ _ _ _ (by intro q; rw [q] at ha; exact ha rfl)]; exact h.cell j hj, fun j hj => by rw [World.frozen?_setCell]; exact h.froz j hj⟩
theorem Row.new (w : World) (C : Array Value) (e : TypeId) (n : Nat) (f : Nat → Value) (hf : ∀ j, j < n → C[j]? = some (f j)) : Row (w.alloc (.cells C e)) w.heap.size n f :=
  ⟨by simp, fun k hk => by simp [hf k hk], fun k hk => by simp⟩

theorem info9 : (Ybaf.prog.info? 9).map (fun i => (i.zero, i.size, i.bytes)) = some (some (.string ⟨#[]⟩), 1, 16) := by kernel_rfl
theorem info4 : (Ybaf.prog.info? 4).map (fun i => (i.zero, i.size, i.bytes)) = some (some (.bool false), 1, 1) := by kernel_rfl
theorem info3 : (Ybaf.prog.info? 3).map (fun i => (i.zero, i.size, i.bytes)) = some (some (.int .i64 0), 1, 8) := by kernel_rfl
theorem info36 : (Ybaf.prog.info? 36).map (fun i => (i.zero, i.size, i.bytes)) = some (some (.pointer none), 1, 8) := by kernel_rfl
theorem info40 : (Ybaf.prog.info? 40).map (fun i => (i.zero, i.size, i.bytes)) = some (some (.pointer none), 1, 8) := by kernel_rfl
theorem info25 : (Ybaf.prog.info? 25).map (fun i => (i.zero, i.size, i.bytes)) = some (some (.slice none 0 0), 1, 24) := by kernel_rfl
theorem info35 : (Ybaf.prog.info? 35).map (fun i => (i.zero, i.size, i.bytes)) = some (some (.agg #[.string ⟨#[]⟩, .string ⟨#[]⟩]), 2, 32) := by kernel_rfl

theorem mk_any {t e : TypeId} {z : Value} {bytes : Nat} (ht : Ybaf.prog.underlying t = some (.slice e)) (hI : (Ybaf.prog.info? e).map (fun i => (i.zero, i.size, i.bytes)) = some (some z, 1, bytes)) (hc : z.cells = #[z]) (hby : bytes ≤ 64) (n : Nat) (h : n ≤ 4096) :
    ∃ C : Array Value, (∀ j, j < n → C[j]? = some z) ∧ ∀ w, (Instr.makeSlice t (.int .i64 (n : Int)) (.int .i64 (n : Int))).run Ybaf.prog w = .ok (.slice (some ⟨w.heap.size, 0, none⟩) n n) (w.alloc (.cells C e)) := by
  obtain ⟨i0, hi, hz0, hz1, hz2⟩ := info_parts hI
  refine ⟨madeCells #[z] n, fun j hj => ?_, fun w => ?_⟩
  · rw [← Array.getElem?_toList, toList_madeCells_one]; simp [hj]
  · have hm : n * bytes ≤ 4096 * 64 := Nat.mul_le_mul h hby
    have := run_make (P := Ybaf.prog) w t e i0 z ht hi hz0 .i64 .i64 n n (by omega) (by omega) (by rw [hz2, Int.mul_comm]; omega) (by omega)
    rw [hz1] at this
    simpa [hc] using this
theorem mk25 (n : Nat) (h : n ≤ 4096) : ∃ C : Array Value, (∀ j, j < n → C[j]? = some (.string ⟨#[]⟩)) ∧ ∀ w, (Instr.makeSlice 25 (.int .i64 (n : Int)) (.int .i64 (n : Int))).run Ybaf.prog w = .ok (.slice (some ⟨w.heap.size, 0, none⟩) n n) (w.alloc (.cells C 9)) :=
  mk_any Ybaf.underlying25 info9 rfl (by decide) n h
theorem mk23 (n : Nat) (h : n ≤ 4096) : ∃ C : Array Value, (∀ j, j < n → C[j]? = some (.bool false)) ∧ ∀ w, (Instr.makeSlice 23 (.int .i64 (n : Int)) (.int .i64 (n : Int))).run Ybaf.prog w = .ok (.slice (some ⟨w.heap.size, 0, none⟩) n n) (w.alloc (.cells C 4)) :=
  mk_any Ybaf.underlying23 info4 rfl (by decide) n h
theorem mk27 (n : Nat) (h : n ≤ 4096) : ∃ C : Array Value, (∀ j, j < n → C[j]? = some (.int .i64 0)) ∧ ∀ w, (Instr.makeSlice 27 (.int .i64 (n : Int)) (.int .i64 (n : Int))).run Ybaf.prog w = .ok (.slice (some ⟨w.heap.size, 0, none⟩) n n) (w.alloc (.cells C 3)) :=
  mk_any Ybaf.underlying27 info3 rfl (by decide) n h
theorem mk30 (n : Nat) (h : n ≤ 4096) : ∃ C : Array Value, (∀ j, j < n → C[j]? = some (.pointer none)) ∧ ∀ w, (Instr.makeSlice 30 (.int .i64 (n : Int)) (.int .i64 (n : Int))).run Ybaf.prog w = .ok (.slice (some ⟨w.heap.size, 0, none⟩) n n) (w.alloc (.cells C 36)) :=
  mk_any Ybaf.underlying30 info36 rfl (by decide) n h
theorem mk31 (n : Nat) (h : n ≤ 4096) : ∃ C : Array Value, (∀ j, j < n → C[j]? = some (.pointer none)) ∧ ∀ w, (Instr.makeSlice 31 (.int .i64 (n : Int)) (.int .i64 (n : Int))).run Ybaf.prog w = .ok (.slice (some ⟨w.heap.size, 0, none⟩) n n) (w.alloc (.cells C 40)) :=
  mk_any Ybaf.underlying31 info40 rfl (by decide) n h
theorem mk32 (n : Nat) (h : n ≤ 4096) : ∃ C : Array Value, (∀ j, j < n → C[j]? = some (.slice none 0 0)) ∧ ∀ w, (Instr.makeSlice 32 (.int .i64 (n : Int)) (.int .i64 (n : Int))).run Ybaf.prog w = .ok (.slice (some ⟨w.heap.size, 0, none⟩) n n) (w.alloc (.cells C 25)) :=
  mk_any Ybaf.underlying32 info25 rfl (by decide) n h
end Go.Proofs.YbulkdabsFmt.Rw
