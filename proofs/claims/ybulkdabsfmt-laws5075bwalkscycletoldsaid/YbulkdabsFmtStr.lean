/-
  (Package).String (6) AT THIS DUMP.
-/
import Derived.Test.YbulkdabsFmtName
import Derived.Deep.QuietTactic
namespace Go.Proofs.YbulkdabsFmt.Nm
open Go.ChangeShapes Go.WideShapes Go.ChangeAt Go.RowKit
set_option maxHeartbeats 1000000 in
theorem string_any (f v : Nat) (p : ByteArray) (w : World) (hf : f < w.heap.size) (hv : v < w.heap.size) (cf : w.cell? ⟨f, 2, none⟩ = some (.string p)) (cv : w.cell? ⟨v, 0, none⟩ = some (.string ⟨#[49]⟩)) (hp : p.size ≤ 1024) :
    Calls Ybaf.prog 6 #[.agg #[.pointer (some ⟨f, 0, none⟩), .pointer (some ⟨v, 0, none⟩), .map none, .map none]] w fun e w' => e = .returned (.string (p ++ ⟨#[64]⟩ ++ ⟨#[49]⟩)) ∧ Below w.heap.size w w' := by
  have hs1 : p.size + 1 ≤ 9223372036854775807 := by omega
  have hs2 : (p ++ (⟨#[64]⟩ : ByteArray)).size + 1 ≤ 9223372036854775807 := by rw [ByteArray.size_append]; show p.size + 1 + 1 ≤ _; omega
  have q1 : ∀ W : World, (Op.stringOp .add p ⟨#[64]⟩).run Ybaf.prog W = .ok (.string (p ++ ⟨#[64]⟩)) W := fun W => run_string_add_sum W _ _ hs1
  have q2 : ∀ W : World, (Op.stringOp .add (p ++ ⟨#[64]⟩) ⟨#[49]⟩).run Ybaf.prog W = .ok (.string (p ++ ⟨#[64]⟩ ++ ⟨#[49]⟩)) W := fun W => run_string_add_sum W _ _ hs2
  clear hs1 hs2
  generalize p ++ (⟨#[64]⟩ : ByteArray) = p2 at q1 q2
  generalize p2 ++ (⟨#[49]⟩ : ByteArray) = p3 at q2
  go_enter Ybaf.func6, Ybaf.ntmps6
  go_wp2
  go_quiet (fail)
  go_wp2
  go_ret
  exact ⟨rfl, ((Below.refl _ _).alloc (Nat.le_refl _) _).trans ⟨rfl, rfl, rfl, Nat.le_refl _, fun _ _ => rfl⟩⟩
end Go.Proofs.YbulkdabsFmt.Nm
