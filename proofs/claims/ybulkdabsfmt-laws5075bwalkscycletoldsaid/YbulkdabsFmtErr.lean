/-
  fmt.Errorf (7) AT THIS DUMP, at the one format of cycleError, its operand a string: the error is not nil.
-/
import Derived.Test.YbulkdabsFmtName
import Derived.Stop.CallBack
import Derived.Stop.IfaceNil
import Derived.Stop.FmtTextLaws
import GoSem.ClaimData
namespace Go.Proofs.YbulkdabsFmt.Er
open Go.RowKit Go.Extern.Stop Go.Stop Go.Extern

@[go_sem] theorem call9 (args : Array Value) (w : World) : (callFunc 9 args).run Ybaf.prog w = ((FmtStop.errorf #[9, 62] #[54] args).run Ybaf.prog w).andThen fun v w' => .ok (.value v) w' :=
  run_callFunc_extern Ybaf.func9 (by kernel_rfl) (by kernel_rfl) (by kernel_rfl) (by kernel_rfl) args w
@[go_sem] theorem guard (name : String) (w : World) : (FmtStop.guard name).run Ybaf.prog w = .ok () w := by kernel_rfl
@[go_sem] theorem fmt0 : FmtStop.printed? ⟨#[116, 104, 101, 32, 114, 101, 113, 117, 105, 114, 101, 109, 101, 110, 116, 115, 32, 102, 111, 114, 109, 32, 97, 32, 99, 121, 99, 108, 101, 58, 32, 37, 115]⟩ 1 = some [(0, 115, false)] := by kernel_rfl
@[go_sem] theorem fmt0r (w : World) : (FmtDoors.printed ⟨#[116, 104, 101, 32, 114, 101, 113, 117, 105, 114, 101, 109, 101, 110, 116, 115, 32, 102, 111, 114, 109, 32, 97, 32, 99, 121, 99, 108, 101, 58, 32, 37, 115]⟩ 1).run Ybaf.prog w = .ok [(0, 115, false)] w := by kernel_rfl
def shape9 : List UInt8 := [12, 6, 0, 0, 0, 0, 0, 0, 0, 115, 116, 114, 105, 110, 103]
@[go_sem] theorem op9_115 (name : String) (x : ByteArray) (w : World) : (FmtStop.operand name false 115 false (.iface 9 (.string x))).run Ybaf.prog w = .ok (shape9, FmtStop.pack x.data.toList) w := by kernel_rfl
@[go_sem] theorem op9_115w (name : String) (x : ByteArray) (w : World) : (FmtStop.operand name true 115 false (.iface 9 (.string x))).run Ybaf.prog w = .ok (shape9, FmtStop.pack x.data.toList) w := by kernel_rfl
@[go_sem] theorem ptr71 (w : World) : (FmtStop.ptrTo "errors.errorString").run Ybaf.prog w = .ok 71 w := by kernel_rfl
@[go_sem] theorem elem71 (w : World) : (elemOf 71).run Ybaf.prog w = .ok 73 w := by kernel_rfl

set_option maxHeartbeats 1000000 in
theorem errorf_any (F : Interp) (x : ByteArray) (blk : Nat) (w : World) (hF : F.answers w.tape) (hc : w.cell? ⟨blk, 0, none⟩ = some (.iface 9 (.string x))) :
    Calls Ybaf.prog 7 #[.string ⟨#[116, 104, 101, 32, 114, 101, 113, 117, 105, 114, 101, 109, 101, 110, 116, 115, 32, 102, 111, 114, 109, 32, 97, 32, 99, 121, 99, 108, 101, 58, 32, 37, 115]⟩, .slice (some ⟨blk, 0, none⟩) 1 1] w fun e w' => e = .returned (.iface 71 (.pointer (some ⟨w.heap.size, 0, none⟩))) ∧ Below w.heap.size w w' := by
  have hF' : ∀ i name reading k range, w.tape i (.extern (word name reading k) range) = F name reading k := hF
  go_enter Ybaf.func7, Ybaf.ntmps7
  go_wp2
  go_ret
  exact ⟨rfl, ((Below.refl _ _).alloc (Nat.le_refl _) _).drew⟩
end Go.Proofs.YbulkdabsFmt.Er
