/-
  No cell of these rows narrows 'for every input' (looked for: loops, veiled, ifaces, maps, wideKeys, modest, calm, conditions, laid).
  DERIVED. THE GIVEN ROWS OF THIS SEAT. 2 by the template 'for every input the law returns true; each argument reads behind the call as it read before'; 0 by the template 'total and deterministic' (their statements: YbulkdabeTotals.lean).
  GIVEN WITH THE SEED: the statements are not yours to turn. If you find one false, say at which input.
  Laid BY PROGRAM, IN A SANDBOX (cutbox-rows.mjs): the forced cells as the released guide's own fill.sh prints them over the translation 07e2b4f9192d1567… (all of the seat's roots in one cut). By AI agents, Wed Nov 11 2026. No macro, syntax, notation, axiom, sorry.
-/
import Derived.Test.YbulkdabeChecked
import GoSem.Claim
import GoSem.ClaimJoined
import GoSem.ClaimMapViews
import Derived.JoinedTies
import Derived.KernelRfl
namespace Go.Proofs.Ybulkdabe
/- THE CELL 'sum', in the pinned program and in every row, IS THE sha256 OF THE DUMP (.gsa) THAT YbulkdabeProg.lean LOADS. Nothing in Lean hashes anything: it is a label: what it is worth is what the hold of that sum in a sandbox is worth. -/
noncomputable def Yba.pinned : Pinned := { name := "ybulkdabe", sum := "07e2b4f9192d15670e279e141e25ae6b14576fa13ad26aef046e1d8e672ecf2e", checked := Yba.checked }
namespace Rows
def none {H : Type} : Left H := { results := [], args := [] }

/-- 'ca.LawS5074CModel': WHATEVER THE INPUT: true; the input reads as it did. -/
def lawS5074CModelSpec : ChangeSpec := { name := "lawS5074CModel", fn := fun _ => fun
  | [d] => { results := [.lit (.bool true)], args := [d] }
  | _ => none }
def lawS5074CModelRow : OpenClaim := { program := "ybulkdabe", sum := "07e2b4f9192d15670e279e141e25ae6b14576fa13ad26aef046e1d8e672ecf2e", func := "example.com/enrollsmith/enrollsmith/ca.LawS5074CModel", spec := "lawS5074CModel", apart := false }
def LawS5074CModelSaid : Prop := lawS5074CModelRow.holds Yba.pinned (OpenSpec.ofChange lawS5074CModelSpec)

/-- ITS FALSE NEIGHBOUR: 'it returns false'. Refute it at one input. -/
def lawS5074CModelWrong : ChangeSpec := { name := "lawS5074CModel", fn := fun _ => fun
  | [d] => { results := [.lit (.bool false)], args := [d] }
  | _ => none }
def LawS5074CModelWrongFalsely : Prop := lawS5074CModelRow.holds Yba.pinned (OpenSpec.ofChange lawS5074CModelWrong)

/-- 'ca.LawS5074CBuilt': WHATEVER THE INPUT: true; the input reads as it did. -/
def lawS5074CBuiltSpec : ChangeSpec := { name := "lawS5074CBuilt", fn := fun _ => fun
  | [d] => { results := [.lit (.bool true)], args := [d] }
  | _ => none }
def lawS5074CBuiltRow : OpenClaim := { program := "ybulkdabe", sum := "07e2b4f9192d15670e279e141e25ae6b14576fa13ad26aef046e1d8e672ecf2e", func := "example.com/enrollsmith/enrollsmith/ca.LawS5074CBuilt", spec := "lawS5074CBuilt", apart := false }
def LawS5074CBuiltSaid : Prop := lawS5074CBuiltRow.holds Yba.pinned (OpenSpec.ofChange lawS5074CBuiltSpec)

/-- ITS FALSE NEIGHBOUR: 'it returns false'. Refute it at one input. -/
def lawS5074CBuiltWrong : ChangeSpec := { name := "lawS5074CBuilt", fn := fun _ => fun
  | [d] => { results := [.lit (.bool false)], args := [d] }
  | _ => none }
def LawS5074CBuiltWrongFalsely : Prop := lawS5074CBuiltRow.holds Yba.pinned (OpenSpec.ofChange lawS5074CBuiltWrong)

end Rows
end Go.Proofs.Ybulkdabe
