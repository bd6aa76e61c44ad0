/-
  No cell of these rows narrows 'for every input' (looked for: loops, veiled, ifaces, maps, wideKeys, modest, calm, conditions, laid).
  DERIVED. THE GIVEN ROWS OF THIS SEAT. 2 by the template 'for every input the law returns true; each argument reads behind the call as it read before'; 0 by the template 'total and deterministic' (their statements: YbulkdadiTotals.lean).
  GIVEN WITH THE SEED: the statements are not yours to turn. If you find one false, say at which input.
  Laid BY PROGRAM, IN A SANDBOX (cutbox-rows.mjs): the forced cells as the released guide's own fill.sh prints them over the translation 9968c36c5427862e… (all of the seat's roots in one cut). By AI agents, Wed Nov 11 2026. No macro, syntax, notation, axiom, sorry.
-/
import Derived.Test.YbulkdadiChecked
import GoSem.Claim
import GoSem.ClaimJoined
import GoSem.ClaimMapViews
import Derived.JoinedTies
import Derived.KernelRfl
namespace Go.Proofs.Ybulkdadi
/- THE CELL 'sum', in the pinned program and in every row, IS THE sha256 OF THE DUMP (.gsa) THAT YbulkdadiProg.lean LOADS. Nothing in Lean hashes anything: it is a label: what it is worth is what the hold of that sum in a sandbox is worth. -/
noncomputable def Yba.pinned : Pinned := { name := "ybulkdadi", sum := "9968c36c5427862e3d944ad235581adad17e894a97aeaafda1cdedcff5393e10", checked := Yba.checked }
namespace Rows
def none {H : Type} : Left H := { results := [], args := [] }

/-- 'larder.LawS5078ASorted': WHATEVER THE INPUT: true; the input reads as it did. -/
def lawS5078ASortedSpec : ChangeSpec := { name := "lawS5078ASorted", fn := fun _ => fun
  | [d] => { results := [.lit (.bool true)], args := [d] }
  | _ => none }
def lawS5078ASortedRow : OpenClaim := { program := "ybulkdadi", sum := "9968c36c5427862e3d944ad235581adad17e894a97aeaafda1cdedcff5393e10", func := "example.com/larder/larder.LawS5078ASorted", spec := "lawS5078ASorted", inPlace := ["internal/reflectlite.ValueOf", "internal/reflectlite.Swapper", "(internal/reflectlite.Value).Len"], unfollowed := true, recurses := true, apart := false }
def LawS5078ASortedSaid : Prop := lawS5078ASortedRow.holds Yba.pinned (OpenSpec.ofChange lawS5078ASortedSpec)

/-- ITS FALSE NEIGHBOUR: 'it returns false'. Refute it at one input. -/
def lawS5078ASortedWrong : ChangeSpec := { name := "lawS5078ASorted", fn := fun _ => fun
  | [d] => { results := [.lit (.bool false)], args := [d] }
  | _ => none }
def LawS5078ASortedWrongFalsely : Prop := lawS5078ASortedRow.holds Yba.pinned (OpenSpec.ofChange lawS5078ASortedWrong)

/-- 'larder.LawS5078ATies': WHATEVER THE INPUT: true; the input reads as it did. -/
def lawS5078ATiesSpec : ChangeSpec := { name := "lawS5078ATies", fn := fun _ => fun
  | [d1, d2] => { results := [.lit (.bool true)], args := [d1, d2] }
  | _ => none }
def lawS5078ATiesRow : OpenClaim := { program := "ybulkdadi", sum := "9968c36c5427862e3d944ad235581adad17e894a97aeaafda1cdedcff5393e10", func := "example.com/larder/larder.LawS5078ATies", spec := "lawS5078ATies", inPlace := ["internal/reflectlite.ValueOf", "internal/reflectlite.Swapper", "(internal/reflectlite.Value).Len"], unfollowed := true, recurses := true, apart := false }
def LawS5078ATiesSaid : Prop := lawS5078ATiesRow.holds Yba.pinned (OpenSpec.ofChange lawS5078ATiesSpec)

/-- ITS FALSE NEIGHBOUR: 'it returns false'. Refute it at one input. -/
def lawS5078ATiesWrong : ChangeSpec := { name := "lawS5078ATies", fn := fun _ => fun
  | [d1, d2] => { results := [.lit (.bool false)], args := [d1, d2] }
  | _ => none }
def LawS5078ATiesWrongFalsely : Prop := lawS5078ATiesRow.holds Yba.pinned (OpenSpec.ofChange lawS5078ATiesWrong)

end Rows
end Go.Proofs.Ybulkdadi
