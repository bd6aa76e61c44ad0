/-
  No cell of these rows narrows 'for every input' (looked for: loops, veiled, ifaces, maps, wideKeys, modest, calm, conditions, laid).
  DERIVED. THE GIVEN ROWS OF THIS SEAT. 1 by the template 'for every input the law returns true; each argument reads behind the call as it read before'; 0 by the template 'total and deterministic' (their statements: YbulkdabsFmtTotals.lean).
  GIVEN WITH THE SEED: the statements are not yours to turn. If you find one false, say at which input.
  Laid BY PROGRAM, IN A SANDBOX (cutbox-rows.mjs): the forced cells as the released guide's own fill.sh prints them over the translation 9958eaf0eb7e88a5… (all of the seat's roots in one cut). By AI agents, Wed Nov 11 2026. No macro, syntax, notation, axiom, sorry.
-/
import Derived.Test.YbulkdabsFmtChecked
import GoSem.Claim
import GoSem.ClaimJoined
import GoSem.ClaimMapViews
import Derived.JoinedTies
import Derived.KernelRfl
namespace Go.Proofs.YbulkdabsFmt
/- THE CELL 'sum', in the pinned program and in every row, IS THE sha256 OF THE DUMP (.gsa) THAT YbulkdabsFmtProg.lean LOADS. Nothing in Lean hashes anything: it is a label: what it is worth is what the hold of that sum in a sandbox is worth. -/
noncomputable def Ybaf.pinned : Pinned := { name := "ybulkdabsfmt", sum := "9958eaf0eb7e88a58083873c0aa531633bef06f35cf48c2a5c240f47b3d25ce9", checked := Ybaf.checked }
namespace Rows
def none {H : Type} : Left H := { results := [], args := [] }

/-- 'resolve.LawS5075BWalksCycle': WHATEVER THE INPUT: true; the input reads as it did. -/
def lawS5075BWalksCycleSpec : ChangeSpec := { name := "lawS5075BWalksCycle", fn := fun _ => fun
  | [d1, d2, d3] => { results := [.lit (.bool true)], args := [d1, d2, d3] }
  | _ => none }
def lawS5075BWalksCycleRow : OpenClaim := { program := "ybulkdabsfmt", sum := "9958eaf0eb7e88a58083873c0aa531633bef06f35cf48c2a5c240f47b3d25ce9", func := "example.com/quarry/quarry/resolve.LawS5075BWalksCycle", spec := "lawS5075BWalksCycle", stops := ["fmt.errorf"], inPlace := ["internal/abi.NoEscape", "internal/bytealg.MakeNoZero", "fmt.errorf"], apart := false }
/-- NO THEOREM (fmt's text is open here; it may be false): for the released tool's asking of the row's closed facts alone. THE STATEMENT IS 'LawS5075BWalksCycleToldSaid' (YbulkdabsFmtCards.lean). -/
def LawS5075BWalksCycleFormAsk : Prop := lawS5075BWalksCycleRow.holds Ybaf.pinned (OpenSpec.ofChange lawS5075BWalksCycleSpec)

/-- ITS FALSE NEIGHBOUR: 'it returns false'. Refute it at one input. -/
def lawS5075BWalksCycleWrong : ChangeSpec := { name := "lawS5075BWalksCycle", fn := fun _ => fun
  | [d1, d2, d3] => { results := [.lit (.bool false)], args := [d1, d2, d3] }
  | _ => none }
def LawS5075BWalksCycleWrongFormAsk : Prop := lawS5075BWalksCycleRow.holds Ybaf.pinned (OpenSpec.ofChange lawS5075BWalksCycleWrong)

end Rows
end Go.Proofs.YbulkdabsFmt
