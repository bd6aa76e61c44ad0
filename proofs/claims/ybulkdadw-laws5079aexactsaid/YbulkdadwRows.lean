/-
  No cell of these rows narrows 'for every input' (looked for: loops, veiled, ifaces, maps, wideKeys, modest, calm, conditions, laid).
  DERIVED. THE GIVEN ROWS OF THIS SEAT. 3 by the template 'for every input the law returns true; each argument reads behind the call as it read before'; 0 by the template 'total and deterministic' (their statements: YbulkdadwTotals.lean).
  GIVEN WITH THE SEED: the statements are not yours to turn. If you find one false, say at which input.
  Laid BY PROGRAM, IN A SANDBOX (cutbox-rows.mjs): the forced cells as the released guide's own fill.sh prints them over the translation a119b2a6a6085eb6… (all of the seat's roots in one cut). By AI agents, Wed Nov 11 2026. No macro, syntax, notation, axiom, sorry.
-/
import Derived.Test.YbulkdadwChecked
import GoSem.Claim
import GoSem.ClaimJoined
import GoSem.ClaimMapViews
import Derived.JoinedTies
import Derived.KernelRfl
namespace Go.Proofs.Ybulkdadw
/- THE CELL 'sum', in the pinned program and in every row, IS THE sha256 OF THE DUMP (.gsa) THAT YbulkdadwProg.lean LOADS. Nothing in Lean hashes anything: it is a label: what it is worth is what the hold of that sum in a sandbox is worth. -/
noncomputable def Yba.pinned : Pinned := { name := "ybulkdadw", sum := "a119b2a6a6085eb6965e5c12021f1f2d767086fd8709fd159ae99c0a9d44199a", checked := Yba.checked }
namespace Rows
def none {H : Type} : Left H := { results := [], args := [] }

/-- 'engine.LawS5079AExact': WHATEVER THE INPUT: true; the input reads as it did. -/
def lawS5079AExactSpec : ChangeSpec := { name := "lawS5079AExact", fn := fun _ => fun
  | [d1, d2, d3, d4, d5, d6, d7] => { results := [.lit (.bool true)], args := [d1, d2, d3, d4, d5, d6, d7] }
  | _ => none }
def lawS5079AExactRow : OpenClaim := { program := "ybulkdadw", sum := "a119b2a6a6085eb6965e5c12021f1f2d767086fd8709fd159ae99c0a9d44199a", func := "example.com/hullward/hullward/pkg/engine.LawS5079AExact", spec := "lawS5079AExact", inPlace := ["math.Float64frombits", "math.Float64bits"], apart := false }
def LawS5079AExactSaid : Prop := lawS5079AExactRow.holds Yba.pinned (OpenSpec.ofChange lawS5079AExactSpec)

/-- ITS FALSE NEIGHBOUR: 'it returns false'. Refute it at one input. -/
def lawS5079AExactWrong : ChangeSpec := { name := "lawS5079AExact", fn := fun _ => fun
  | [d1, d2, d3, d4, d5, d6, d7] => { results := [.lit (.bool false)], args := [d1, d2, d3, d4, d5, d6, d7] }
  | _ => none }
def LawS5079AExactWrongFalsely : Prop := lawS5079AExactRow.holds Yba.pinned (OpenSpec.ofChange lawS5079AExactWrong)

/-- 'engine.LawS5079AOutside': WHATEVER THE INPUT: true; the input reads as it did. -/
def lawS5079AOutsideSpec : ChangeSpec := { name := "lawS5079AOutside", fn := fun _ => fun
  | [d1, d2, d3, d4, d5] => { results := [.lit (.bool true)], args := [d1, d2, d3, d4, d5] }
  | _ => none }
def lawS5079AOutsideRow : OpenClaim := { program := "ybulkdadw", sum := "a119b2a6a6085eb6965e5c12021f1f2d767086fd8709fd159ae99c0a9d44199a", func := "example.com/hullward/hullward/pkg/engine.LawS5079AOutside", spec := "lawS5079AOutside", inPlace := ["math.Float64frombits", "math.Float64bits"], apart := false }
def LawS5079AOutsideSaid : Prop := lawS5079AOutsideRow.holds Yba.pinned (OpenSpec.ofChange lawS5079AOutsideSpec)

/-- ITS FALSE NEIGHBOUR: 'it returns false'. Refute it at one input. -/
def lawS5079AOutsideWrong : ChangeSpec := { name := "lawS5079AOutside", fn := fun _ => fun
  | [d1, d2, d3, d4, d5] => { results := [.lit (.bool false)], args := [d1, d2, d3, d4, d5] }
  | _ => none }
def LawS5079AOutsideWrongFalsely : Prop := lawS5079AOutsideRow.holds Yba.pinned (OpenSpec.ofChange lawS5079AOutsideWrong)

/-- 'hop.LawS5079BShape': WHATEVER THE INPUT: true; the input reads as it did. -/
def lawS5079BShapeSpec : ChangeSpec := { name := "lawS5079BShape", fn := fun _ => fun
  | [d1, d2, d3] => { results := [.lit (.bool true)], args := [d1, d2, d3] }
  | _ => none }
def lawS5079BShapeRow : OpenClaim := { program := "ybulkdadw", sum := "a119b2a6a6085eb6965e5c12021f1f2d767086fd8709fd159ae99c0a9d44199a", func := "example.com/hullward/hullward/pkg/hop.LawS5079BShape", spec := "lawS5079BShape", apart := false }
def LawS5079BShapeSaid : Prop := lawS5079BShapeRow.holds Yba.pinned (OpenSpec.ofChange lawS5079BShapeSpec)

/-- ITS FALSE NEIGHBOUR: 'it returns false'. Refute it at one input. -/
def lawS5079BShapeWrong : ChangeSpec := { name := "lawS5079BShape", fn := fun _ => fun
  | [d1, d2, d3] => { results := [.lit (.bool false)], args := [d1, d2, d3] }
  | _ => none }
def LawS5079BShapeWrongFalsely : Prop := lawS5079BShapeRow.holds Yba.pinned (OpenSpec.ofChange lawS5079BShapeWrong)

end Rows
end Go.Proofs.Ybulkdadw
