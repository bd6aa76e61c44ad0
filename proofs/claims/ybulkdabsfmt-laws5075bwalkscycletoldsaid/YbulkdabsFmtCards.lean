/-
  DERIVED. GIVEN WITH THE SEED: THE CARDS: each row of YbulkdabsFmtRows.lean that lists a variable, with what it lists TIED to the program's text (the seventh form; the later family's looks); each row that meets fmt, with fmt's text TOLD by the authors' own Lean function (tested against real Go, not proved from fmt's source: count such statements apart). THE CARD IS WHAT COUNTS. Prove the row's statement (the work); the ties are given (YbulkdabsFmtTie.lean); close each card by the builder's one call (the guide's Derived/Test/ToyasCard.lean, 'card_holds'). Laid BY PROGRAM, IN A SANDBOX (cutbox-door.mjs). By AI agents, Wed Nov 11 2026. No macro, syntax, notation, axiom, sorry.
-/
import Derived.Test.YbulkdabsFmtRows
import GoSem.ClaimSeven
namespace Go.Proofs.YbulkdabsFmt
namespace Rows

/-- THE TOLD CARD OF 'resolve.LawS5075BWalksCycle'. -/
def lawS5075BWalksCycleCard : Claim7 := { stood := { row := lawS5075BWalksCycleRow, standIns := [], harness := (true, "dfd52ca549fa1e38404fc20786153a6f29e0732a8b653d227f91594318b12178"), looks := false }, told := true, goes := false }
def LawS5075BWalksCycleToldSaid : Prop := Claim7.holds Ybaf.pinned (.plain (OpenSpec.ofChange lawS5075BWalksCycleSpec)) lawS5075BWalksCycleCard
/-- ITS FALSE NEIGHBOUR. Refute it at one input. -/
def LawS5075BWalksCycleToldWrongFalsely : Prop := Claim7.holds Ybaf.pinned (.plain (OpenSpec.ofChange lawS5075BWalksCycleWrong)) lawS5075BWalksCycleCard
end Rows
end Go.Proofs.YbulkdabsFmt
