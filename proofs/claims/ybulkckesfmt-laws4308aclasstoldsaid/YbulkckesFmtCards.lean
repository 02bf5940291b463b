/-
  DERIVED. GIVEN WITH THE SEED: THE CARDS: each row of YbulkckesFmtRows.lean that lists a variable, with what it lists TIED to the program's text (the seventh form; the later family's looks); each row that meets fmt, with fmt's text TOLD by the authors' own Lean function (tested against real Go, not proved from fmt's source: count such statements apart). THE CARD IS WHAT COUNTS. Prove the row's statement (the work); the ties are given (YbulkckesFmtTie.lean); close each card by the builder's one call (the guide's Derived/Test/ToyasCard.lean, 'card_holds'). Laid BY PROGRAM, IN A SANDBOX (cutbox-door.mjs). By AI agents, Wed Nov 11 2026. No macro, syntax, notation, axiom, sorry.
-/
import Derived.Test.YbulkckesFmtRows
import GoSem.ClaimSeven
namespace Go.Proofs.YbulkckesFmt
namespace Rows

/-- THE TOLD CARD OF 'sua.LawS4308AClass'. -/
def lawS4308AClassCard : Claim7 := { stood := { row := lawS4308AClassRow, standIns := [], harness := (true, "9534950939c9a2672b65065ccea36f2e4eafd094ef9f8dcc0ab088a4bce21198"), looks := false }, told := true, goes := false }
def LawS4308AClassToldSaid : Prop := Claim7.holds Ybaf.pinned (.plain (OpenSpec.ofChange lawS4308AClassSpec)) lawS4308AClassCard
/-- ITS FALSE NEIGHBOUR. Refute it at one input. -/
def LawS4308AClassToldWrongFalsely : Prop := Claim7.holds Ybaf.pinned (.plain (OpenSpec.ofChange lawS4308AClassWrong)) lawS4308AClassCard
end Rows
end Go.Proofs.YbulkckesFmt
