/-
  No cell of these rows narrows 'for every input' (looked for: loops, veiled, ifaces, maps, wideKeys, modest, calm, conditions, laid).
  DERIVED. THE GIVEN ROWS OF THIS SEAT. 2 by the template 'for every input the law returns true; each argument reads behind the call as it read before'; 0 by the template 'total and deterministic' (their statements: YbulkckokTotals.lean).
  GIVEN WITH THE SEED: the statements are not yours to turn. If you find one false, say at which input.
  Laid BY PROGRAM, IN A SANDBOX (cutbox-rows.mjs): the forced cells as the released guide's own fill.sh prints them over the translation c1d06af6b48f2e59… (all of the seat's roots in one cut). By AI agents, Wed Nov 11 2026. No macro, syntax, notation, axiom, sorry.
-/
import Derived.Test.YbulkckokChecked
import GoSem.Claim
import GoSem.ClaimJoined
import GoSem.ClaimMapViews
import Derived.JoinedTies
import Derived.KernelRfl
namespace Go.Proofs.Ybulkckok
/- THE CELL 'sum', in the pinned program and in every row, IS THE sha256 OF THE DUMP (.gsa) THAT YbulkckokProg.lean LOADS. Nothing in Lean hashes anything: it is a label: what it is worth is what the hold of that sum in a sandbox is worth. -/
noncomputable def Yba.pinned : Pinned := { name := "ybulkckok", sum := "c1d06af6b48f2e59137ed4252bc64bd5669bfdee49d7030b9e586e1437bebeed", checked := Yba.checked }
namespace Rows
def none {H : Type} : Left H := { results := [], args := [] }

/-- 'store.LawS4326BSpans': WHATEVER THE INPUT: true; the input reads as it did. -/
def lawS4326BSpansSpec : ChangeSpec := { name := "lawS4326BSpans", fn := fun _ => fun
  | [d1, d2, d3] => { results := [.lit (.bool true)], args := [d1, d2, d3] }
  | _ => none }
def lawS4326BSpansRow : OpenClaim := { program := "ybulkckok", sum := "c1d06af6b48f2e59137ed4252bc64bd5669bfdee49d7030b9e586e1437bebeed", func := "example.com/proofplane/proofplane/check/store.LawS4326BSpans", spec := "lawS4326BSpans", apart := false }
def LawS4326BSpansSaid : Prop := lawS4326BSpansRow.holds Yba.pinned (OpenSpec.ofChange lawS4326BSpansSpec)

/-- ITS FALSE NEIGHBOUR: 'it returns false'. Refute it at one input. -/
def lawS4326BSpansWrong : ChangeSpec := { name := "lawS4326BSpans", fn := fun _ => fun
  | [d1, d2, d3] => { results := [.lit (.bool false)], args := [d1, d2, d3] }
  | _ => none }
def LawS4326BSpansWrongFalsely : Prop := lawS4326BSpansRow.holds Yba.pinned (OpenSpec.ofChange lawS4326BSpansWrong)

/-- 'store.LawS4326BFixed': WHATEVER THE INPUT: true; the input reads as it did. -/
def lawS4326BFixedSpec : ChangeSpec := { name := "lawS4326BFixed", fn := fun _ => fun
  | [d1, d2, d3, d4, d5] => { results := [.lit (.bool true)], args := [d1, d2, d3, d4, d5] }
  | _ => none }
def lawS4326BFixedRow : OpenClaim := { program := "ybulkckok", sum := "c1d06af6b48f2e59137ed4252bc64bd5669bfdee49d7030b9e586e1437bebeed", func := "example.com/proofplane/proofplane/check/store.LawS4326BFixed", spec := "lawS4326BFixed", apart := false }
def LawS4326BFixedSaid : Prop := lawS4326BFixedRow.holds Yba.pinned (OpenSpec.ofChange lawS4326BFixedSpec)

/-- ITS FALSE NEIGHBOUR: 'it returns false'. Refute it at one input. -/
def lawS4326BFixedWrong : ChangeSpec := { name := "lawS4326BFixed", fn := fun _ => fun
  | [d1, d2, d3, d4, d5] => { results := [.lit (.bool false)], args := [d1, d2, d3, d4, d5] }
  | _ => none }
def LawS4326BFixedWrongFalsely : Prop := lawS4326BFixedRow.holds Yba.pinned (OpenSpec.ofChange lawS4326BFixedWrong)

end Rows
end Go.Proofs.Ybulkckok
