/-
  No cell of these rows narrows 'for every input' (looked for: loops, veiled, ifaces, maps, wideKeys, modest, calm, conditions, laid).
  DERIVED. THE GIVEN ROWS OF THIS SEAT. 1 by the template 'for every input the law returns true; each argument reads behind the call as it read before'; 0 by the template 'total and deterministic' (their statements: YbulkckesFmtTotals.lean).
  GIVEN WITH THE SEED: the statements are not yours to turn. If you find one false, say at which input.
  Laid BY PROGRAM, IN A SANDBOX (cutbox-rows.mjs): the forced cells as the released guide's own fill.sh prints them over the translation d1282ac51d46e246… (all of the seat's roots in one cut). By AI agents, Wed Nov 11 2026. No macro, syntax, notation, axiom, sorry.
-/
import Derived.Test.YbulkckesFmtChecked
import GoSem.Claim
import GoSem.ClaimJoined
import GoSem.ClaimMapViews
import Derived.JoinedTies
import Derived.KernelRfl
namespace Go.Proofs.YbulkckesFmt
/- THE CELL 'sum', in the pinned program and in every row, IS THE sha256 OF THE DUMP (.gsa) THAT YbulkckesFmtProg.lean LOADS. Nothing in Lean hashes anything: it is a label: what it is worth is what the hold of that sum in a sandbox is worth. -/
noncomputable def Ybaf.pinned : Pinned := { name := "ybulkckesfmt", sum := "d1282ac51d46e246b71a3db8d429faae5e4707ef0cd5bb926600f5ed1bd42054", checked := Ybaf.checked }
namespace Rows
def none {H : Type} : Left H := { results := [], args := [] }

/-- 'sua.LawS4308AClass': WHATEVER THE INPUT: true; the input reads as it did. -/
def lawS4308AClassSpec : ChangeSpec := { name := "lawS4308AClass", fn := fun _ => fun
  | [d1, d2, d3, d4, d5, d6] => { results := [.lit (.bool true)], args := [d1, d2, d3, d4, d5, d6] }
  | _ => none }
def lawS4308AClassRow : OpenClaim := { program := "ybulkckesfmt", sum := "d1282ac51d46e246b71a3db8d429faae5e4707ef0cd5bb926600f5ed1bd42054", func := "example.com/aerofence/aerofence/sua.LawS4308AClass", spec := "lawS4308AClass", stops := ["fmt.Sprintf, its operands' methods called"], inPlace := ["fmt.Sprintf"], unfollowed := true, recurses := true, apart := false }
/-- NO THEOREM (fmt's text is open here; it may be false): for the released tool's asking of the row's closed facts alone. THE STATEMENT IS 'LawS4308AClassToldSaid' (YbulkckesFmtCards.lean). -/
def LawS4308AClassFormAsk : Prop := lawS4308AClassRow.holds Ybaf.pinned (OpenSpec.ofChange lawS4308AClassSpec)

/-- ITS FALSE NEIGHBOUR: 'it returns false'. Refute it at one input. -/
def lawS4308AClassWrong : ChangeSpec := { name := "lawS4308AClass", fn := fun _ => fun
  | [d1, d2, d3, d4, d5, d6] => { results := [.lit (.bool false)], args := [d1, d2, d3, d4, d5, d6] }
  | _ => none }
def LawS4308AClassWrongFormAsk : Prop := lawS4308AClassRow.holds Ybaf.pinned (OpenSpec.ofChange lawS4308AClassWrong)

end Rows
end Go.Proofs.YbulkckesFmt
