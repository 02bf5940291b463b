/-
  No cell of these rows narrows 'for every input' (looked for: loops, veiled, ifaces, maps, wideKeys, modest, calm, conditions, laid).
  DERIVED. THE GIVEN ROWS OF THIS SEAT. 2 by the template 'for every input the law returns true; each argument reads behind the call as it read before'; 0 by the template 'total and deterministic' (their statements: YbulkckeeTotals.lean).
  GIVEN WITH THE SEED: the statements are not yours to turn. If you find one false, say at which input.
  Laid BY PROGRAM, IN A SANDBOX (cutbox-rows.mjs): the forced cells as the released guide's own fill.sh prints them over the translation 154e9ed57540fda6… (all of the seat's roots in one cut). By AI agents, Wed Nov 11 2026. No macro, syntax, notation, axiom, sorry.
-/
import Derived.Test.YbulkckeeChecked
import GoSem.Claim
import GoSem.ClaimJoined
import GoSem.ClaimMapViews
import Derived.JoinedTies
import Derived.KernelRfl
namespace Go.Proofs.Ybulkckee
/- THE CELL 'sum', in the pinned program and in every row, IS THE sha256 OF THE DUMP (.gsa) THAT YbulkckeeProg.lean LOADS. Nothing in Lean hashes anything: it is a label: what it is worth is what the hold of that sum in a sandbox is worth. -/
noncomputable def Yba.pinned : Pinned := { name := "ybulkckee", sum := "154e9ed57540fda630120a1f3efded4651a9643ad351e95315ae6968f4c98a73", checked := Yba.checked }
namespace Rows
def none {H : Type} : Left H := { results := [], args := [] }

/-- 'httpsyntax.LawS4307CCount': WHATEVER THE INPUT: true; the input reads as it did. -/
def lawS4307CCountSpec : ChangeSpec := { name := "lawS4307CCount", fn := fun _ => fun
  | [d1, d2] => { results := [.lit (.bool true)], args := [d1, d2] }
  | _ => none }
def lawS4307CCountRow : OpenClaim := { program := "ybulkckee", sum := "154e9ed57540fda630120a1f3efded4651a9643ad351e95315ae6968f4c98a73", func := "example.com/rimecache/rimecache/internal/httpsyntax.LawS4307CCount", spec := "lawS4307CCount", apart := false }
def LawS4307CCountSaid : Prop := lawS4307CCountRow.holds Yba.pinned (OpenSpec.ofChange lawS4307CCountSpec)

/-- ITS FALSE NEIGHBOUR: 'it returns false'. Refute it at one input. -/
def lawS4307CCountWrong : ChangeSpec := { name := "lawS4307CCount", fn := fun _ => fun
  | [d1, d2] => { results := [.lit (.bool false)], args := [d1, d2] }
  | _ => none }
def LawS4307CCountWrongFalsely : Prop := lawS4307CCountRow.holds Yba.pinned (OpenSpec.ofChange lawS4307CCountWrong)

/-- 'httpsyntax.LawS4307CMembers': WHATEVER THE INPUT: true; the input reads as it did. -/
def lawS4307CMembersSpec : ChangeSpec := { name := "lawS4307CMembers", fn := fun _ => fun
  | [d1, d2, d3] => { results := [.lit (.bool true)], args := [d1, d2, d3] }
  | _ => none }
def lawS4307CMembersRow : OpenClaim := { program := "ybulkckee", sum := "154e9ed57540fda630120a1f3efded4651a9643ad351e95315ae6968f4c98a73", func := "example.com/rimecache/rimecache/internal/httpsyntax.LawS4307CMembers", spec := "lawS4307CMembers", apart := false }
def LawS4307CMembersSaid : Prop := lawS4307CMembersRow.holds Yba.pinned (OpenSpec.ofChange lawS4307CMembersSpec)

/-- ITS FALSE NEIGHBOUR: 'it returns false'. Refute it at one input. -/
def lawS4307CMembersWrong : ChangeSpec := { name := "lawS4307CMembers", fn := fun _ => fun
  | [d1, d2, d3] => { results := [.lit (.bool false)], args := [d1, d2, d3] }
  | _ => none }
def LawS4307CMembersWrongFalsely : Prop := lawS4307CMembersRow.holds Yba.pinned (OpenSpec.ofChange lawS4307CMembersWrong)

end Rows
end Go.Proofs.Ybulkckee
