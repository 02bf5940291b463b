/-
  No cell of these rows narrows 'for every input' (looked for: loops, veiled, ifaces, maps, wideKeys, modest, calm, conditions, laid).
  DERIVED. THE GIVEN ROWS OF THIS SEAT. 4 by the template 'for every input the law returns true; each argument reads behind the call as it read before'; 0 by the template 'total and deterministic' (their statements: YbulkckfgTotals.lean).
  GIVEN WITH THE SEED: the statements are not yours to turn. If you find one false, say at which input.
  Laid BY PROGRAM, IN A SANDBOX (cutbox-rows.mjs): the forced cells as the released guide's own fill.sh prints them over the translation 50ceadec42d6d265… (all of the seat's roots in one cut). By AI agents, Wed Nov 11 2026. No macro, syntax, notation, axiom, sorry.
-/
import Derived.Test.YbulkckfgChecked
import GoSem.Claim
import GoSem.ClaimJoined
import GoSem.ClaimMapViews
import Derived.JoinedTies
import Derived.KernelRfl
namespace Go.Proofs.Ybulkckfg
/- THE CELL 'sum', in the pinned program and in every row, IS THE sha256 OF THE DUMP (.gsa) THAT YbulkckfgProg.lean LOADS. Nothing in Lean hashes anything: it is a label: what it is worth is what the hold of that sum in a sandbox is worth. -/
noncomputable def Yba.pinned : Pinned := { name := "ybulkckfg", sum := "50ceadec42d6d2657f0601069b634005e23416aa8ec95c3d33c5dbb4c8848841", checked := Yba.checked }
namespace Rows
def none {H : Type} : Left H := { results := [], args := [] }

/-- 'punctual.LawS4309BKeyAtReadsEntry': WHATEVER THE INPUT: true; the input reads as it did. -/
def lawS4309BKeyAtReadsEntrySpec : ChangeSpec := { name := "lawS4309BKeyAtReadsEntry", fn := fun _ => fun
  | [d1, d2, d3, d4] => { results := [.lit (.bool true)], args := [d1, d2, d3, d4] }
  | _ => none }
def lawS4309BKeyAtReadsEntryRow : OpenClaim := { program := "ybulkckfg", sum := "50ceadec42d6d2657f0601069b634005e23416aa8ec95c3d33c5dbb4c8848841", func := "example.com/punctual/punctual.LawS4309BKeyAtReadsEntry", spec := "lawS4309BKeyAtReadsEntry", named := ["encoding/binary.LittleEndian"], apart := false }
def LawS4309BKeyAtReadsEntrySaid : Prop := lawS4309BKeyAtReadsEntryRow.holds Yba.pinned (OpenSpec.ofChange lawS4309BKeyAtReadsEntrySpec)

/-- ITS FALSE NEIGHBOUR: 'it returns false'. Refute it at one input. -/
def lawS4309BKeyAtReadsEntryWrong : ChangeSpec := { name := "lawS4309BKeyAtReadsEntry", fn := fun _ => fun
  | [d1, d2, d3, d4] => { results := [.lit (.bool false)], args := [d1, d2, d3, d4] }
  | _ => none }
def LawS4309BKeyAtReadsEntryWrongFalsely : Prop := lawS4309BKeyAtReadsEntryRow.holds Yba.pinned (OpenSpec.ofChange lawS4309BKeyAtReadsEntryWrong)

/-- 'punctual.LawS4309BInsertFind': WHATEVER THE INPUT: true; the input reads as it did. -/
def lawS4309BInsertFindSpec : ChangeSpec := { name := "lawS4309BInsertFind", fn := fun _ => fun
  | [d1, d2] => { results := [.lit (.bool true)], args := [d1, d2] }
  | _ => none }
def lawS4309BInsertFindRow : OpenClaim := { program := "ybulkckfg", sum := "50ceadec42d6d2657f0601069b634005e23416aa8ec95c3d33c5dbb4c8848841", func := "example.com/punctual/punctual.LawS4309BInsertFind", spec := "lawS4309BInsertFind", named := ["encoding/binary.LittleEndian"], apart := false }
def LawS4309BInsertFindSaid : Prop := lawS4309BInsertFindRow.holds Yba.pinned (OpenSpec.ofChange lawS4309BInsertFindSpec)

/-- ITS FALSE NEIGHBOUR: 'it returns false'. Refute it at one input. -/
def lawS4309BInsertFindWrong : ChangeSpec := { name := "lawS4309BInsertFind", fn := fun _ => fun
  | [d1, d2] => { results := [.lit (.bool false)], args := [d1, d2] }
  | _ => none }
def LawS4309BInsertFindWrongFalsely : Prop := lawS4309BInsertFindRow.holds Yba.pinned (OpenSpec.ofChange lawS4309BInsertFindWrong)

/-- 'punctual.LawS4309CSequence': WHATEVER THE INPUT: true; the input reads as it did. -/
def lawS4309CSequenceSpec : ChangeSpec := { name := "lawS4309CSequence", fn := fun _ => fun
  | [d1, d2, d3, d4, d5, d6, d7] => { results := [.lit (.bool true)], args := [d1, d2, d3, d4, d5, d6, d7] }
  | _ => none }
def lawS4309CSequenceRow : OpenClaim := { program := "ybulkckfg", sum := "50ceadec42d6d2657f0601069b634005e23416aa8ec95c3d33c5dbb4c8848841", func := "example.com/punctual/punctual.LawS4309CSequence", spec := "lawS4309CSequence", apart := false }
def LawS4309CSequenceSaid : Prop := lawS4309CSequenceRow.holds Yba.pinned (OpenSpec.ofChange lawS4309CSequenceSpec)

/-- ITS FALSE NEIGHBOUR: 'it returns false'. Refute it at one input. -/
def lawS4309CSequenceWrong : ChangeSpec := { name := "lawS4309CSequence", fn := fun _ => fun
  | [d1, d2, d3, d4, d5, d6, d7] => { results := [.lit (.bool false)], args := [d1, d2, d3, d4, d5, d6, d7] }
  | _ => none }
def LawS4309CSequenceWrongFalsely : Prop := lawS4309CSequenceRow.holds Yba.pinned (OpenSpec.ofChange lawS4309CSequenceWrong)

/-- 'punctual.LawS4309CAnyTried': WHATEVER THE INPUT: true; the input reads as it did. -/
def lawS4309CAnyTriedSpec : ChangeSpec := { name := "lawS4309CAnyTried", fn := fun _ => fun
  | [d1, d2, d3, d4, d5, d6, d7] => { results := [.lit (.bool true)], args := [d1, d2, d3, d4, d5, d6, d7] }
  | _ => none }
def lawS4309CAnyTriedRow : OpenClaim := { program := "ybulkckfg", sum := "50ceadec42d6d2657f0601069b634005e23416aa8ec95c3d33c5dbb4c8848841", func := "example.com/punctual/punctual.LawS4309CAnyTried", spec := "lawS4309CAnyTried", apart := false }
def LawS4309CAnyTriedSaid : Prop := lawS4309CAnyTriedRow.holds Yba.pinned (OpenSpec.ofChange lawS4309CAnyTriedSpec)

/-- ITS FALSE NEIGHBOUR: 'it returns false'. Refute it at one input. -/
def lawS4309CAnyTriedWrong : ChangeSpec := { name := "lawS4309CAnyTried", fn := fun _ => fun
  | [d1, d2, d3, d4, d5, d6, d7] => { results := [.lit (.bool false)], args := [d1, d2, d3, d4, d5, d6, d7] }
  | _ => none }
def LawS4309CAnyTriedWrongFalsely : Prop := lawS4309CAnyTriedRow.holds Yba.pinned (OpenSpec.ofChange lawS4309CAnyTriedWrong)

end Rows
end Go.Proofs.Ybulkckfg
