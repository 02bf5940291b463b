import Derived.Test.YbulkckfgRows
import Derived.WalkKit
import Derived.ProofKit
import Derived.OpenShut
import Derived.ShutString
import Derived.Deep.QuietTactic
import Derived.BigQuiet
import Derived.Outline
import Derived.WalkSmall
namespace Go.Proofs.Ybulkckfg
open Go.ChangeShapes Go.WideShapes Go.ChangeAt Go.RowKit

def cand (tried target : Int) : Int := if tried = 1 then target else wrap64 (tried - 2)

theorem candidate_one (b : Nat) (target : Int) (w : World) (h4 : w.cell? ⟨b, 4, none⟩ = some (.int .i64 target)) (h5 : w.cell? ⟨b, 5, none⟩ = some (.int .i64 1)) :
    Calls Yba.prog 15 #[.pointer (some ⟨b, 0, none⟩)] w fun e w' => e = .returned (.int .i64 target) ∧ w' = w := by
  go_enter Yba.func15, Yba.ntmps15
  go_wp2
  go_ret
  exact ⟨rfl, rfl⟩

theorem candidate_other (b : Nat) (tried : Int) (w : World) (h5 : w.cell? ⟨b, 5, none⟩ = some (.int .i64 tried)) (h : (tried == 1) = false) :
    Calls Yba.prog 15 #[.pointer (some ⟨b, 0, none⟩)] w fun e w' => e = .returned (.int .i64 (wrap64 (tried - 2))) ∧ w' = w := by
  go_enter Yba.func15, Yba.ntmps15
  go_wp2
  go_ret
  exact ⟨rfl, rfl⟩
end Go.Proofs.Ybulkckfg
