import Derived.Test.YbulkckokRows
import Derived.Lib.Strings
import Derived.Lib.Slices
import Derived.Lib.Small
import Derived.Lib.Walk
import Derived.Lib.BitFns
namespace Go.Proofs.Ybulkckok

set_option maxHeartbeats 4000000 in
set_option maxRecDepth 100000 in
theorem len64 (x : Int) (w : World) (h0 : 0 ≤ x) (h1 : x ≤ 65535) :
    Calls Yba.prog 13 #[.int .u64 x] w fun e w' => e = .returned (.int .i64 (Lib.bitLen x.toNat)) ∧ w' = w := by
  go_enter Yba.func13, Yba.ntmps13
  go_wp2
  all_goals first | (exfalso; omega) | (go_ret; refine ⟨congrArg Ending.returned (congrArg (Value.int IntKind.i64) ?_), rfl⟩)
  all_goals first
    | (rw [Lib.len8_of (x / 256 % 256) (by omega) (by omega)]
       have e : (x / 256 % 256).toNat = x.toNat / 256 := by omega
       have l := Lib.bitLen_le8' (x / 256 % 256) (by omega) (by omega)
       have s := Lib.bitLen_shift8 x.toNat (by omega) (by omega)
       rw [e] at l ⊢
       omega)
    | (rw [Lib.len8_of (x % 256) (by omega) (by omega)]
       have e : (x % 256).toNat = x.toNat := by omega
       have l := Lib.bitLen_le8' (x % 256) (by omega) (by omega)
       rw [e] at l ⊢
       omega)

theorem len (x : Int) (w : World) (h0 : 0 ≤ x) (h1 : x ≤ 65535) :
    Calls Yba.prog 10 #[.int .u64 x] w fun e w' => e = .returned (.int .i64 (Lib.bitLen x.toNat)) ∧ w' = w := by
  go_enter Yba.func10, Yba.ntmps10
  go_wp2_with (go_at_call 13; refine (len64 x _ h0 h1).mono ?_; rintro e w' ⟨rfl, rfl⟩)
  go_ret
  exact ⟨rfl, rfl⟩
end Go.Proofs.Ybulkckok
