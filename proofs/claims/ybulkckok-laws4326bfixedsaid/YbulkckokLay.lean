import Derived.Test.YbulkckokKey
namespace Go.Proofs.Ybulkckok
open Go.ChangeShapes Go.WideShapes Go.ChangeAt Go.RowKit Plain

set_option maxRecDepth 100000 in
set_option maxHeartbeats 1000000 in
theorem lay0 (w : World) :
    Calls Yba.prog 6 #[.int .i64 1024] w fun e w' => e = .returned (.agg #[.int .i64 1024, .int .i64 2, .int .i64 10]) ∧ w.grownBy w' none := by
  have l1 : Lib.bitLen 4 = 3 := by decide +kernel
  have l2 : Lib.bitLen 1024 = 11 := by decide +kernel
  go_enter Yba.func6, Yba.ntmps6
  go_wp2_with fail
  refine (len 4 _ (by omega) (by omega)).mono ?_
  rintro e W ⟨rfl, hW⟩
  subst hW
  rw [show (4 : Int).toNat = 4 from rfl, l1]
  go_wp2_with fail
  refine (len 1024 _ (by omega) (by omega)).mono ?_
  rintro e W ⟨rfl, hW⟩
  subst hW
  rw [show (1024 : Int).toNat = 1024 from rfl, l2]
  go_wp2_with fail
  refine bodyPost_ret (v := .agg #[.int .i64 1024, .int .i64 2, .int .i64 10]) (by simp [results, Yba.results6, go_sem]; rfl) rfl ⟨rfl, ?_⟩
  exact World.grownBy_alloc _ _ _

set_option maxRecDepth 100000 in
set_option maxHeartbeats 1000000 in
theorem lay1 (w : World) :
    Calls Yba.prog 6 #[.int .i64 2048] w fun e w' => e = .returned (.agg #[.int .i64 2048, .int .i64 1, .int .i64 9]) ∧ w.grownBy w' none := by
  have l1 : Lib.bitLen 2 = 2 := by decide +kernel
  have l2 : Lib.bitLen 512 = 10 := by decide +kernel
  go_enter Yba.func6, Yba.ntmps6
  go_wp2_with fail
  refine (len 2 _ (by omega) (by omega)).mono ?_
  rintro e W ⟨rfl, hW⟩
  subst hW
  rw [show (2 : Int).toNat = 2 from rfl, l1]
  go_wp2_with fail
  refine (len 512 _ (by omega) (by omega)).mono ?_
  rintro e W ⟨rfl, hW⟩
  subst hW
  rw [show (512 : Int).toNat = 512 from rfl, l2]
  go_wp2_with fail
  refine bodyPost_ret (v := .agg #[.int .i64 2048, .int .i64 1, .int .i64 9]) (by simp [results, Yba.results6, go_sem]; rfl) rfl ⟨rfl, ?_⟩
  exact World.grownBy_alloc _ _ _

set_option maxRecDepth 100000 in
set_option maxHeartbeats 1000000 in
theorem lay2 (w : World) :
    Calls Yba.prog 6 #[.int .i64 4096] w fun e w' => e = .returned (.agg #[.int .i64 4096, .int .i64 0, .int .i64 8]) ∧ w.grownBy w' none := by
  have l1 : Lib.bitLen 1 = 1 := by decide +kernel
  have l2 : Lib.bitLen 256 = 9 := by decide +kernel
  go_enter Yba.func6, Yba.ntmps6
  go_wp2_with fail
  refine (len 1 _ (by omega) (by omega)).mono ?_
  rintro e W ⟨rfl, hW⟩
  subst hW
  rw [show (1 : Int).toNat = 1 from rfl, l1]
  go_wp2_with fail
  refine (len 256 _ (by omega) (by omega)).mono ?_
  rintro e W ⟨rfl, hW⟩
  subst hW
  rw [show (256 : Int).toNat = 256 from rfl, l2]
  go_wp2_with fail
  refine bodyPost_ret (v := .agg #[.int .i64 4096, .int .i64 0, .int .i64 8]) (by simp [results, Yba.results6, go_sem]; rfl) rfl ⟨rfl, ?_⟩
  exact World.grownBy_alloc _ _ _

set_option maxRecDepth 100000 in
set_option maxHeartbeats 1000000 in
theorem lay3 (w : World) :
    Calls Yba.prog 6 #[.int .i64 8192] w fun e w' => e = .returned (.agg #[.int .i64 8192, .int .i64 0, .int .i64 7]) ∧ w.grownBy w' none := by
  have l1 : Lib.bitLen 1 = 1 := by decide +kernel
  have l2 : Lib.bitLen 128 = 8 := by decide +kernel
  go_enter Yba.func6, Yba.ntmps6
  go_wp2_with fail
  refine (len 1 _ (by omega) (by omega)).mono ?_
  rintro e W ⟨rfl, hW⟩
  subst hW
  rw [show (1 : Int).toNat = 1 from rfl, l1]
  go_wp2_with fail
  refine (len 128 _ (by omega) (by omega)).mono ?_
  rintro e W ⟨rfl, hW⟩
  subst hW
  rw [show (128 : Int).toNat = 128 from rfl, l2]
  go_wp2_with fail
  refine bodyPost_ret (v := .agg #[.int .i64 8192, .int .i64 0, .int .i64 7]) (by simp [results, Yba.results6, go_sem]; rfl) rfl ⟨rfl, ?_⟩
  exact World.grownBy_alloc _ _ _
end Go.Proofs.Ybulkckok
