import Derived.Test.YbulkckfgFrame
namespace Go.Proofs.Ybulkckfg
open Go.ChangeShapes Go.WideShapes Go.ChangeAt Go.RowKit

theorem back_two (t : Int) (h0 : -9223372036854775808 ≤ t) (h1 : t ≤ 9223372036854775807) : (wrap64 (wrap64 (t - 2) + 2) == t) = true := by
  rw [beq_iff_eq]
  unfold wrap64
  omega

set_option maxHeartbeats 1000000 in
theorem tried_one (target e undo op : Int) (kept : Bool) (state : ByteArray) (w : World) :
    Calls Yba.prog 6 #[.int .i64 1, .int .i64 target, .int .i64 e, .int .i64 undo, .int .i32 op, .bool kept, .string state] w fun e w' => e = .returned (.bool true) ∧ Below w.heap.size w w' := by
  have hbl := fun A => ((Below.refl w.heap.size w).alloc (Nat.le_refl _) A)
  go_enter Yba.func6, Yba.ntmps6
  go_wp2_with fail
  refine (candidate_one w.heap.size target _ (by go_simp) (by go_simp)).mono ?_
  rintro e1 W ⟨rfl, hW⟩
  subst hW
  go_wp2
  go_ret
  exact ⟨rfl, hbl _⟩

set_option maxHeartbeats 1000000 in
theorem tried_other (tried target e undo op : Int) (kept : Bool) (state : ByteArray) (w : World) (h : (tried == 1) = false) (h2 : (wrap64 (wrap64 (tried - 2) + 2) == tried) = true) :
    Calls Yba.prog 6 #[.int .i64 tried, .int .i64 target, .int .i64 e, .int .i64 undo, .int .i32 op, .bool kept, .string state] w fun e w' => e = .returned (.bool true) ∧ Below w.heap.size w w' := by
  have hbl := fun A => ((Below.refl w.heap.size w).alloc (Nat.le_refl _) A)
  go_enter Yba.func6, Yba.ntmps6
  go_wp2_with fail
  refine (candidate_other w.heap.size tried _ (by go_simp) h).mono ?_
  rintro e1 W ⟨rfl, hW⟩
  subst hW
  go_wp2
  go_ret
  exact ⟨by rw [← h2]; rfl, hbl _⟩
end Go.Proofs.Ybulkckfg
