import Derived.Test.YbulkckfgFrame
namespace Go.Proofs.Ybulkckfg
open Go.ChangeShapes Go.WideShapes Go.ChangeAt Go.RowKit

set_option maxHeartbeats 1000000 in
theorem seq_walk (n target e undo op : Int) (kept : Bool) (state : ByteArray) (w : World) (h0 : 0 ≤ n) (h1 : n ≤ 1024) :
    Calls Yba.prog 5 #[.int .i64 n, .int .i64 target, .int .i64 e, .int .i64 undo, .int .i32 op, .bool kept, .string state] w fun e w' => e = .returned (.bool true) ∧ Below w.heap.size w w' := by
  have hd1 : decide (n < 0) = false := decide_eq_false (by omega)
  have hd2 : decide (1024 < n) = false := decide_eq_false (by omega)
  have hbl := fun A => ((Below.refl w.heap.size w).alloc (Nat.le_refl _) A)
  go_enter Yba.func5, Yba.ntmps5
  go_wp2
  go_loopw [16, 17] (fun i _ wr => ∃ k : Nat, (k : Int) ≤ n + 1 ∧ i = .int .i64 k ∧ wr = w.alloc (.cells #[.int .i64 e, .string state, .bool kept, .int .i64 undo, .int .i64 target, .int .i64 k, .int .i32 op] 44)) (fun i _ _ => (n + 1 - intOf i).toNat)
  case atStart => exact ⟨0, by omega, rfl, rfl⟩
  case round =>
    obtain ⟨k, hk, rfl, rfl⟩ := hrel
    by_cases hlt : (k : Int) ≤ n
    · by_cases hk0 : k = 0
      · subst hk0
        go_wp2_with fail
        refine (candidate_one w.heap.size target _ (by go_simp) (by go_simp)).mono ?_
        rintro e1 W ⟨rfl, hW⟩
        subst hW
        go_wp2
        go_roundw
        case rel => exact ⟨1, by omega, by go_num, rfl⟩
        case measure => simp [intOf]; omega
      · have hkb : ((k : Int) == 0) = false := by simp; omega
        have hkc : ((k : Int) + 1 == 1) = false := by simp; omega
        have hw : wrap64 ((k : Int) + 1 - 2) = (k : Int) - 1 := by unfold wrap64; omega
        go_wp2_with fail
        refine (candidate_other w.heap.size ((k : Int) + 1) _ (by go_simp) hkc).mono ?_
        rintro e1 W ⟨rfl, hW⟩
        subst hW
        go_wp2
        go_roundw
        case rel => exact ⟨k + 1, by omega, by go_num, rfl⟩
        case measure => simp [intOf]; omega
    · go_wp2
      go_ret
      exact ⟨rfl, hbl _⟩
end Go.Proofs.Ybulkckfg
