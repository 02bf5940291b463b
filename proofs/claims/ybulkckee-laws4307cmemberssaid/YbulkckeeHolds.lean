import Derived.Test.YbulkckeeRows
import Derived.WalkKit
import Derived.ProofKit
import Derived.OpenShut
import Derived.ShutString
import Derived.Deep.QuietTactic
import Derived.BigQuiet
import Derived.Outline
namespace Go.Proofs.Ybulkckee
open Go.ChangeShapes Go.WideShapes Go.ChangeAt Go.RowKit

theorem hide {p : Prop} (h : p) : Hid p := h

/-- what HoldsAll computes -/
def holds (g : Nat → Bool) (l : List UInt8) : Bool := l.all fun c => g c.toNat

theorem take_snoc (s : ByteArray) (k : Nat) (h : k < s.size) : s.data.toList.take (k + 1) = s.data.toList.take k ++ [s[k]] := by
  rw [List.take_succ_eq_append_getElem (by simpa using h)]; rfl

theorem holds_false (g : Nat → Bool) (s : ByteArray) (k : Nat) (h : k < s.size) (hg : g s[k].toNat = false) : holds g s.data.toList = false := by
  unfold holds
  rw [List.all_eq_false]
  exact ⟨s[k], by have : s[k] = s.data.toList[k]'(by simpa using h) := rfl
                  rw [this]; exact List.getElem_mem _, by simp [hg]⟩

set_option maxHeartbeats 400000 in
theorem holds_calls (g : Nat → Bool) (s : ByteArray) (b : Nat) (w : World) (hs : s.size ≤ maxLen)
    (hc : ∀ k, k < 256 → w.cell? ⟨b, k, none⟩ = some (.bool (g k))) :
    Calls Yba.prog 5 #[.pointer (some ⟨b, 0, none⟩), .string s] w fun e w' => e = .returned (.bool (holds g s.data.toList)) ∧ ∃ n, w' = w.drewN n := by
  unfold maxLen at hs
  go_enter Yba.func5, Yba.ntmps5
  go_wp2
  go_loopw [5] (fun i wr => ∃ k n : Nat, k ≤ s.size ∧ i = .int .i64 k ∧ holds g (s.data.toList.take k) = true ∧ wr = w.drewN n) (fun i _ => s.size - (intOf i).toNat)
  case atStart => exact ⟨0, 0, Nat.zero_le _, rfl, rfl, rfl⟩
  case round =>
    obtain ⟨k, n, hk, rfl, hh, rfl⟩ := hrel
    by_cases hlt : k < s.size
    · have hcc := hc s[k].toNat (by have := s[k].toNat_lt; omega)
      have hu : (s[k].toNat : Int) < 256 := by have := s[k].toNat_lt; omega
      have hts := hide (take_snoc s k hlt)
      cases hg : g s[k].toNat
      · have hfin : Hid (holds g s.data.toList = false) := holds_false g s k hlt hg
        go_wp2_with fail
        go_quiet (fail)
        go_wp2
        go_ret
        exact ⟨by rw [hfin.out]; rfl, _, World.drewN_drewN ..⟩
      · have hfin : Hid (holds g (s.data.toList.take (k + 1)) = true) := by
          show holds g (s.data.toList.take (k + 1)) = true
          rw [hts.out]; simp [holds] at hh ⊢; exact ⟨hh, hg⟩
        go_wp2_with fail
        go_quiet (fail)
        go_wp2
        go_roundw
        case rel => exact ⟨k + 1, _, by omega, by go_num, hfin.out, rfl⟩
        case measure => simp [intOf]; omega
    · have hfin : Hid (holds g s.data.toList = true) := by
        show holds g s.data.toList = true
        rw [← hh, List.take_of_length_le (by simp; omega)]
      go_wp2
      go_ret
      exact ⟨by rw [hfin.out]; rfl, n, rfl⟩
end Go.Proofs.Ybulkckee
