import Derived.Test.YbulkckfgTab
import Derived.Test.YbulkckfgEntry
import Derived.Deep.LoopGhost
namespace Go.Proofs.Ybulkckfg
open Go.ChangeShapes Go.WideShapes Go.ChangeAt Go.RowKit

theorem slotOf_calls (c pos h : Nat) (w : World) (hc : c ≤ 2000) (hp : pos ≤ 1000000) (hh : h < 18446744073709551616) :
    Calls Yba.prog 20 #[.int .i64 c, .int .i64 pos, .int .u64 h] w fun e w' => e = .returned (.int .u64 (slotv c pos (h / 281474976710656) : Nat)) ∧ w' = w := by
  have htag : h / 281474976710656 < 65536 := by omega
  have HS := hide (slotv_enc c pos (h / 281474976710656) (by omega) (by omega) htag)
  go_enter Yba.func20, Yba.ntmps20
  go_wp2
  go_ret
  refine ⟨congrArg Ending.returned (congrArg (Value.int IntKind.u64) ?_), rfl⟩
  rw [← HS.out]
  rfl

/-- a mask of a power of two is a remainder -/
theorem mask_mod (m M x : Nat) (hM : M = 2 ^ m) (hm : m ≤ 20) (hx : x < 18446744073709551616) : bits .and .u64 (x : Int) ((M : Int) - 1) = ((x % M : Nat) : Int) := by
  have h1 : 1 ≤ 2 ^ m := Nat.two_pow_pos _
  have h2 : 2 ^ m ≤ 2 ^ 20 := Nat.pow_le_pow_right (by decide) hm
  simp only [show 2 ^ 20 = 1048576 from rfl] at h2
  subst hM
  rw [show ((2 ^ m : Nat) : Int) - 1 = ((2 ^ m - 1 : Nat) : Int) from by omega, u64_and_nat x (2 ^ m - 1) hx (by omega), Nat.and_two_pow_sub_one_eq_mod]

set_option maxHeartbeats 1000000 in
theorem place_calls (w : World) (b gs cap m : Nat) (sls : List Nat) (sl h T : Nat) (hch : w.cell? ⟨b, 1, none⟩ = some (.slice (some ⟨gs, 0, none⟩) sls.length cap))
    (hM : sls.length = 2 ^ m) (hm : m ≤ 20) (hh : h < 18446744073709551616)
    (hsl : ∀ (q v : Nat), sls[q]? = some v → w.cell? ⟨gs, q, none⟩ = some (.int .u64 (v : Int))) (hfr : ∀ q, w.frozen? ⟨gs, q, none⟩ = false) (hR : Reach sls h T 0) :
    Calls Yba.prog 18 #[.pointer (some ⟨b, 0, none⟩), .int .u64 sl, .int .u64 h] w fun e w' => e = .returned (.tuple #[]) ∧ w' = w.setCell ⟨gs, (h + T) % sls.length, none⟩ (.int .u64 (sl : Int)) := by
  have HR := hide hR
  have HSL := hide hsl
  have h1 : 1 ≤ sls.length := by rw [hM]; exact Nat.two_pow_pos _
  have h2 : sls.length ≤ 2 ^ 20 := by rw [hM]; exact Nat.pow_le_pow_right (by decide) hm
  simp only [show 2 ^ 20 = 1048576 from rfl] at h2
  have HMK := hide (fun x => mask_mod m sls.length x hM hm)
  have hmk := HMK.out h hh
  clear hR hsl hM
  obtain ⟨M, hME⟩ : ∃ M, sls.length = M := ⟨_, rfl⟩
  have HLN := hide hME
  rw [hME] at hch h1 h2 HMK hmk ⊢
  clear hME
  go_enter Yba.func18, Yba.ntmps18
  go_wp2_with fail
  go_loopg [7] T (fun k v W => ∃ t : Nat, t + k = T ∧ v = .int .u64 ((h + t) % M : Nat) ∧ W = w)
  case atStart => exact ⟨0, by omega, rfl, rfl⟩
  case round =>
    obtain ⟨t, ht, rfl, rfl⟩ := hrel
    have hlt : (h + t) % M < M := Nat.mod_lt _ h1
    by_cases htT : t < T
    · obtain ⟨u, hu, hu0⟩ := HR.out.2 t htT
      rw [HLN.out] at hu
      have hcell := HSL.out _ _ hu
      have hub : ((u : Int) == 0) = false := by simpa using hu0
      have hnx := HMK.out ((h + t) % M + 1) (by omega)
      rw [Nat.mod_add_mod, Nat.add_assoc] at hnx
      generalize (h + t) % M = i at *
      have hnx2 : bits BinOp.and IntKind.u64 ((i : Int) + 1) ((M : Int) - 1) = (((h + (t + 1)) % M : Nat) : Int) := hnx
      clear hu hnx
      go_wp2_with fail
      go_roundg (gk - 1)
      case rel => exact ⟨t + 1, by omega, rfl, rfl⟩
      case measure => omega
    · have hte : t = T := by omega
      subst hte
      have h0 := HR.out.1
      rw [HLN.out] at h0
      have hcell := HSL.out _ _ h0
      have hfv := hfr ((h + t) % M)
      generalize hiE : (h + t) % M = i at hcell hfv hlt ⊢
      go_wp2_with fail
      refine bodyPost_end (v := .tuple #[]) (by simp [results, Yba.results18]) rfl ⟨rfl, ?_⟩
      rw [hiE]
end Go.Proofs.Ybulkckfg
