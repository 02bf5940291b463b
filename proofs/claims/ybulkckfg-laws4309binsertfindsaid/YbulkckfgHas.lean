import Derived.Test.YbulkckfgFind
namespace Go.Proofs.Ybulkckfg
open Go.ChangeShapes Go.WideShapes Go.ChangeAt Go.RowKit

set_option maxRecDepth 100000 in
set_option maxHeartbeats 1000000 in
theorem has_calls (w : World) (vl vk : Value) (hdrs : List Value) (KU : Nat → List UInt8) (K : List UInt8) (hN : hdrs.length ≤ 1000000) (hl : Gives w vl hdrs) (hh : ∀ (j : Nat) (hv : Value), hdrs[j]? = some hv → Gives w hv (bc (KU j))) (hk : Gives w vk (bc K)) :
    Calls Yba.prog 11 #[vl, vk] w fun e w' => (∃ b, e = .returned (.bool b) ∧ (b = true ↔ ∃ j, j < hdrs.length ∧ KU j = K)) ∧ w' = w := by
  obtain ⟨a, cap, rfl, hn0, hcells⟩ := hl
  have HC := hide hcells
  have HH := hide hh
  have HK := hide hk
  obtain ⟨N, hNE⟩ : ∃ N, hdrs.length = N := ⟨_, rfl⟩
  have HN := hide hNE
  rw [hNE] at hN ⊢
  clear hcells hh hk hNE hn0
  by_cases h0 : N = 0
  · subst h0
    go_enter Yba.func11, Yba.ntmps11
    go_wp2_with fail
    go_loopw [9] (fun v W => v = .int .i64 0 ∧ W = w) (fun _ _ => 0)
    case atStart => exact ⟨rfl, rfl⟩
    case round =>
      obtain ⟨rfl, rfl⟩ := hrel
      go_wp2_with fail
      go_ret
      exact ⟨⟨false, rfl, by simp⟩, rfl⟩
  · obtain ⟨u0, hu0⟩ : ∃ u, hdrs[0]? = some u := ⟨_, List.getElem?_eq_getElem (by rw [HN.out]; omega)⟩
    obtain ⟨⟨g, o, sp⟩, rfl, hc0⟩ := HC.out 0 u0 hu0
    have hsp : sp = none := by simpa [Addr.add] using World.cell?_spot hc0
    subst hsp
    clear hc0 hu0
    go_enter Yba.func11, Yba.ntmps11
    go_wp2_with fail
    go_loopw [9] (fun v W => ∃ j : Nat, j ≤ N ∧ v = .int .i64 j ∧ W = w ∧ ∀ q, q < j → KU q ≠ K) (fun v _ => N - (intOf v).toNat)
    case atStart => exact ⟨0, by omega, rfl, rfl, fun q hq => absurd hq (by omega)⟩
    case round =>
      obtain ⟨j, hj, rfl, rfl, hno⟩ := hrel
      have HNO := hide hno
      clear hno
      by_cases hjN : j < N
      · obtain ⟨hv, hhv⟩ : ∃ u, hdrs[j]? = some u := ⟨_, List.getElem?_eq_getElem (by rw [HN.out]; omega)⟩
        obtain ⟨ad, had, hcell⟩ := HC.out j hv hhv
        cases had
        rw [addr_add] at hcell
        have HG := hide (HH.out j hv hhv)
        clear hhv
        obtain ⟨ha, hc, rfl, _⟩ := HG.out
        go_wp2_with fail
        refine (equal_calls _ _ (KU j) K _ HG.out HK.out).mono ?_
        rintro e X ⟨rfl, hX⟩
        subst hX
        by_cases hke : KU j = K
        · have hkb : (KU j == K) = true := by simpa using hke
          rw [hkb]
          go_wp2_with fail
          go_ret
          exact ⟨⟨true, rfl, fun _ => ⟨j, hjN, hke⟩, fun _ => rfl⟩, rfl⟩
        · have hkb : (KU j == K) = false := by simpa using hke
          rw [hkb]
          go_wp2_with fail
          go_roundw
          case rel =>
            refine ⟨j + 1, by omega, by go_num, by trivial, fun q hq => ?_⟩
            by_cases hqj : q = j
            · subst hqj; exact hke
            · exact HNO.out q (by omega)
          case measure => simp [intOf]; omega
      · go_wp2_with fail
        go_ret
        refine ⟨⟨false, rfl, (fun h => by cases h), fun ⟨q, hq, he⟩ => absurd he (HNO.out q (by omega))⟩, rfl⟩
end Go.Proofs.Ybulkckfg
