import Derived.Test.YbulkckfgIns
import Derived.Test.YbulkckfgHas
namespace Go.Proofs.Ybulkckfg
open Go.ChangeShapes Go.WideShapes Go.ChangeAt Go.RowKit

set_option linter.unusedSimpArgs false in
set_option maxRecDepth 100000 in
set_option maxHeartbeats 4000000 in
theorem ins_walk (N kcap : Nat) (k0 : Option Addr) (KL : Nat → List UInt8) (ka : Nat → Option Addr) (kc : Nat → Nat) (seed : Int) (w : World) (hN : N ≤ 512)
    (hk : ∀ i, i < N → ∃ kb ko, k0 = some ⟨kb, ko, none⟩ ∧ w.cell? ⟨kb, ko + i, none⟩ = some (.slice (ka i) (KL i).length (kc i)) ∧ Gives w (.slice (ka i) (KL i).length (kc i)) (bc (KL i)))
    (hkl : ∀ i, i < N → (KL i).length ≤ 140737488355328) :
    Calls Yba.prog 4 #[.slice k0 N kcap, .int .u64 seed] w fun e w' => e = .returned (.bool true) ∧ Below w.heap.size w w' := by
  have HK := hide hk
  have HL := hide hkl
  clear hk hkl
  have hd1 : decide ((512 : Int) < (N : Int)) = false := decide_eq_false (by omega)
  go_enter Yba.func4, Yba.ntmps4
  go_wp2_with fail
  go_loop [5, 7, 26] (fun t _ c => ∃ i : Nat, i ≤ N ∧ t = .int .i64 (tot KL i) ∧ tot KL i ≤ 65536 ∧ c = .int .i64 i) (fun _ _ c => N - (intOf c).toNat)
  case atStart => exact ⟨0, by omega, rfl, by simp [tot], rfl⟩
  case round =>
    obtain ⟨i, hi, rfl, ht, rfl⟩ := hrel
    by_cases hlt : i < N
    · obtain ⟨kb, ko, hka, hcell, hgiv⟩ := HK.out i hlt
      subst hka
      have hll := HL.out i hlt
      have HT : Hid (tot KL (i + 1) = tot KL i + (KL i).length) := rfl
      clear hgiv
      generalize tot KL i = T at *
      generalize (KL i).length = M at *
      by_cases hbig : T + M ≤ 65536
      · have hd2 : decide ((65536 : Int) < (T : Int) + (M : Int)) = false := decide_eq_false (by omega)
        go_wp2_with fail
        go_round
        case rel => exact ⟨i + 1, by omega, by rw [HT.out]; go_num, by rw [HT.out]; exact hbig, by go_num⟩
        case measure => simp [intOf]; omega
      · have hd2 : decide ((65536 : Int) < (T : Int) + (M : Int)) = true := decide_eq_true (by omega)
        go_wp2_with fail
        go_ret
        exact ⟨rfl, Below.refl _ _⟩
    · have hiN : N = i := by omega
      subst hiN
      go_wp2_with fail
      go_loopw [8, 39] (fun vu c W => ∃ (i : Nat) (hdrs : List Value) (KU : Nat → List UInt8), i ≤ N ∧ c = .int .i64 i ∧ hdrs.length ≤ i ∧ Uniq w W vu hdrs KU (tot KL i)) (fun _ c _ => N - (intOf c).toNat)
      case atStart => exact ⟨0, [], fun _ => [], by omega, rfl, by simp, ⟨Below.refl _ _, OwnR.nil _ _ 26, (fun j hv h => by simp at h), by simp [tot]⟩⟩
      case round =>
        obtain ⟨i, hdrs, KU, hi, rfl, hle, hU⟩ := hrel
        have HU := hide hU
        clear hU
        by_cases hlt : i < N
        · obtain ⟨kb, ko, hka, hcell0, hgiv0⟩ := HK.out i hlt
          subst hka
          have hcell := (HU.out.bel.cell (p := ⟨kb, ko + i, none⟩) (World.block_lt_of_cell? w _ hcell0)).trans hcell0
          have HG := hide hgiv0
          clear hgiv0 hcell0
          go_wp2_with fail
          refine (has_calls _ u8 _ hdrs KU (KL i) (by omega) (.of_owns HU.out.own) (fun j hv hj => (HU.out.hd j hv hj).below HU.out.bel (Nat.le_refl _)) (HG.out.below HU.out.bel (Nat.le_refl _))).mono ?_
          rintro e X ⟨⟨b, rfl, _⟩, hX⟩
          subst hX
          cases b with
          | true =>
            go_wp2_with fail
            go_roundw
            case rel => exact ⟨i + 1, hdrs, KU, by omega, by go_num, by omega, HU.out.mono (tot_mono KL i (i + 1) (by omega))⟩
            case measure => simp [intOf]; omega
          | false =>
            have hsz := HU.out.bel.size
            have hl1 : hdrs.length + [Value.slice (ka i) (KL i).length (kc i)].length ≤ 2000 := by simp; omega
            go_wp2_with (at_builtin; refine wpList_append_full _ rfl _ _ 22 rfl w.heap.size 26 24 (.slice none 0 0) Yba.underlying22 info26 rfl _ hdrs rfl (by exact HU.out.own.alloc _) _ [.slice (ka i) (KL i).length (kc i)] rfl (by exact gives_lit _ #[.slice (ka i) (KL i).length (kc i)] 26) (by intro u hu; rw [List.mem_singleton.1 hu]; rfl) (by unfold maxLen; omega) (by omega) (by simp; omega) ?_)
            intro v' W2 ho hg _ hp
            have hU2 := hide (HU.out.snoc hg ho HG.out)
            clear ho hg hp
            go_wp2_with fail
            go_roundw
            case rel => exact ⟨i + 1, _, _, by omega, by go_num, by simp; omega, hU2.out.mono (Nat.le_refl _)⟩
            case measure => simp [intOf]; omega
        · have hiN : N = i := by omega
          subst hiN
          obtain ⟨au, capu, hvu⟩ := HU.out.own.form2
          have HU2 := hide (HU.out.mono ht)
          obtain ⟨m, hmE⟩ : ∃ m, hdrs.length = m := ⟨_, rfl⟩
          have HM := hide hmE
          rw [hmE] at hvu hle
          clear hmE HU
          subst hvu
          obtain ⟨w0, hw0⟩ : ∃ x, x = wr := ⟨_, rfl⟩
          subst hw0
          have hsz := HU2.out.bel.size
          go_wp2_with (at_make; refine wpList_make_full_R _ rfl _ _ 28 rfl w.heap.size 24 8 (.int .u64 0) Yba.underlying28 info24 rfl _ _ _ _ m rfl rfl (by first | rfl | omega) (by first | rfl | omega) (by omega) (by unfold maxLen; omega) (by exact hsz) ?_)
          intro W1 ho1 hg1
          have HB0 := hide (Base.start HU2.out hg1 (by rw [HM.out]; exact ho1))
          clear ho1 hg1 HU2
          rw [HM.out] at HB0
          go_wp2_with fail
          go_loopw [57] (fun c W => ∃ (i : Nat) (hn : List Nat), i ≤ m ∧ c = .int .i64 i ∧ Base w W (.slice au m capu) (.slice (some ⟨w0.heap.size, 0, none⟩) m m) hdrs hn KU) (fun c _ => m - (intOf c).toNat)
          case atStart => exact ⟨0, _, by omega, rfl, HB0.out⟩
          case round =>
            clear HB0
            obtain ⟨i, hn, hi, rfl, hB⟩ := hrel
            have HB := hide hB
            clear hB
            by_cases hlt : i < m
            · obtain ⟨g, o, cap, a, c, x, hvu, hc1, hc2, hf2⟩ := HB.out.at i (by rw [HM.out]; exact hlt)
              simp only [Value.slice.injEq] at hvu
              have hau := hvu.1
              clear hvu
              subst hau
              generalize (KU i).length = kl at *
              go_wp2_with fail
              go_roundw
              case rel => exact ⟨i + 1, _, by omega, by go_num, HB.out.storeZ HM.out i _ (bits_lo_u64 _ _ _) (bits_hi_u64 _ _ _)⟩
              case measure => simp [intOf]; omega
            · have hiN : m = i := by omega
              subst hiN
              obtain ⟨w1, hw1⟩ : ∃ x, x = wr := ⟨_, rfl⟩
              subst hw1
              have HLD := hide HB.out.laid
              have HBL := hide HB.out.bel
              have hhl := HB.out.laid.hlt
              have HTT := hide HB.out.tot
              clear HB
              obtain ⟨H, hHE⟩ : ∃ H : Nat → Nat, (fun j => hn.getD j 0) = H := ⟨_, rfl⟩
              have hH : ∀ j, H j < 18446744073709551616 := fun j => by rw [← hHE]; exact hhl j
              have HHX := hide (fun (W : World) (hb : Below w1.heap.size w1 W) (i : Nat) (hi : i < m) => HLD.out.hash hb i (by rw [HM.out]; exact hi))
              have HHE := hide hHE
              clear hHE hhl
              go_wp2_with fail
              go_loopw [80] (fun c W => ∃ (i : Nat), i ≤ m ∧ c = .int .i64 i ∧ KSt w1 W i H KU) (fun c _ => m - (intOf c).toNat)
              case atStart => exact ⟨0, by omega, rfl, KSt.start w1 H KU⟩
              case round =>
                obtain ⟨i, hi, rfl, hS⟩ := hrel
                have HS := hide hS
                clear hS
                by_cases hlt : i < m
                · obtain ⟨g, o, cap, a, c, hvu, hc1, hgv⟩ := HLD.out.key HS.out.bel i (by rw [HM.out]; exact hlt)
                  have HGV := hide hgv
                  clear hgv
                  simp only [Value.slice.injEq] at hvu
                  have hau := hvu.1
                  clear hvu
                  subst hau
                  have hT1 : tot KU (i + 1) ≤ 65536 := by have := tot_mono KU (i + 1) m hlt; have := HTT.out; rw [HM.out] at this; omega
                  have hkl : (KU i).length ≤ 100000 := by have h := tot_at KU i (i + 1) (by omega); omega
                  go_wp2_with fail
                  refine (HS.out.room (by omega) hH (KU i).length hkl).mono ?_
                  rintro e X ⟨rfl, hR⟩
                  have hc2 := HHX.out _ hR.bel i hlt
                  rw [show hn.getD i 0 = H i from congrFun HHE.out i] at hc2
                  have HR := hide hR
                  clear hR HS hc1
                  go_wp2_with fail
                  refine (HR.out.insert (by omega) hH hT1 _ HGV.out).mono ?_
                  rintro e X2 ⟨rfl, hS2⟩
                  have HS2 := hide hS2
                  clear hS2 HR hc2
                  go_wp2_with fail
                  go_roundw
                  case rel => exact ⟨i + 1, by omega, by go_num, HS2.out⟩
                  case measure => simp [intOf]; omega
                · have hiN : m = i := by omega
                  subst hiN
                  obtain ⟨w2, hw2⟩ : ∃ x, x = wr := ⟨_, rfl⟩
                  subst hw2
                  obtain ⟨vch, vsl, bys, hs, ls, sls, sv, _, _, hsl, _, hk⟩ := HS.out
                  obtain ⟨asl, caps, hvsl⟩ := hk.mid.sl.form2
                  rw [nums_length] at hvsl
                  obtain ⟨M, hME⟩ : ∃ M, sls.length = M := ⟨_, rfl⟩
                  rw [hME] at hvsl hsl
                  subst hvsl
                  have HME := hide hME
                  have hb1 := hk.mid.cell 1
                  have hb2 := hk.mid.cell 2
                  simp at hb1 hb2
                  have HKS := hide hk
                  have HBE := hide (hk.mid.bel)
                  have HKB : Hid (∀ i, i < m → (KU i).length ≤ 1000000) := fun i hi => by have h := tot_at KU i m hi; have := HTT.out; rw [HM.out] at this; omega
                  clear hk HS hME
                  go_wp2_with fail
                  go_loopw [107] (fun c W => ∃ (i : Nat), i ≤ m ∧ c = .int .i64 i ∧ W = w2) (fun c _ => m - (intOf c).toNat)
                  case atStart => exact ⟨0, by omega, rfl, rfl⟩
                  case round =>
                    obtain ⟨i, hi, rfl, hW⟩ := hrel
                    subst hW
                    by_cases hlt : i < m
                    · obtain ⟨g, o, cap, a, c, hvu, hc1, hgv⟩ := HLD.out.key HBE.out i (by rw [HM.out]; exact hlt)
                      have HGV := hide (hgv _ HBE.out)
                      clear hgv
                      simp only [Value.slice.injEq] at hvu
                      have hau := hvu.1
                      clear hvu
                      subst hau
                      have hc2 := HHX.out _ HBE.out i hlt
                      rw [show hn.getD i 0 = H i from congrFun HHE.out i] at hc2
                      go_wp2_with fail
                      refine (find_calls HKS.out hH HKB.out i hlt _ HGV.out).mono ?_
                      rintro e X ⟨rfl, hX⟩
                      subst hX
                      clear hc1 hc2
                      go_wp2_with fail
                      go_roundw
                      case rel => exact ⟨i + 1, by omega, by go_num, by trivial⟩
                      case measure => simp [intOf]; omega
                    · have hiN : m = i := by omega
                      subst hiN
                      go_wp2_with fail
                      go_loopw [18, 126] (fun k c W => ∃ (r : Nat), r ≤ M ∧ c = .int .i64 r ∧ k = .int .i64 (nz (sls.take r) : Nat) ∧ W = wr) (fun _ c _ => M - (intOf c).toNat)
                      case atStart => exact ⟨0, by omega, rfl, rfl, rfl⟩
                      case round =>
                        obtain ⟨r, hrM, rfl, rfl, hW⟩ := hrel
                        subst hW
                        by_cases hrl : r < M
                        · obtain ⟨u, hu⟩ : ∃ u, sls[r]? = some u := ⟨_, List.getElem?_eq_getElem (by rw [HME.out]; exact hrl)⟩
                          obtain ⟨gs, hgs, hcell⟩ : ∃ gs, asl = some ⟨gs, 0, none⟩ ∧ wr.cell? ⟨gs, r, none⟩ = some (.int .u64 (u : Int)) := by
                            obtain ⟨gs, cap, hv, _, _, _, hc⟩ := HKS.out.mid.slots (by intro e; subst e; simp at hu)
                            simp only [Value.slice.injEq] at hv
                            exact ⟨gs, hv.1, hc r u hu⟩
                          subst hgs
                          have HNT := hide (nz_take sls r u hu)
                          have hnb : nz (sls.take r) ≤ 2000 := by have h1 := nz_take_le sls r; have h2 := HKS.out.tab.cnt; omega
                          have HU := hide hu
                          clear hu
                          obtain ⟨ct, hct⟩ : ∃ ct, nz (sls.take r) = ct := ⟨_, rfl⟩
                          have HCT := hide hct
                          rw [hct] at hnb ⊢
                          clear hct
                          by_cases hu0 : u = 0
                          · have hub : ((u : Int) == 0) = true := by simp [hu0]
                            go_wp2_with fail
                            go_roundw
                            case rel => exact ⟨r + 1, by omega, by go_num, by rw [HNT.out, if_pos hu0, HCT.out]; rfl, by trivial⟩
                            case measure => simp [intOf]; omega
                          · have hub : ((u : Int) == 0) = false := by simpa using hu0
                            obtain ⟨x, i, hsi, hxe⟩ := HKS.out.tab.only r u HU.out hu0
                            have him : i < m := by rw [← HKS.out.svl]; exact (List.getElem?_eq_some_iff.1 hsi).1
                            have HKA := hide (HKS.out.mid.keyAt HKS.out.hl rfl (HKS.out.ent i u hsi) (hH i) (HKB.out i him))
                            clear hsi hxe
                            go_wp2_with fail
                            refine HKA.out.mono ?_
                            rintro e X ⟨⟨ak, capk, rfl, hgk⟩, hX⟩
                            subst hX
                            clear HKA
                            have HGK := hide hgk
                            clear hgk
                            go_wp2_with fail
                            refine (has_calls _ _ _ hdrs KU (KU i) (by rw [HM.out]; omega) (HLD.out.gu.below HBE.out (Nat.le_refl _)) (fun j hv hj => (HLD.out.hd j hv hj).below HBE.out (Nat.le_refl _)) HGK.out).mono ?_
                            rintro e X ⟨⟨b, rfl, hb⟩, hX⟩
                            subst hX
                            obtain rfl : b = true := hb.2 ⟨i, by rw [HM.out]; exact him, rfl⟩
                            clear hb
                            go_wp2_with fail
                            go_roundw
                            case rel => exact ⟨r + 1, by omega, by go_num, by rw [HNT.out, if_neg hu0, HCT.out]; rfl, by trivial⟩
                            case measure => simp [intOf]; omega
                        · have hrE : M = r := by omega
                          subst hrE
                          have hcm : nz (sls.take M) = m := by rw [← HME.out, List.take_length]; exact HKS.out.tab.cnt
                          rw [hcm]
                          go_wp2_with fail
                          go_ret
                          exact ⟨by simp, HBL.out.trans (HBE.out.mono HBL.out.size)⟩
end Go.Proofs.Ybulkckfg
