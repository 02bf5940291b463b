import Derived.Test.YbulkckfgMore
namespace Go.Proofs.Ybulkckfg
open Go.ChangeShapes Go.WideShapes Go.ChangeAt Go.RowKit

/-- how many slots there will be -/
def slots2 (n M : Nat) : Nat := if 2 * (n + 1) > M then max (2 * M) 64 else M
theorem slots2_ge (n M : Nat) : M ≤ slots2 n M := by unfold slots2; split <;> omega
theorem slots2_le (n M : Nat) (hn : n ≤ 600) : slots2 n M ≤ M + 1300 := by unfold slots2; split <;> omega
theorem slots2_pow (n M : Nat) (hn : n ≤ 600) (h : (M = 0 ∧ n = 0) ∨ ∃ m, M = 2 ^ m ∧ m ≤ 20 ∧ 2 * n ≤ M) : ∃ m, slots2 n M = 2 ^ m ∧ m ≤ 20 ∧ 2 * (n + 1) ≤ slots2 n M := by
  unfold slots2
  by_cases hb : 2 * (n + 1) > M
  · rw [if_pos hb]
    by_cases h64 : 2 * M ≤ 64
    · exact ⟨6, by rw [Nat.max_eq_right h64], by decide, by omega⟩
    · rcases h with ⟨h0, _⟩ | ⟨m, h1, h2, h3⟩
      · omega
      · refine ⟨m + 1, by rw [Nat.max_eq_left (by omega), h1, Nat.pow_succ]; omega, ?_, by omega⟩
        by_cases hm : m + 1 ≤ 20
        · exact hm
        · have h20 : m = 20 := by omega
          subst h20
          simp only [show 2 ^ 20 = 1048576 from rfl] at h1
          omega
  · rw [if_neg hb]
    rcases h with ⟨h0, _⟩ | ⟨m, h1, h2, h3⟩
    · omega
    · exact ⟨m, h1, h2, by omega⟩

/-- the last header, opened -/
theorem Mid.lastHd {w W : World} {blk : Array Value} {vch : Value} {hs0 : List Value} {hd : Value} {vsl : Value} {sls : List Nat} {ls0 : List (List UInt8)} {l : List UInt8} (h : Mid w W blk vch (hs0 ++ [hd]) vsl sls (crows hs0 ls0 ++ [⟨5, hd, bc l⟩])) :
    ∃ gch capch ah caph, vch = .slice (some ⟨gch, 0, none⟩) (hs0.length + 1) capch ∧ hd = .slice ah l.length caph ∧ caph ≤ 9223372036854775807 ∧ l.length ≤ caph ∧ W.cell? ⟨gch, hs0.length, none⟩ = some hd := by
  have hro := h.row (j := (crows hs0 ls0).length) (r := ⟨5, hd, bc l⟩) (by simp)
  rcases h.ch.form with ⟨_, h0⟩ | ⟨gch, capch, hv, _, _, _, _, hc⟩
  · simp at h0
  · have hcell := hc hs0.length (by simp)
    rcases hro.2 with ⟨h1, h0⟩ | ⟨g, cap, cur, hv2, _, _, hnc, hcm, _, _⟩
    · have hl0 : l.length = 0 := by rw [bc_length] at h0; exact h0
      exact ⟨gch, capch, none, 0, by rw [hv]; simp, by rw [hl0]; exact h1, by decide, by omega, by rw [hcell]; simp⟩
    · rw [bc_length] at hv2 hnc
      exact ⟨gch, capch, some ⟨g, 0, none⟩, cap, by rw [hv]; simp, hv2, hcm, hnc, by rw [hcell]; simp⟩

theorem nonneg_max (a b : Int) (ha : a ≤ 1048576) (hb : 0 < b) (hb2 : b ≤ 1048576) : 0 < max a b ∧ max a b ≤ 1048576 := by omega

theorem nz_take_le (l : List Nat) (r : Nat) : nz (l.take r) ≤ nz l := by
  unfold nz
  exact (List.take_sublist r l).countP_le

theorem rehash_place {w W : World} {blk0 blk2 blk3 : Value} {vch : Value} {hs : List Value} {gs M2 m u h T : Nat} {new : List Nat} {crs : List R} (hM : Mid w W #[blk0, .slice (some ⟨gs, 0, none⟩) M2 M2, blk2, blk3] vch hs (.slice (some ⟨gs, 0, none⟩) M2 M2) new crs)
    (hl : new.length = M2) (hp : new.length = 2 ^ m) (hm : m ≤ 20) (hh : h < 18446744073709551616) (hR : Reach new h T 0) (hne : new ≠ []) :
    Calls Yba.prog 18 #[.pointer (some ⟨w.heap.size, 0, none⟩), .int .u64 (u : Int), .int .u64 (h : Int)] W fun e w' => e = .returned (.tuple #[]) ∧ w' = W.setCell ⟨gs, (h + T) % new.length, none⟩ (.int .u64 (u : Int)) := by
  obtain ⟨gs', caps', hq, _, _, hfr, hsl⟩ := hM.slots hne
  simp only [Value.slice.injEq, Option.some.injEq, Addr.mk.injEq, and_true] at hq
  obtain ⟨rfl, _, rfl⟩ := hq
  have hb1 := hM.cell 1
  simp at hb1
  exact place_calls W w.heap.size gs M2 m new u h T (by rw [hl]; exact hb1) hp hm hh hsl hfr hR

theorem make_run (w : World) (base ch : Nat) (h1 : ch ≤ 281474976710656) (h2 : ch ≤ maxLen) (h3 : base ≤ w.heap.size) :
    ∃ w', (Instr.makeSlice 26 (.int .i64 0) (.int .i64 (ch : Int))).run Yba.prog w = .ok (.slice (some ⟨w.heap.size, 0, none⟩) 0 ch) w' ∧ OwnR w' base 5 (.slice (some ⟨w.heap.size, 0, none⟩) 0 ch) [] ∧ w.grownBy w' none := by
  obtain ⟨i, hi, hz, hsz, hby⟩ := info_parts info5
  obtain ⟨w', hrun, r1, r2⟩ := run_make_own (P := Yba.prog) w base 26 5 i _ 1 Yba.underlying26 hi hz hsz .i64 .i64 ch (by rw [hby]; omega) h2 h3
  exact ⟨w', hrun, r1, r2⟩

set_option linter.unusedSimpArgs false in
set_option maxRecDepth 100000 in
set_option maxHeartbeats 4000000 in
theorem room_calls {w W : World} {vch vsl : Value} {n bys : Nat} {hs : List Value} {ls : List (List UInt8)} {sls sv : List Nat} {H : Nat → Nat} {KU : Nat → List UInt8}
    (hk : KS w W vch vsl n bys hs ls sls sv H KU) (hn : n ≤ 600) (hH : ∀ i, H i < 18446744073709551616) (kl : Nat) (hkl : kl ≤ 100000) (hb : bys ≤ n * 2000000) (hls : ls.length ≤ 1000) (hM : sls.length ≤ 2000) :
    Calls Yba.prog 12 #[.pointer (some ⟨w.heap.size, 0, none⟩), .int .i64 kl, .int .i64 1099511627776] W fun e w' => e = .returned (.bool true) ∧ ∃ vch' vsl' bys' hs' ls' sls', bys' ≤ bys + 2000000 ∧ sls'.length = slots2 n sls.length ∧ ls' ≠ [] ∧ (ls' = ls ∨ ls' = ls ++ [[]]) ∧ KS w w' vch' vsl' n bys' hs' ls' sls' sv H KU := by
  have hb0 := hk.mid.cell 0
  have hb1 := hk.mid.cell 1
  have hb2 := hk.mid.cell 2
  have hb3 := hk.mid.cell 3
  simp at hb0 hb1 hb2 hb3
  obtain ⟨asl, caps, hvsl⟩ := hk.mid.sl.form2
  rw [nums_length] at hvsl
  obtain ⟨ac, capc, hvch⟩ := hk.mid.ch.form2
  rw [hk.hl] at hvch
  subst hvsl hvch
  have hlast : ls.length = 0 ∨ ∃ gch ah nl caph, ac = some ⟨gch, 0, none⟩ ∧ nl ≤ caph ∧ caph ≤ 9223372036854775807 ∧ W.cell? ⟨gch, ls.length - 1, none⟩ = some (.slice ah nl caph) := by
    by_cases h0 : ls.length = 0
    · exact .inl h0
    · right
      have hh := hk.hl
      obtain ⟨hs0, hd, rfl, h1⟩ : ∃ l0 x, hs = l0 ++ [x] ∧ l0.length = ls.length - 1 := by
        have hne : hs ≠ [] := by intro e; subst e; simp at hh; omega
        exact ⟨hs.dropLast, hs.getLast hne, (List.dropLast_concat_getLast hne).symm, by simp [hh]⟩
      obtain ⟨ls0, l, rfl, h2⟩ : ∃ l0 x, ls = l0 ++ [x] ∧ l0.length = ls.length - 1 := by
        have hne : ls ≠ [] := by intro e; subst e; simp at h0
        exact ⟨ls.dropLast, ls.getLast hne, (List.dropLast_concat_getLast hne).symm, by simp⟩
      have hm := hk.mid
      rw [crows_snoc _ _ _ _ (by rw [h1, h2])] at hm
      obtain ⟨gch, capch, ah, caph, hq, hhd, hcm, hlc, hcell⟩ := hm.lastHd
      simp only [Value.slice.injEq] at hq
      subst hhd
      exact ⟨gch, ah, l.length, caph, hq.1, hlc, hcm, by rw [← h1]; exact hcell⟩
  obtain ⟨m', hp1, hp2, hp3⟩ := slots2_pow n sls.length hn (by
    rcases hk.pow with ⟨h0, h1⟩ | h
    · exact .inl ⟨by rw [h0]; rfl, h1⟩
    · exact .inr h)
  have hge := slots2_ge n sls.length
  have hle2 := slots2_le n sls.length hn
  have HS2 : Hid (slots2 n sls.length = if 2 * (n + 1) > sls.length then max (2 * sls.length) 64 else sls.length) := rfl
  have HKS := hide hk
  have HP1 := hide hp1
  have HLS := hide hlast
  clear hk hp1 hlast
  obtain ⟨M, hME⟩ : ∃ M, sls.length = M := ⟨_, rfl⟩
  obtain ⟨nc, hnE⟩ : ∃ nc, ls.length = nc := ⟨_, rfl⟩
  obtain ⟨M2, hM2E⟩ : ∃ M2, slots2 n sls.length = M2 := ⟨_, rfl⟩
  rw [hM2E] at hp3 hge hle2 HS2
  rw [hME] at hb1 hge hle2 HS2 hM
  rw [hnE] at hb0 hls HLS
  have HME := hide hME
  have HNE := hide hnE
  have HM2 := hide hM2E
  clear hME hnE hM2E
  obtain ⟨ei, hei⟩ : ∃ ei : Int, (nc : Int) - 1 = ei := ⟨_, rfl⟩
  go_enter Yba.func12, Yba.ntmps12
  go_upto_if 28 with fail
  go_cut [7] (fun v W' => v = .int .i64 M2 ∧ W' = W)
  case first =>
    by_cases hgt : 2 * (n + 1) > M
    · have hd : decide ((M : Int) < 2 * ((n : Int) + 1)) = true := decide_eq_true (by omega)
      rw [if_pos hgt] at HS2
      go_wp2_with fail
      all_goals
        go_meet
        case rel => exact ⟨congrArg (Value.int IntKind.i64) (by have := HS2.out; omega), rfl⟩
    · have hd : decide ((M : Int) < 2 * ((n : Int) + 1)) = false := decide_eq_false (by omega)
      rw [if_neg hgt] at HS2
      go_wp2_with fail
      go_meet
      case rel => exact ⟨by rw [HS2.out], rfl⟩
  case rest =>
    obtain ⟨hv7, hW⟩ := hcut
    subst hv7 hW
    clear HS2
    go_upto_if 41 with fail
    go_cut [9] (fun v W' => ∃ ch : Nat, v = .int .i64 ch ∧ ch ≤ 1048576 ∧ (nc = 0 → 0 < ch) ∧ W' = wc)
    case first =>
      by_cases hn0 : nc = 0
      · have hdd : decide (ei < 0) = true := decide_eq_true (by omega)
        go_wp2_with fail
        all_goals
          go_meet
          case rel => first | exact ⟨4096, rfl, by omega, by omega, rfl⟩ | exact ⟨18 + kl, by go_num, by omega, by omega, rfl⟩
      · obtain ⟨gch, ah, nl, caph, hac, hnl, hcap, hcell⟩ : ∃ gch ah nl caph, ac = some ⟨gch, 0, none⟩ ∧ nl ≤ caph ∧ caph ≤ 9223372036854775807 ∧ wc.cell? ⟨gch, nc - 1, none⟩ = some (.slice ah nl caph) := by
          rcases HLS.out with h | h
          · exact absurd h hn0
          · exact h
        rw [hac] at hb0
        clear hac HLS HKS
        have hdd : decide (ei < 0) = false := decide_eq_false (by omega)
        rw [show nc - 1 = ei.toNat from by omega] at hcell
        by_cases hcs : caph ≤ 1000000000
        · go_wp2_with fail
          all_goals
            go_meet
            case rel => first | exact ⟨1048576, rfl, by omega, by omega, rfl⟩ | exact ⟨18 + kl, by go_num, by omega, by omega, rfl⟩ | exact ⟨2 * caph, by go_num, by omega, by omega, rfl⟩ | exact ⟨0, rfl, by omega, by omega, rfl⟩
        · have hz : wrap64 (2 * (caph : Int)) < 0 ∨ 1048576 < wrap64 (2 * (caph : Int)) := by unfold wrap64; omega
          generalize hzE : wrap64 (2 * (caph : Int)) = z at hz
          go_wp2_with fail
          all_goals
            go_meet
            case rel => first | exact ⟨1048576, rfl, by omega, by omega, rfl⟩ | exact ⟨18 + kl, by go_num, by omega, by omega, rfl⟩ | exact ⟨0, rfl, by omega, by omega, rfl⟩ | (exfalso; omega)
    case rest =>
      obtain ⟨ch, rfl, hch1, hch2, hW⟩ := hcut
      subst hW
      clear HLS
      go_upto_if 83 with fail
      go_cut [92] (fun _ W' => ∃ vch' hs' ls', ls' ≠ [] ∧ (ls' = ls ∨ ls' = ls ++ [[]]) ∧ KS w W' vch' (.slice asl M caps) n bys hs' ls' sls sv H KU)
      case first =>
        by_cases hc0 : ch = 0
        · have hdd : decide ((0 : Int) < (ch : Int)) = false := decide_eq_false (by omega)
          go_wp2_with fail
          go_meet
          case rel => exact ⟨_, hs, ls, by intro e; have := HNE.out; rw [e] at this; simp at this; omega, .inl rfl, by have := HKS.out; rw [HME.out] at this; exact this⟩
        · have hdd : decide ((0 : Int) < (ch : Int)) = true := decide_eq_true (by omega)
          have hro := HKS.out.mid.ch
          have hszz := HKS.out.mid.sz
          rw [HNE.out] at hro
          have hf0 := HKS.out.mid.frozen 0
          have hmx : ch ≤ maxLen := by unfold maxLen; omega
          have hlen1 : hs.length + [Value.slice (some ⟨wc.heap.size, 0, none⟩) 0 ch].length ≤ 2000 := by rw [HKS.out.hl, HNE.out]; simp; omega
          have hlE : (hs ++ [Value.slice (some ⟨wc.heap.size, 0, none⟩) 0 ch]).length = nc + 1 := by simp [HKS.out.hl, HNE.out]
          obtain ⟨W1, hrun, ho1, hg1⟩ := make_run wc.drew (w.heap.size + 1) ch (by omega) hmx hszz
          have hb0W := hg1.cell hb0 (by simp)
          have hsW := hg1.size
          have HG := hide (gives_lit W1 #[.slice (some ⟨wc.heap.size, 0, none⟩) 0 ch] 26)
          have hroA := (((HKS.out.mid.drewN 1).grown hg1).alloc (.cells #[.slice (some ⟨wc.heap.size, 0, none⟩) 0 ch] 26)).ch
          have hszA := (((HKS.out.mid.drewN 1).grown hg1).alloc (.cells #[.slice (some ⟨wc.heap.size, 0, none⟩) 0 ch] 26)).sz
          rw [HNE.out] at hroA
          have HG1 := hide hg1
          clear hg1
          have hszW : w.heap.size < W1.heap.size := by have : wc.drew.heap.size = wc.heap.size := rfl; omega
          go_wp2_with fail
          go_region_law ((try simp only [Act.put, List.getElem_toArray, List.getElem_cons_succ, List.getElem_cons_zero, List.setIfInBounds_toArray, List.set_cons_zero, List.set_cons_succ]); first
            | (refine step_append_full (by rfl) (.tmp 88) (.tmp 91) 22 rfl (w.heap.size + 1) 26 24 (.slice none 0 0) Yba.underlying22 info26 rfl (.slice ac nc capc) hs (by rfl) (by exact hroA) _ [.slice (some ⟨wc.heap.size, 0, none⟩) 0 ch] (by rfl) (by exact HG.out) (by intro u hu; rw [List.mem_singleton.1 hu]; rfl) (by unfold maxLen; omega) (by omega) (by exact hszA) ?_; intro v3 W3 ho3 hg3 _ hp3; obtain ⟨a3, c3, hv3⟩ := ho3.form2; rw [hlE] at hv3; subst hv3; have hM3 := (HKS.out.mid.drewN 1).more HG1.out ho1 (by rw [HNE.out]; exact hg3) ho3 (by rw [HNE.out]; exact hp3); have hc3 := hM3.cell 0; have hf3 := hM3.frozen 0; simp at hc3))
          all_goals
            go_wp2_with fail
            go_meet
            case rel => exact ⟨_, _, ls ++ [[]], by simp, .inr rfl, by have := HKS.out.more (hM3.field 0 _); rw [HME.out] at this; exact this⟩
      case rest =>
        clear HKS hb0 hb1 hb2 hb3
        obtain ⟨vch', hs', ls', hne', hor, hk'⟩ := hcut
        have HOR := hide hor
        have HNN := hide hne'
        have HK := hide hk'
        have hb0 := hk'.mid.cell 0
        have hb1 := hk'.mid.cell 1
        have hb3 := hk'.mid.cell 3
        simp at hb0 hb1 hb3
        have hf1 := hk'.mid.frozen 1
        have hf3 := hk'.mid.frozen 3
        clear hor hne' hk'
        go_upto_if 101 with fail
        go_cut [13] (fun _ W' => ∃ vsl' sls', sls'.length = M2 ∧ KS w W' vch' vsl' n bys hs' ls' sls' sv H KU)
        case first =>
          by_cases hgr : M < M2
          · have hdd : decide ((M : Int) < (M2 : Int)) = true := decide_eq_true (by omega)
            have hszz := HK.out.mid.sz
            go_wp2_with (at_make; refine wpList_make_full_R _ rfl _ _ 28 rfl (w.heap.size + 1) 24 8 (.int .u64 0) Yba.underlying28 info24 rfl _ _ _ _ M2 rfl rfl (by first | rfl | omega) (by first | rfl | omega) (by omega) (by unfold maxLen; omega) (by exact hszz) ?_)
            intro W1 ho1 hg1
            have hMT := HK.out.mid.table hg1 ho1
            have hc1 := hMT.cell 1
            have hfr1 := hMT.frozen 1
            simp at hc1
            have HMT := hide (hMT.field 1 (.slice (some ⟨wc.heap.size, 0, none⟩) M2 M2))
            clear hMT ho1 hg1
            have hnzM : nz (List.replicate M2 0) = 0 := nz_zero M2
            go_wp2_with fail
            go_loopw [113] (fun v W' => ∃ (r : Nat) (new : List Nat), r ≤ M ∧ v = .int .i64 r ∧ new.length = M2 ∧ Mid w W' #[vch', .slice (some ⟨wc.heap.size, 0, none⟩) M2 M2, .int .i64 n, .int .i64 bys] vch' hs' (.slice (some ⟨wc.heap.size, 0, none⟩) M2 M2) new (crows hs' ls' ++ [⟨24, .slice asl M caps, nums sls⟩]) ∧ Tab new (Upto sls (SV sv H) r) (nz (sls.take r))) (fun v _ => M - (intOf v).toNat)
            case atStart =>
              refine ⟨0, List.replicate M2 0, Nat.zero_le _, rfl, by simp, HMT.out, ?_⟩
              exact (Tab.empty M2).congr fun v x => ⟨fun h => h.elim, fun ⟨_, q, hq, _⟩ => absurd hq (by omega)⟩
            case round =>
              obtain ⟨r, new, hrM, rfl, hnl, hMd, hTb⟩ := hrel
              have HMd := hide hMd
              have HTb := hide hTb
              have HNL := hide hnl
              by_cases hrl : r < M
              · obtain ⟨u, hu⟩ : ∃ u, sls[r]? = some u := ⟨_, List.getElem?_eq_getElem (by rw [HME.out]; exact hrl)⟩
                obtain ⟨go, hgo, hcell⟩ : ∃ go, asl = some ⟨go, 0, none⟩ ∧ wr.cell? ⟨go, r, none⟩ = some (.int .u64 (u : Int)) := by
                  have hro := hMd.row (j := (crows hs' ls').length) (r := ⟨24, .slice asl M caps, nums sls⟩) (by simp)
                  rcases hro.form with ⟨_, h0⟩ | ⟨go, cap, hv, _, _, _, _, hc⟩
                  · have : (nums sls).length = 0 := by rw [show nums sls = [] from h0]; rfl
                    rw [nums_length, HME.out] at this
                    omega
                  · simp only [Value.slice.injEq] at hv
                    exact ⟨go, hv.1, by rw [hc r (by rw [nums_length, HME.out]; exact hrl), nums_at sls r u hu]⟩
                subst hgo
                have HU := hide hu
                clear hMd hTb hu
                by_cases hu0 : u = 0
                · have hub : ((u : Int) == 0) = true := by simp [hu0]
                  go_wp2_with fail
                  go_roundw
                  case rel => exact ⟨r + 1, new, by omega, by go_num, HNL.out, HMd.out, HTb.out.skip (fun v h ⟨i, h1, _⟩ => (HK.out.ent i v h1).ne) (by rw [HU.out, hu0])⟩
                  case measure => simp [intOf]; omega
                · have hub : ((u : Int) == 0) = false := by simpa using hu0
                  obtain ⟨x, i, hsi, hxe⟩ := HK.out.tab.only r u HU.out hu0
                  have HSI := hide hsi
                  have HEN := hide (HK.out.ent i u hsi)
                  clear hsi hxe
                  have hhi := hH i
                  obtain ⟨T, hR⟩ := reach_zero new (H i) (by rw [HTb.out.cnt, HNL.out]; have := nz_take_le sls r; have := HK.out.tab.cnt; omega)
                  have HR := hide hR
                  obtain ⟨g, o, ln, cap, h8, hbytes, hE⟩ := (HMd.out.less.drewN 1).entry HK.out.hl rfl HEN.out hhi
                  have HE := hide hE
                  have HBY := hide hbytes
                  clear hR hbytes hE
                  have hnne : new ≠ [] := by intro e; have := HNL.out; rw [e] at this; simp at this; omega
                  have HP2 : Hid (new.length = 2 ^ m') := by show _ = _; rw [HNL.out, ← HM2.out]; exact HP1.out
                  go_wp2_with fail
                  go_region_with (first
                    | (go_at_call 16; refine HE.out.mono ?_; rintro e X ⟨rfl, hX⟩; subst hX)
                    | (go_at_call 19; refine (u64_calls g o ln cap (H i) _ hhi h8 (by exact HBY.out)).mono ?_; rintro e W2 ⟨rfl, hg2⟩; have HM2d := hide ((HMd.out.drewN 1).grown hg2); clear hg2)
                    | (go_at_call 18; refine (rehash_place HM2d.out HNL.out HP2.out hp2 hhi HR.out hnne).mono ?_; rintro e X ⟨rfl, hX⟩; subst hX))
                  all_goals
                    go_wp2_with fail
                    go_roundw
                    case rel =>
                      refine ⟨r + 1, new.set ((H i + T) % new.length) u, by omega, by go_num, by simp [HNL.out], by have := HM2d.out.storeSl HNL.out ((H i + T) % new.length) u; rw [HNL.out] at this ⊢; exact this, HTb.out.again HU.out hu0 ⟨i, HSI.out, rfl⟩ ?_ HR.out⟩
                      rintro y ⟨i2, h1, rfl⟩
                      exact (HK.out.ent i2 u h1).one HEN.out (hH i2) hhi
                    case measure => simp [intOf]; omega
              · have hrE : r = M := by omega
                subst hrE
                go_wp2_with fail
                go_meet
                case rel =>
                  refine ⟨_, new, HNL.out, HK.out.retab HMd.out.less (Tab.done HK.out.tab ?_) (m := m') (by rw [HNL.out, ← HM2.out]; exact HP1.out) hp2 (by rw [HNL.out]; omega)⟩
                  rw [HME.out]
                  exact HTb.out
          · have hdd : decide ((M : Int) < (M2 : Int)) = false := decide_eq_false (by omega)
            go_wp2_with fail
            go_meet
            case rel => exact ⟨_, sls, by rw [HME.out]; omega, HK.out⟩
        case rest =>
          obtain ⟨vsl', sls', hsl', hk2⟩ := hcut
          have hb3 := hk2.mid.cell 3
          simp at hb3
          have hf3 := hk2.mid.frozen 3
          have HK2 := hide hk2
          clear hk2
          go_wp2_with fail
          go_ret
          refine ⟨rfl, vch', vsl', bys + (ch + 8 * (M2 - M)), hs', ls', sls', by omega, ?_, HNN.out, HOR.out, ?_⟩
          · rw [hsl', HM2.out]
          · rw [show ((bys : Int) + ((ch : Int) + 8 * ((M2 : Int) - (M : Int)))) = ((bys + (ch + 8 * (M2 - M)) : Nat) : Int) from by omega]
            exact ⟨HK2.out.mid.field 3 _, HK2.out.hl, HK2.out.svl, HK2.out.ent, HK2.out.tab, HK2.out.pow⟩
end Go.Proofs.Ybulkckfg
