import Derived.Test.YbulkckfgHas
namespace Go.Proofs.Ybulkckfg
open Go.ChangeShapes Go.WideShapes Go.ChangeAt Go.RowKit

/-- a slot stored -/
theorem Mid.storeSl {w W : World} {blk : Array Value} {vch : Value} {hs : List Value} {g n cap : Nat} {sls : List Nat} {crs : List R} (h : Mid w W blk vch hs (.slice (some ⟨g, 0, none⟩) n cap) sls crs) (hn : sls.length = n) (j v : Nat) :
    Mid w (W.setCell ⟨g, j, none⟩ (.int .u64 (v : Int))) blk vch hs (.slice (some ⟨g, 0, none⟩) n cap) (sls.set j v) crs := by
  obtain ⟨h1, h2⟩ := h.own.store (i := 1) (e := 24) (g := g) (n := n) (cap := cap) (xs := nums sls) rfl (by rw [nums_length]; exact hn) j (.int .u64 (v : Int))
  obtain ⟨h3, h4, h5⟩ := h.kept_blk h2 (fun k hk => by cases hk; exact (h.sl.lt g rfl).1)
  have e : (nums sls).set j (.int .u64 (v : Int)) = nums (sls.set j v) := by simp [nums, List.map_set]
  rw [e] at h1
  exact ⟨h3, by simpa using h1, h4, h5⟩

theorem sv_at (sv : List Nat) (v i x : Nat) (h : (sv ++ [v])[i]? = some x) : sv[i]? = some x ∨ (i = sv.length ∧ x = v) := by
  by_cases hi : i < sv.length
  · rw [List.getElem?_append_left hi] at h; exact .inl h
  · have : i = sv.length := by have := (List.getElem?_eq_some_iff.1 h).1; simp at this; omega
    subst this
    simp at h
    exact .inr ⟨rfl, h.symm⟩

/-- the key set once the key is laid and placed -/
theorem KS.step {w W W' : World} {vch vsl v3 : Value} {n bys : Nat} {hs0 : List Value} {hd : Value} {ls0 : List (List UInt8)} {l : List UInt8} {sls sv : List Nat} {H : Nat → Nat} {KU : Nat → List UInt8} {T : Nat}
    (hk : KS w W vch vsl n bys (hs0 ++ [hd]) (ls0 ++ [l]) sls sv H KU) (hroom : 2 * (n + 1) ≤ sls.length) (hc : ls0.length ≤ 1000) (hl : l.length ≤ 100000) (hR : Reach sls (H n) T 0)
    (hM : Mid w W' #[vch, vsl, .int .i64 ((n : Int) + 1), .int .i64 bys] vch (hs0 ++ [v3]) vsl (sls.set ((H n + T) % sls.length) (slotv ls0.length l.length (H n / 281474976710656))) (crows hs0 ls0 ++ [⟨5, v3, bc (((l ++ le8 (H n)) ++ uv (KU n).length) ++ KU n)⟩])) :
    KS w W' vch vsl (n + 1) bys (hs0 ++ [v3]) (ls0 ++ [((l ++ le8 (H n)) ++ uv (KU n).length) ++ KU n]) (sls.set ((H n + T) % sls.length) (slotv ls0.length l.length (H n / 281474976710656))) (sv ++ [slotv ls0.length l.length (H n / 281474976710656)]) H KU := by
  have hh : hs0.length = ls0.length := by have := hk.hl; simpa using this
  have hsv := hk.svl
  refine ⟨by rw [crows_snoc _ _ _ _ hh]; exact hM, by simp [hh], by simp [hsv], fun i v hi => ?_, ?_, ?_⟩
  · rcases sv_at sv _ i v hi with h1 | ⟨rfl, rfl⟩
    · have := (hk.ent i v h1).grow ((le8 (H n) ++ uv (KU n).length) ++ KU n)
      simpa only [List.append_assoc] using this
    · rw [hsv]
      refine ⟨ls0.length, l.length, [], _, rfl, by omega, by omega, by simp; rfl, ?_⟩
      simp only [List.append_nil, List.drop_left]
  · refine (hk.tab.put hR (slotv_pos0 _ _ _)).congr fun v x => ⟨?_, ?_⟩
    · rintro (⟨i, h1, h2⟩ | ⟨rfl, rfl⟩)
      · exact ⟨i, by rw [List.getElem?_append_left (List.getElem?_eq_some_iff.1 h1).1]; exact h1, h2⟩
      · exact ⟨n, by rw [← hsv]; simp, rfl⟩
    · rintro ⟨i, h1, h2⟩
      rcases sv_at sv _ i v h1 with h3 | ⟨rfl, rfl⟩
      · exact .inl ⟨i, h3, h2⟩
      · rw [hsv] at h2
        exact .inr ⟨rfl, h2.symm⟩
  · rw [List.length_set]
    rcases hk.pow with ⟨h0, _⟩ | ⟨m, h1, h2, _⟩
    · rw [h0] at hroom; simp at hroom
    · exact .inr ⟨m, h1, h2, hroom⟩

set_option linter.unusedSimpArgs false in
set_option maxRecDepth 100000 in
set_option maxHeartbeats 4000000 in
theorem insert_calls {w W : World} {vch vsl : Value} {n bys : Nat} {hs0 : List Value} {hd : Value} {ls0 : List (List UInt8)} {l : List UInt8} {sls sv : List Nat} {H : Nat → Nat} {KU : Nat → List UInt8}
    (hk : KS w W vch vsl n bys (hs0 ++ [hd]) (ls0 ++ [l]) sls sv H KU) (hroom : 2 * (n + 1) ≤ sls.length) (hc : ls0.length ≤ 1000) (hl : l.length ≤ 100000) (hn : n ≤ 1000) (hH : H n < 18446744073709551616) (hK : (KU n).length ≤ 100000)
    (vk : Value) (hg : ∀ W', Below w.heap.size w W' → Gives W' vk (bc (KU n))) :
    Calls Yba.prog 13 #[.pointer (some ⟨w.heap.size, 0, none⟩), vk, .int .u64 (H n : Nat)] W fun e w' => e = .returned (.tuple #[]) ∧ ∃ v3 sls' sv', sls'.length = sls.length ∧ KS w w' vch vsl (n + 1) bys (hs0 ++ [v3]) (ls0 ++ [((l ++ le8 (H n)) ++ uv (KU n).length) ++ KU n]) sls' sv' H KU := by
  have hh : hs0.length = ls0.length := by have := hk.hl; simpa using this
  obtain ⟨T, hR⟩ := hk.tab.room (by omega) (H n)
  have HR := hide hR
  have HKS := hide hk
  have hM0 := hk.mid
  rw [crows_snoc _ _ _ _ hh] at hM0
  have hne : sls ≠ [] := by intro e; subst e; simp at hroom
  obtain ⟨gs, caps, hvsl, _⟩ := hk.mid.slots hne
  obtain ⟨m, hpm, hpm2⟩ : ∃ m, sls.length = 2 ^ m ∧ m ≤ 20 := by
    rcases hk.pow with ⟨h0, _⟩ | ⟨m, h1, h2, _⟩
    · exact absurd h0 hne
    · exact ⟨m, h1, h2⟩
  obtain ⟨gch, capch, hvch⟩ : ∃ gch capch, vch = .slice (some ⟨gch, 0, none⟩) (ls0.length + 1) capch := by
    rcases hk.mid.ch.form with ⟨_, h0⟩ | ⟨gch, capch, hv, _⟩
    · simp at h0
    · refine ⟨gch, capch, ?_⟩
      rw [hv]
      simp [hh]
  subst hvsl hvch
  have hro : OwnR W (w.heap.size + 1) 5 hd (bc l) := hM0.row (j := (crows hs0 ls0).length) (r := ⟨5, hd, bc l⟩) (by simp)
  obtain ⟨ah, caph, hhd⟩ := hro.form2
  rw [bc_length] at hhd
  subst hhd
  have hcl0 : ∀ W' v3 L3 u, Mid w W' #[.slice (some ⟨gch, 0, none⟩) (ls0.length + 1) capch, .slice (some ⟨gs, 0, none⟩) sls.length caps, .int .i64 n, .int .i64 bys] (.slice (some ⟨gch, 0, none⟩) (ls0.length + 1) capch) (hs0 ++ [u]) (.slice (some ⟨gs, 0, none⟩) sls.length caps) sls (crows hs0 ls0 ++ [⟨5, v3, bc L3⟩]) → W'.cell? ⟨gch, ls0.length, none⟩ = some u ∧ W'.frozen? ⟨gch, ls0.length, none⟩ = false ∧ W'.cell? ⟨w.heap.size, 0, none⟩ = some (.slice (some ⟨gch, 0, none⟩) (ls0.length + 1) capch) := by
    intro W' v3 L3 u hm
    refine ⟨?_, ?_, by have := hm.cell 0; simpa using this⟩
    · rcases hm.ch.form with ⟨h1, _⟩ | ⟨g, cap, h2, _, _, _, h3, h4⟩
      · cases h1
      · simp at h2
        obtain ⟨rfl, _, _⟩ := h2
        rw [h4 _ (by simp [hh])]
        simp [← hh]
    · rcases hm.ch.form with ⟨h1, _⟩ | ⟨g, cap, h2, _, _, _, h3, h4⟩
      · cases h1
      · simp at h2
        obtain ⟨rfl, _, _⟩ := h2
        exact h3 _
  have HCL := hide hcl0
  obtain ⟨hch1, _, hch0⟩ := hcl0 W _ _ _ hM0
  clear hcl0 hR hk
  have hsz := hM0.sz
  have HM0 := hide hM0
  have HHH := hide hh
  have HPM := hide hpm
  clear hM0 hpm hh
  obtain ⟨ka, kc, hvk, _⟩ := hg W HM0.out.bel
  rw [bc_length] at hvk
  subst hvk
  have HGV := hide hg
  clear hg
  obtain ⟨cc, hcc⟩ : ∃ cc, ls0.length = cc := ⟨_, rfl⟩
  obtain ⟨nl, hnl⟩ : ∃ nl, l.length = nl := ⟨_, rfl⟩
  have HCC := hide hcc
  have HNL := hide hnl
  rw [hcc] at hch1 hch0 hc HCL HM0
  rw [hnl] at hl hch1 HM0 hro
  clear hcc hnl
  go_enter Yba.func13, Yba.ntmps13
  go_wp2_with fail
  refine (app64 (.slice ah nl caph) l (H n) W (w.heap.size + 1) (by omega) (by omega) hro (by rw [HNL.out]; omega) hsz).mono ?_
  rintro e W1 ⟨v1, rfl, ho1, hg1, hp1⟩
  have hM1 := HM0.out.updLast hg1 ho1 hp1
  have hsz1 := hM1.sz
  have HM1 := hide hM1
  clear hM1 hg1 hp1 hch0 hch1 hro hsz
  have hlx : (l ++ le8 (H n)).length ≤ 200000 := by rw [List.length_append, HNL.out, le8_length]; omega
  go_wp2_with fail
  refine (appUv v1 (l ++ le8 (H n)) (KU n).length W1 (w.heap.size + 1) (by omega) ho1 (by omega) hsz1).mono ?_
  rintro e W2 ⟨v2, rfl, ho2, hg2, hp2⟩
  have hM2 := HM1.out.updLast hg2 ho2 hp2
  have hul := uv_len (KU n).length (by omega)
  have hsz2 := hM2.sz
  have hgiv := HGV.out W2 hM2.bel
  have hch0 := hM2.cell 0
  simp at hch0
  have hlen2 : (bc ((l ++ le8 (H n)) ++ uv (KU n).length)).length + (bc (KU n)).length ≤ 400000 := by
    rw [bc_length, bc_length, List.length_append]; omega
  have HM2 := hide hM2
  clear HM1 hM2 hsz1 ho1 hg2 hp2
  have hib : (cc : Int) < (cc : Int) + 1 := by omega
  go_upto_region 5 with fail
  go_cut [40] (fun _ W' => ∃ v3, Mid w W' #[.slice (some ⟨gch, 0, none⟩) (cc + 1) capch, .slice (some ⟨gs, 0, none⟩) sls.length caps, .int .i64 n, .int .i64 bys] (.slice (some ⟨gch, 0, none⟩) (cc + 1) capch) (hs0 ++ [v3]) (.slice (some ⟨gs, 0, none⟩) sls.length caps) sls (crows hs0 ls0 ++ [⟨5, v3, bc (((l ++ le8 (H n)) ++ uv (KU n).length) ++ KU n)⟩]))
  case first =>
    go_region_law ((try simp only [Act.put, List.getElem_toArray, List.getElem_cons_succ, List.getElem_cons_zero, List.setIfInBounds_toArray, List.set_cons_zero, List.set_cons_succ]); refine step_append_full (by rfl) (.tmp 38) (.tmp 39) 26 rfl (w.heap.size + 1) 5 1 (.int .u8 0) Yba.underlying26 info5 rfl v2 (bc ((l ++ le8 (H n)) ++ uv (KU n).length)) (by rfl) (by exact ho2) (.slice ka (KU n).length kc) (bc (KU n)) (by rfl) (by exact hgiv) (bc_one _) (by unfold maxLen; omega) (by omega) (by exact hsz2) ?_; intro v3 W3 ho3 hg3 _ hp3; obtain ⟨hM3, ⟨hc3, hf3, hb3⟩, g3, c3, n3, hv3⟩ := mid_next (HM2.out.drewN 1) (fun W' v3 L3 => HCL.out W' v3 L3 _) hg3 ho3 hp3; rw [hv3] at hM3 ⊢)
    all_goals
      go_wp2_with fail
      go_meet
      case rel => exact ⟨_, mid_store hM3 (HHH.out.trans HCC.out) _⟩
  case rest =>
    clear HM2 ho2 hgiv hch0 hsz2
    obtain ⟨v3, hM⟩ := hcut
    obtain ⟨gs', caps', hq, _, _, hfr, hsl⟩ := hM.slots hne
    simp only [Value.slice.injEq, Option.some.injEq, Addr.mk.injEq, true_and, and_true] at hq
    obtain ⟨rfl, rfl⟩ := hq
    have hb1 := hM.cell 1
    simp at hb1
    have hM5 := hM.storeSl rfl ((H n + T) % sls.length) (slotv cc nl (H n / 281474976710656))
    have HP := hide (place_calls wc w.heap.size gs caps m sls (slotv cc nl (H n / 281474976710656)) (H n) T hb1 HPM.out hpm2 hH hsl hfr HR.out)
    have hb2 := hM5.cell 2
    simp at hb2
    have hf2 := hM5.frozen 2
    have hM6 := hM5.field 2 (.int .i64 ((n : Int) + 1))
    have HM6 := hide hM6
    clear hM hM5 hM6 hfr hsl hb1
    go_wp2_with fail
    refine (slotOf_calls cc nl (H n) _ (by omega) (by omega) hH).mono ?_
    rintro e X ⟨rfl, hX⟩
    subst hX
    go_wp2_with fail
    refine HP.out.mono ?_
    rintro e X ⟨rfl, hX⟩
    subst hX
    go_wp2_with fail
    refine bodyPost_end (v := .tuple #[]) (by simp [results, Yba.results13]) rfl ⟨rfl, ?_⟩
    have hcc := HCC.out
    have hnl := HNL.out
    subst hcc hnl
    exact ⟨v3, _, _, by simp, HKS.out.step hroom hc hl HR.out HM6.out⟩
end Go.Proofs.Ybulkckfg
