import Derived.Test.YbulkckfgSet
namespace Go.Proofs.Ybulkckfg
open Go.ChangeShapes Go.WideShapes Go.ChangeAt Go.RowKit

def SV (sv : List Nat) (H : Nat → Nat) (v h : Nat) : Prop := ∃ i, sv[i]? = some v ∧ H i = h

/-- the key set with n keys in it -/
structure KS (w W : World) (vch vsl : Value) (n bys : Nat) (hs : List Value) (ls : List (List UInt8)) (sls sv : List Nat) (H : Nat → Nat) (KU : Nat → List UInt8) : Prop where
  mid : Mid w W #[vch, vsl, .int .i64 n, .int .i64 bys] vch hs vsl sls (crows hs ls)
  hl : hs.length = ls.length
  svl : sv.length = n
  ent : ∀ (i v : Nat), sv[i]? = some v → Ent ls v (H i) (KU i)
  tab : Tab sls (SV sv H) n
  pow : (sls = [] ∧ n = 0) ∨ ∃ m, sls.length = 2 ^ m ∧ m ≤ 20 ∧ 2 * n ≤ sls.length

theorem nums_at (l : List Nat) (q v : Nat) (h : l[q]? = some v) : (nums l)[q]? = some (.int .u64 (v : Int)) := by simp [nums, h]

/-- the slots, opened -/
theorem Mid.slots {w W : World} {blk : Array Value} {vch : Value} {hs : List Value} {vsl : Value} {sls : List Nat} {crs : List R} (h : Mid w W blk vch hs vsl sls crs) (hne : sls ≠ []) :
    ∃ gs cap, vsl = .slice (some ⟨gs, 0, none⟩) sls.length cap ∧ w.heap.size + 1 ≤ gs ∧ gs < W.heap.size ∧ (∀ q, W.frozen? ⟨gs, q, none⟩ = false) ∧ ∀ (q v : Nat), sls[q]? = some v → W.cell? ⟨gs, q, none⟩ = some (.int .u64 (v : Int)) := by
  rcases h.sl.form with ⟨_, h0⟩ | ⟨gs, cap, hv, hb, hlt, _, hf, hc⟩
  · exact absurd (List.map_eq_nil_iff.1 h0) hne
  · rw [nums_length] at hv hc
    exact ⟨gs, cap, hv, hb, hlt, hf, fun q v hq => by rw [hc q (List.getElem?_eq_some_iff.1 hq).1, nums_at sls q v hq]⟩

theorem tag_and (v : Nat) (hv : v < 18446744073709551616) : bits .and .u64 (v : Int) 65535 = ((v % 65536 : Nat) : Int) := by
  have := u64_and_nat v 65535 hv (by omega)
  rw [show (65535 : Int) = ((65535 : Nat) : Int) from rfl, this]
  have h3 := Nat.and_two_pow_sub_one_eq_mod v 16
  simp only [show 2 ^ 16 - 1 = 65535 from rfl, show 2 ^ 16 = 65536 from rfl] at h3
  rw [h3]

theorem Ent.lt {ls : List (List UInt8)} {v h : Nat} {K : List UInt8} (he : Ent ls v h K) (hh : h < 18446744073709551616) : v < 18446744073709551616 ∧ v % 65536 = h / 281474976710656 := by
  obtain ⟨c, pos, _, _, rfl, hc, hp, _⟩ := he
  exact ⟨slotv_lt c pos _ hc hp (by omega), by unfold slotv; omega⟩

set_option maxRecDepth 100000 in
set_option maxHeartbeats 1000000 in
theorem find_calls {w W : World} {vch vsl : Value} {n bys : Nat} {hs : List Value} {ls : List (List UInt8)} {sls sv : List Nat} {H : Nat → Nat} {KU : Nat → List UInt8} (hk : KS w W vch vsl n bys hs ls sls sv H KU)
    (hH : ∀ i, H i < 18446744073709551616) (hKU : ∀ i, i < n → (KU i).length ≤ 1000000) (i : Nat) (hi : i < n) (vk : Value) (hg : Gives W vk (bc (KU i))) :
    Calls Yba.prog 14 #[.pointer (some ⟨w.heap.size, 0, none⟩), vk, .int .u64 (H i : Nat)] W fun e w' => e = .returned (.bool true) ∧ w' = W := by
  rcases hk.pow with ⟨_, h0⟩ | ⟨m, hM, hm, h2n⟩
  · omega
  · have hne : sls ≠ [] := by intro e; subst e; simp at h2n; omega
    obtain ⟨gs, cap, rfl, hgb, hglt, hfr, hsl⟩ := hk.mid.slots hne
    have hiv : i < sv.length := by rw [hk.svl]; exact hi
    obtain ⟨hv0, T, hR⟩ := hk.tab.found sv[i] (H i) ⟨i, List.getElem?_eq_getElem hiv, rfl⟩
    have heI := hk.ent i sv[i] (List.getElem?_eq_getElem hiv)
    have hb1 := hk.mid.cell 1
    have hb2 := hk.mid.cell 2
    simp at hb1 hb2
    have hnb : ((n : Int) == 0) = false := by simp; omega
    have h1 : 1 ≤ sls.length := by rw [hM]; exact Nat.two_pow_pos _
    have h2 : sls.length ≤ 2 ^ 20 := by rw [hM]; exact Nat.pow_le_pow_right (by decide) hm
    simp only [show 2 ^ 20 = 1048576 from rfl] at h2
    have HMK := hide (fun x => mask_mod m sls.length x hM hm)
    have hhI := hH i
    have hmk := HMK.out (H i) hhI
    have HKS := hide hk
    have HR := hide hR
    have HSL := hide hsl
    have HE := hide heI
    have HG := hide hg
    clear hk hR hsl heI hM h2n hv0
    obtain ⟨M, hME⟩ : ∃ M, sls.length = M := ⟨_, rfl⟩
    have HLN := hide hME
    rw [hME] at hb1 h1 h2 HMK hmk
    clear hME
    generalize sv[i] = vI at *
    obtain ⟨tg, htg⟩ : ∃ tg : Nat, H i / 281474976710656 = tg := ⟨_, rfl⟩
    have htgi : (H i : Int) / 281474976710656 = (tg : Int) := by omega
    have HTG := hide htg
    clear htg
    generalize hhE : H i = h at *
    go_enter Yba.func14, Yba.ntmps14
    go_wp2_with fail
    go_loopg [9] T (fun k v X => ∃ t : Nat, t + k = T ∧ v = .int .u64 ((h + t) % M : Nat) ∧ X = W)
    case atStart => exact ⟨0, by omega, rfl, rfl⟩
    case round =>
      obtain ⟨t, ht, rfl, rfl⟩ := hrel
      have hlt : (h + t) % M < M := Nat.mod_lt _ h1
      by_cases htT : t < T
      · obtain ⟨u, hu, hu0⟩ := HR.out.2 t htT
        obtain ⟨hx, i', hsi, hxe⟩ := HKS.out.tab.only _ _ hu hu0
        have hi' : i' < n := by rw [← HKS.out.svl]; exact (List.getElem?_eq_some_iff.1 hsi).1
        have heu := HKS.out.ent i' u hsi
        obtain ⟨hul, hut⟩ := heu.lt (hH i')
        rw [HLN.out] at hu
        have hcell := HSL.out _ _ hu
        have hub : ((u : Int) == 0) = false := by simpa using hu0
        have hnx := HMK.out ((h + t) % M + 1) (by omega)
        rw [Nat.mod_add_mod, Nat.add_assoc] at hnx
        generalize (h + t) % M = ix at *
        have hnx2 : bits BinOp.and IntKind.u64 ((ix : Int) + 1) ((M : Int) - 1) = (((h + (t + 1)) % M : Nat) : Int) := hnx
        have hta := tag_and u hul
        have HU := hide heu
        clear hu hnx hsi hxe heu
        generalize u % 65536 = xt at *
        by_cases hte : xt = tg
        · have htb : ((xt : Int) == (tg : Int)) = true := by simp; omega
          have HKA := hide (HKS.out.mid.keyAt HKS.out.hl rfl HU.out (hH i') (hKU i' hi'))
          go_wp2_with fail
          refine HKA.out.mono ?_
          rintro e X ⟨⟨ak, capk, rfl, hgk⟩, hX⟩
          subst hX
          clear HKA
          go_wp2_with fail
          refine (equal_calls _ _ (KU i') (KU i) _ hgk HG.out).mono ?_
          rintro e X ⟨rfl, hX⟩
          subst hX
          by_cases hke : KU i' = KU i
          · have hkb : (KU i' == KU i) = true := by simpa using hke
            rw [hkb]
            go_wp2_with fail
            go_ret
            exact ⟨rfl, rfl⟩
          · have hkb : (KU i' == KU i) = false := by simpa using hke
            rw [hkb]
            go_wp2_with fail
            go_roundg (gk - 1)
            case rel => exact ⟨t + 1, by omega, rfl, rfl⟩
            case measure => omega
        · have htb : ((xt : Int) == (tg : Int)) = false := by simp; omega
          go_wp2_with fail
          go_roundg (gk - 1)
          case rel => exact ⟨t + 1, by omega, rfl, rfl⟩
          case measure => omega
      · have hteq : t = T := by omega
        subst hteq
        have h0 := HR.out.1
        have hne0 := HE.out.ne
        rw [HLN.out] at h0
        obtain ⟨hul, hut⟩ := HE.out.lt hhI
        have hcell := HSL.out _ _ h0
        have hub : ((vI : Int) == 0) = false := by simpa using hne0
        have hta := tag_and vI hul
        rw [hut, HTG.out] at hta
        have htb : ((tg : Int) == (tg : Int)) = true := by simp
        have HKA := hide (HKS.out.mid.keyAt HKS.out.hl rfl HE.out hhI (hKU i hi))
        clear h0
        generalize (h + t) % M = ix at *
        go_wp2_with fail
        refine HKA.out.mono ?_
        rintro e X ⟨⟨ak, capk, rfl, hgk⟩, hX⟩
        subst hX
        clear HKA
        go_wp2_with fail
        refine (equal_calls _ _ (KU i) (KU i) _ hgk HG.out).mono ?_
        rintro e X ⟨rfl, hX⟩
        subst hX
        go_wp2_with fail
        go_ret
        exact ⟨rfl, rfl⟩
end Go.Proofs.Ybulkckfg
