import Derived.Test.YbulkckfgMid
import Derived.Deep.DeepCutAuto
namespace Go.Proofs.Ybulkckfg
open Go.ChangeShapes Go.WideShapes Go.ChangeAt Go.RowKit

/-! ### the slot's number -/
def slotv (c pos tag : Nat) : Nat := (c + 1) * 68719476736 + pos * 65536 + tag
theorem slotv_lt (c pos tag : Nat) (hc : c < 65536) (hp : pos < 1048576) (ht : tag < 65536) : slotv c pos tag < 18446744073709551616 := by unfold slotv; omega
theorem slotv_c (c pos tag : Nat) (hc : c < 65536) (hp : pos < 1048576) (ht : tag < 65536) : IntKind.u64.wrap ((slotv c pos tag : Int) / 68719476736 - 1) = (c : Int) := by
  rw [IntKind.wrap_u64]; unfold slotv; omega
theorem slotv_pos (c pos tag : Nat) (hc : c < 65536) (hp : pos < 1048576) (ht : tag < 65536) : bits .and .u64 ((slotv c pos tag : Int) / 65536) 1048575 = (pos : Int) := by
  have h1 : ((slotv c pos tag : Int) / 65536) = ((slotv c pos tag / 65536 : Nat) : Int) := by omega
  have h2 : slotv c pos tag / 65536 = (c + 1) * 1048576 + pos := by unfold slotv; omega
  rw [h1, h2]
  have := u64_and_nat ((c + 1) * 1048576 + pos) 1048575 (by omega) (by omega)
  rw [show (1048575 : Int) = ((1048575 : Nat) : Int) from rfl, this]
  have h3 := Nat.and_two_pow_sub_one_eq_mod ((c + 1) * 1048576 + pos) 20
  simp only [show 2 ^ 20 - 1 = 1048575 from rfl, show 2 ^ 20 = 1048576 from rfl] at h3
  rw [h3]
  omega
theorem slotv_enc (c pos tag : Nat) (hc : c < 65536) (hp : pos < 1048576) (ht : tag < 65536) :
    bits .or .u64 (bits .or .u64 (((c + 1) * 68719476736 : Nat) : Int) ((pos * 65536 : Nat) : Int)) (tag : Int) = (slotv c pos tag : Int) := by
  rw [u64_or_nat _ _ (by omega) (by omega), nat_join 36 ((c + 1) * 68719476736) (pos * 65536) (by omega) (by omega)]
  rw [u64_or_nat _ _ (by omega) (by omega), nat_join 16 _ tag (by omega) (by omega)]
  rfl

/-! ### the keys that came in -/
def tot (KL : Nat → List UInt8) : Nat → Nat
  | 0 => 0
  | i + 1 => tot KL i + (KL i).length
theorem tot_mono (KL : Nat → List UInt8) (i j : Nat) (h : i ≤ j) : tot KL i ≤ tot KL j := by
  induction j with
  | zero => have : i = 0 := by omega
            subst this; exact Nat.le_refl _
  | succ j ih =>
    by_cases hij : i = j + 1
    · subst hij; exact Nat.le_refl _
    · have := ih (by omega)
      simp only [tot]; omega
theorem tot_at (KL : Nat → List UInt8) (i n : Nat) (h : i < n) : (KL i).length ≤ tot KL n := by
  have := tot_mono KL (i + 1) n h
  simp only [tot] at this; omega

/-! ### what the slots name -/
def EntryAt (KL : Nat → List UInt8) (tag : Nat) (ls : List (List UInt8)) (n j : Nat) : Prop :=
  ∃ c pos hd rest l, n = slotv c pos tag ∧ c < 65536 ∧ pos < 1048576 ∧ ls[c]? = some l ∧ hd.length = 8 ∧ l.drop pos = hd ++ (uv (KL j).length ++ (KL j ++ rest))

theorem EntryAt.snoc {KL : Nat → List UInt8} {tag : Nat} {ls : List (List UInt8)} {n j : Nat} (h : EntryAt KL tag ls n j) (l' : List UInt8) : EntryAt KL tag (ls ++ [l']) n j := by
  obtain ⟨c, pos, hd, rest, l, h1, h2, h3, h4, h5, h6⟩ := h
  exact ⟨c, pos, hd, rest, l, h1, h2, h3, by rw [List.getElem?_append_left (List.getElem?_eq_some_iff.1 h4).1]; exact h4, h5, h6⟩
theorem EntryAt.grow {KL : Nat → List UInt8} {tag : Nat} {ls : List (List UInt8)} {l0 : List UInt8} {n j : Nat} (h : EntryAt KL tag (ls ++ [l0]) n j) (more : List UInt8) : EntryAt KL tag (ls ++ [l0 ++ more]) n j := by
  obtain ⟨c, pos, hd, rest, l, h1, h2, h3, h4, h5, h6⟩ := h
  by_cases hc : c < ls.length
  · rw [List.getElem?_append_left hc] at h4
    exact ⟨c, pos, hd, rest, l, h1, h2, h3, by rw [List.getElem?_append_left hc]; exact h4, h5, h6⟩
  · have hc2 : c = ls.length := by
      have := (List.getElem?_eq_some_iff.1 h4).1
      simp at this
      omega
    subst hc2
    have hl : l = l0 := by simpa using h4.symm
    subst hl
    have hpos : pos ≤ l.length := by
      have := congrArg List.length h6
      simp [h5] at this
      omega
    refine ⟨ls.length, pos, hd, rest ++ more, l ++ more, h1, h2, h3, by simp, h5, ?_⟩
    rw [List.drop_append_of_le_length hpos, h6]
    simp

structure Ents (KL : Nat → List UInt8) (tag : Nat) (ls : List (List UInt8)) (sls : List Nat) (i : Nat) : Prop where
  len : sls.length = i
  small : ∀ l ∈ ls, l.length ≤ 11 * i + tot KL i
  ent : ∀ j n, sls[j]? = some n → EntryAt KL tag ls n j

theorem Ents.pushNil {KL : Nat → List UInt8} {tag : Nat} {ls : List (List UInt8)} {sls : List Nat} {i : Nat} (h : Ents KL tag ls sls i) : Ents KL tag (ls ++ [[]]) sls i :=
  ⟨h.len, fun l hl => by
    rcases List.mem_append.1 hl with h1 | h1
    · exact h.small l h1
    · rw [List.mem_singleton.1 h1]; simp, fun j n hn => (h.ent j n hn).snoc []⟩

theorem Ents.step {KL : Nat → List UInt8} {tag : Nat} {ls : List (List UInt8)} {l : List UInt8} {sls : List Nat} {i : Nat} (h : Ents KL tag (ls ++ [l]) sls i) (hls : ls.length ≤ i) (hi : i < 1024) (ht : tot KL (i + 1) ≤ 65536) (x : Int) :
    Ents KL tag (ls ++ [((l ++ le8 x) ++ uv (KL i).length) ++ KL i]) (sls ++ [slotv ls.length l.length tag]) (i + 1) := by
  have hT : tot KL (i + 1) = tot KL i + (KL i).length := rfl
  have hu := uv_len (KL i).length (by omega)
  have hl := h.small l (by simp)
  refine ⟨by simp [h.len], fun m hm => ?_, fun j n hn => ?_⟩
  · rcases List.mem_append.1 hm with h1 | h1
    · have := h.small m (by simp [h1])
      omega
    · rw [List.mem_singleton.1 h1]
      simp only [List.length_append, le8_length]
      omega
  · by_cases hj : j < sls.length
    · rw [List.getElem?_append_left hj] at hn
      have := (h.ent j n hn).grow (le8 x ++ (uv (KL i).length ++ KL i))
      simpa using this
    · have hj2 : j = i := by
        have := (List.getElem?_eq_some_iff.1 hn).1
        have hl2 := h.len
        simp at this
        omega
      subst hj2
      have hn2 : n = slotv ls.length l.length tag := by
        rw [List.getElem?_append_right (by have := h.len; omega)] at hn
        have := h.len
        rw [this, Nat.sub_self] at hn
        simpa using hn.symm
      refine ⟨ls.length, l.length, le8 x, [], l ++ (le8 x ++ (uv (KL j).length ++ KL j)), hn2, by omega, by omega, by simp, le8_length x, ?_⟩
      simp

theorem wr_ge (x : Int) : 0 ≤ IntKind.u64.wrap x := by rw [IntKind.wrap_u64]; omega
theorem wr_le (x : Int) : IntKind.u64.wrap x ≤ 18446744073709551615 := by rw [IntKind.wrap_u64]; omega
theorem one_num (S : Nat) : ∀ u ∈ [Value.int .u64 (S : Int)], u.oneCell' = true := by
  intro u hu
  rw [List.mem_singleton.1 hu]
  rfl
theorem one_nil : ∀ u ∈ [Value.slice none 0 0], u.oneCell' = true := by
  intro u hu
  rw [List.mem_singleton.1 hu]
  rfl

/-- the state at the head of the second loop -/
def KeySt (KL : Nat → List UInt8) (tag : Nat) (w W : World) (ls : List (List UInt8)) (vsl : Value) (sls : List Nat) (i : Nat) : Prop :=
  ∃ (vch : Value) (hs : List Value), hs.length = ls.length ∧ Mid w W #[vch, .slice none 0 0, .int .i64 0, .int .i64 0] vch hs vsl sls (crows hs ls) ∧ Ents KL tag ls sls i

/-- the second argument: empty, or its cells -/
def BrOk (w : World) (vb : Value) : Prop :=
  (∃ a c, vb = .slice a 0 c) ∨ ∃ (bb bo M c : Nat) (f : Nat → Bool), vb = .slice (some ⟨bb, bo, none⟩) M c ∧ 0 < M ∧ M ≤ maxLen ∧ ∀ j, j < M → w.cell? ⟨bb, bo + j, none⟩ = some (.bool (f j))

theorem mid_next {w W W3 : World} {blk : Array Value} {vch : Value} {hs : List Value} {vsl : Value} {sls : List Nat} {crs0 : List R} {v v3 : Value} {L : List UInt8} {K : List UInt8} {P : World → Prop}
    (hM : Mid w W blk vch hs vsl sls (crs0 ++ [⟨5, v, bc L⟩])) (hcl : ∀ W' v3 L3, Mid w W' blk vch hs vsl sls (crs0 ++ [⟨5, v3, bc L3⟩]) → P W')
    (hg : W.grownBy W3 v.ownBlock) (ho : OwnR W3 (w.heap.size + 1) 5 v3 (bc L ++ bc K)) (hp : Place W v v3) :
    Mid w W3 blk vch hs vsl sls (crs0 ++ [⟨5, v3, bc (L ++ K)⟩]) ∧ P W3 ∧ ∃ a n c, v3 = .slice a n c := by
  rw [bc_append] at ho
  have h1 := hM.updLast hg ho hp
  obtain ⟨a, c, h2⟩ := ho.form2
  exact ⟨h1, hcl _ _ _ h1, a, _, c, h2⟩

theorem mid_store {w W : World} {blk : Array Value} {g c cap : Nat} {hs0 : List Value} {h : Value} {vsl : Value} {sls : List Nat} {crs : List R}
    (hM : Mid w W blk (.slice (some ⟨g, 0, none⟩) (c + 1) cap) (hs0 ++ [h]) vsl sls crs) (hc : hs0.length = c) (u : Value) :
    Mid w (W.setCell ⟨g, c, none⟩ u) blk (.slice (some ⟨g, 0, none⟩) (c + 1) cap) (hs0 ++ [u]) vsl sls crs := by
  subst hc
  have h9 := hM.storeCh (by simp) hs0.length u
  have e : (hs0 ++ [h]).set hs0.length u = hs0 ++ [u] := by simp
  rw [e] at h9
  exact h9

set_option linter.unusedSimpArgs false in
set_option maxRecDepth 100000 in
set_option maxHeartbeats 4000000 in
theorem key_walk (N kb ko kcap : Nat) (KL : Nat → List UInt8) (ka : Nat → Option Addr) (kc : Nat → Nat) (vb : Value) (hash : Int) (tag : Nat) (w : World) (hN : N ≤ 1024) (htag : tag < 65536)
    (hk : ∀ i, i < N → w.cell? ⟨kb, ko + i, none⟩ = some (.slice (ka i) (KL i).length (kc i)) ∧ Gives w (.slice (ka i) (KL i).length (kc i)) (bc (KL i)))
    (hkl : ∀ i, i < N → (KL i).length ≤ 140737488355328)
    (hbr : BrOk w vb) :
    Calls Yba.prog 3 #[.slice (some ⟨kb, ko, none⟩) N kcap, vb, .int .u64 hash, .int .u16 tag] w fun e w' => e = .returned (.bool true) ∧ Below w.heap.size w w' := by
  have HK := hide hk
  have HL := hide hkl
  clear hk hkl
  have hd1 : decide ((1024 : Int) < (N : Int)) = false := decide_eq_false (by omega)
  go_enter Yba.func3, Yba.ntmps3
  go_wp2
  go_loop [9, 11, 28] (fun t _ c => ∃ i : Nat, i ≤ N ∧ t = .int .i64 (tot KL i) ∧ tot KL i ≤ 65536 ∧ c = .int .i64 i) (fun _ _ c => N - (intOf c).toNat)
  case atStart => exact ⟨0, by omega, rfl, by simp [tot], rfl⟩
  case round =>
    obtain ⟨i, hi, rfl, ht, rfl⟩ := hrel
    by_cases hlt : i < N
    · obtain ⟨hcell, hgiv⟩ := HK.out i hlt
      have hll := HL.out i hlt
      have HT : Hid (tot KL (i + 1) = tot KL i + (KL i).length) := rfl
      clear hgiv
      generalize tot KL i = T at *
      generalize (KL i).length = M at *
      by_cases hbig : T + M ≤ 65536
      · have hd2 : decide ((65536 : Int) < (T : Int) + (M : Int)) = false := decide_eq_false (by omega)
        go_wp2
        go_round
        case rel => exact ⟨i + 1, by omega, by rw [HT.out]; go_num, by rw [HT.out]; exact hbig, by go_num⟩
        case measure => simp [intOf]; omega
      · have hd2 : decide ((65536 : Int) < (T : Int) + (M : Int)) = true := decide_eq_true (by omega)
        go_wp2
        go_ret
        exact ⟨rfl, Below.refl _ _⟩
    · have hiN : N = i := by omega
      subst hiN
      go_wp2_with (at_make; refine wpList_make_R _ rfl _ _ 28 rfl (w.heap.size + 1) 24 8 (.int .u64 0) Yba.underlying28 info24 _ _ _ N rfl rfl rfl (by omega) (by unfold maxLen; omega) (by simp) ?_)
      intro W1 hown hgr
      have hbel : Below w.heap.size w W1 := ((Below.refl w.heap.size w).alloc (Nat.le_refl _) _).grown hgr (by simp) (fun k hk => by cases hk)
      have hblk := (hgr.block w.heap.size (by simp) (by simp)).trans (heap_alloc_new w _)
      have hsz := hgr.size
      simp at hsz
      clear hgr
      have hmid : Mid w W1 #[.slice none 0 0, .slice none 0 0, .int .i64 0, .int .i64 0] (.slice none 0 0) [] (.slice (some ⟨w.heap.size + 1, 0, none⟩) 0 N) [] [] := ⟨hblk, ⟨fun j r hj => by
          match j, hj with
          | 0, hj => cases hj; exact OwnR.nil W1 _ 26
          | 1, hj => cases hj; exact hown
          | k + 2, hj => simp at hj, fun j k a b hjk ha hb => by
          match j, k, ha, hb with
          | 0, _, ha, _ => cases ha; exact .inl rfl
          | 1, 0, ha, hb => cases ha; cases hb; exact .inr (by simp [Value.ownBlock])
          | 1, 1, _, _ => exact absurd rfl hjk
          | 1, k + 2, _, hb => simp at hb
          | j + 2, _, ha, _ => simp at ha⟩, hbel, hsz⟩
      have HS : KeySt KL tag w W1 [] (.slice (some ⟨w.heap.size + 1, 0, none⟩) 0 N) [] 0 := ⟨.slice none 0 0, [], rfl, hmid, ⟨rfl, by simp, by simp⟩⟩
      clear hmid hblk hown hbel hsz
      go_wp2_with fail
      go_loopw [13, 46] (fun vsl c W => ∃ (i : Nat) (ls : List (List UInt8)) (sls : List Nat), i ≤ N ∧ ls.length ≤ i ∧ c = .int .i64 i ∧ KeySt KL tag w W ls vsl sls i) (fun _ c _ => N - (intOf c).toNat)
      case atStart => exact ⟨0, [], [], by omega, by simp, rfl, HS⟩
      case round =>
        clear HS
        obtain ⟨i, ls, sls, hi, hlsi, rfl, vch, hs, hhl, hM, hE⟩ := hrel
        by_cases hlt : i < N
        · obtain ⟨hcell0, hgiv0⟩ := HK.out i hlt
          have hkb := World.block_lt_of_cell? w _ hcell0
          have hcell := (hM.bel.cell (p := ⟨kb, ko + i, none⟩) hkb).trans hcell0
          have hgiv := hgiv0.below hM.bel (Nat.le_refl _)
          have hTT := tot_mono KL (i + 1) N hlt
          obtain ⟨ach, capch, hvch⟩ := hM.ch.form2
          have HH := hide hhl
          clear hhl
          generalize hnh : hs.length = nh at hvch
          have HN := hide hnh
          clear hnh
          subst hvch
          have hch0 := hM.cell 0
          simp at hch0
          go_upto_region 16 with fail
          go_cut [70] (fun c W' => ∃ β : Bool, c = .bool β ∧ (β = true ∨ ¬ nh = 0) ∧ W' = wr)
          case first =>
            by_cases hls : nh = 0
            · have hz : ((nh : Int) == 0) = true := beq_iff_eq.2 (by omega)
              clear hls
              go_wp2_with fail
              go_meet
              case rel => exact ⟨true, rfl, .inl rfl, rfl⟩
            · have hz : ((nh : Int) == 0) = false := beq_eq_false_iff_ne.2 (by omega)
              rcases hbr with ⟨a, c, hvb⟩ | ⟨bb, bo, M, c, f, hvb, hM0, hMm, hf⟩
              · subst hvb
                go_wp2_with fail
                go_meet
                case rel => exact ⟨false, rfl, .inr hls, rfl⟩
              · subst hvb
                unfold maxLen at hMm
                have hq : i % M < M := Nat.mod_lt _ hM0
                have hc0 := hf (i % M) hq
                have hc1 := (hM.bel.cell (p := ⟨bb, bo + i % M, none⟩) (World.block_lt_of_cell? w _ hc0)).trans hc0
                have hi1 : (0 : Int) ≤ (i : Int) % (M : Int) := Int.emod_nonneg _ (by omega)
                have hi2 : (i : Int) % (M : Int) < (M : Int) := Int.emod_lt_of_pos _ (by omega)
                have hgt : (0 : Int) < (M : Int) := by omega
                clear hf hc0
                go_wp2_with fail
                go_meet
                case rel => exact ⟨f (i % M), rfl, .inr hls, rfl⟩
          case rest =>
            obtain ⟨β, rfl, hβ, hwc⟩ := hcut
            subst hwc
            go_upto_if 70 with fail
            go_cut [16] (fun _ W' => ∃ (ls0 : List (List UInt8)) (l : List UInt8) (vch : Value) (hs0 : List Value) (h : Value), Hid (hs0.length = ls0.length) ∧ ls0.length ≤ i ∧ Mid w W' #[vch, .slice none 0 0, .int .i64 0, .int .i64 0] vch (hs0 ++ [h]) u13 sls (crows hs0 ls0 ++ [⟨5, h, bc l⟩]) ∧ Ents KL tag (ls0 ++ [l]) sls i)
            case first =>
              cases β with
              | true =>
                have hbl : wc.heap.size ≥ w.heap.size + 1 := hM.sz
                have HG := gives_lit wc #[.slice none 0 0] 26
                have hb1 : hs.length + [Value.slice none 0 0].length ≤ 2000 := by rw [HH.out]; simp; omega
                go_wp2_with (at_builtin; refine wpList_append_full _ rfl _ _ 22 rfl (w.heap.size + 1) 26 24 (.slice none 0 0) Yba.underlying22 info26 rfl _ hs rfl (by exact (hM.alloc _).ch) _ [.slice none 0 0] rfl (by exact HG) one_nil (by unfold maxLen; omega) (by omega) (by simp; omega) ?_)
                intro v' W2 ho hg _ hp
                have hM2 := (hM.alloc _).updCh hg ho hp
                have hv : ∃ g cap, v' = .slice (some ⟨g, 0, none⟩) (hs ++ [Value.slice none 0 0]).length cap := by
                  rcases ho.form with ⟨_, h2⟩ | ⟨g, cap, h2, _⟩
                  · simp at h2
                  · exact ⟨g, cap, h2⟩
                obtain ⟨g2, cap2, hv⟩ := hv
                rw [hv] at hM2 ⊢
                have hc2 := hM2.cell 0
                have hf2 := hM2.frozen 0
                have hM3 := (hM2.field 0 (.slice (some ⟨g2, 0, none⟩) (hs ++ [Value.slice none 0 0]).length cap2)).pushNil
                simp at hc2
                clear ho hg hp HG hv
                go_wp2_with fail
                go_meet
                case rel => exact ⟨ls, [], _, hs, .slice none 0 0, HH.out, hlsi, by simpa using hM3, hE.pushNil⟩
              | false =>
                have hnl : ¬ ls = [] := fun e => by
                  have h1 := HH.out
                  have h2 := HN.out
                  rw [e] at h1
                  simp at h1 hβ
                  rw [h1] at h2
                  simp at h2
                  omega
                have hnh : ¬ hs = [] := fun e => hnl (List.eq_nil_of_length_eq_zero (by rw [← HH.out, e]; rfl))
                go_wp2_with fail
                go_meet
                case rel =>
                  have e1 := (List.dropLast_concat_getLast hnl).symm
                  have e2 := (List.dropLast_concat_getLast hnh).symm
                  have e3 : hs.dropLast.length = ls.dropLast.length := by rw [List.length_dropLast, List.length_dropLast, HH.out]
                  refine ⟨ls.dropLast, ls.getLast hnl, .slice ach nh capch, hs.dropLast, hs.getLast hnh, e3, by rw [List.length_dropLast]; omega, ?_, by rw [← e1]; exact hE⟩
                  rw [← crows_snoc _ _ _ _ e3, ← e1, ← e2]
                  exact hM
            case rest =>
              clear hM hE hch0 hcell hgiv hβ HH HN hs
              obtain ⟨ls0, l, vch, hs0, h, HH, hls0, hM, hE⟩ := hcut
              have hv : ∃ g cap, vch = .slice (some ⟨g, 0, none⟩) (hs0.length + 1) cap ∧ wc.cell? ⟨g, hs0.length, none⟩ = some h ∧ wc.frozen? ⟨g, hs0.length, none⟩ = false := by
                rcases hM.ch.form with ⟨_, h2⟩ | ⟨g, cap, h2, _, _, _, h3, h4⟩
                · simp at h2
                · refine ⟨g, cap, by rw [h2]; simp, ?_, h3 _⟩
                  rw [h4 _ (by simp)]
                  simp
              obtain ⟨gch, capch, rfl, hcl, hfl⟩ := hv
              have hro : OwnR wc (w.heap.size + 1) 5 h (bc l) := hM.row (j := (crows hs0 ls0).length) (r := ⟨5, h, bc l⟩) (by simp)
              have hv2 : ∃ ah caph, h = .slice ah l.length caph := by
                obtain ⟨a, c, h1⟩ := hro.form2
                exact ⟨a, c, by rw [h1, bc_length]⟩
              obtain ⟨ah, caph, rfl⟩ := hv2
              have hch0 := hM.cell 0
              simp at hch0
              have hcell := (hM.bel.cell (p := ⟨kb, ko + i, none⟩) hkb).trans hcell0
              have hlb := hE.small l (by simp)
              generalize hcc : hs0.length = cc at *
              have HC := hide hcc
              clear hcc
              generalize hll : l.length = nl at *
              have HLL := hide hll
              clear hll
              have hcb : cc ≤ 1024 := by rw [HH.out]; omega
              have hnb : nl ≤ 100000 := by have := tot_mono KL i N (by omega); omega
              go_upto_region 20 with fail
              go_cut [18] (fun v1 W' => ∃ X : Int, Mid w W' #[.slice (some ⟨gch, 0, none⟩) (cc + 1) capch, .slice none 0 0, .int .i64 0, .int .i64 0] (.slice (some ⟨gch, 0, none⟩) (cc + 1) capch) (hs0 ++ [.slice ah nl caph]) u13 sls (crows hs0 ls0 ++ [⟨5, v1, bc (l ++ le8 X)⟩]))
              case first =>
                have hsz := hM.sz
                go_region_with (go_at_call 7; refine (app64 _ l _ _ (w.heap.size + 1) (wr_ge _) (wr_le _) (by exact hro) (by rw [HLL.out]; omega) (by exact hsz)).mono ?_; rintro e W1 ⟨v1, rfl, ho1, hg1, hp1⟩)
                all_goals
                  go_wp2_with fail
                  go_meet
                  case rel => exact ⟨_, (hM.drewN 1).updLast hg1 ho1 hp1⟩
              case rest =>
                clear hM hro hcl hfl hch0 hcell
                obtain ⟨X, hM⟩ := hcut
                have hro : OwnR wc (w.heap.size + 1) 5 u18 (bc (l ++ le8 X)) := hM.row (j := (crows hs0 ls0).length) (r := ⟨5, u18, bc (l ++ le8 X)⟩) (by simp)
                have hKb := tot_at KL i N hlt
                have hsz := hM.sz
                have hlx : (l ++ le8 X).length ≤ 200000 := by rw [List.length_append, HLL.out, le8_length]; omega
                go_wp2_with fail
                refine (appUv u18 (l ++ le8 X) (KL i).length wc (w.heap.size + 1) (by omega) hro (by omega) hsz).mono ?_
                rintro e W2 ⟨v2, rfl, ho2, hg2, hp2⟩
                have hM2 := hM.updLast hg2 ho2 hp2
                clear hM hro hsz ho2 hg2 hp2
                have hro2 : OwnR W2 (w.heap.size + 1) 5 v2 (bc ((l ++ le8 X) ++ uv (KL i).length)) := hM2.row (j := (crows hs0 ls0).length) (r := ⟨5, v2, bc ((l ++ le8 X) ++ uv (KL i).length)⟩) (by simp)
                have hul := uv_len (KL i).length (by omega)
                have hsz := hM2.sz
                have hgiv := hgiv0.below hM2.bel (Nat.le_refl _)
                have hch0 := hM2.cell 0
                simp at hch0
                have hlen2 : (bc ((l ++ le8 X) ++ uv (KL i).length)).length + (bc (KL i)).length ≤ 300000 := by
                  rw [bc_length, bc_length, List.length_append]; omega
                have hcl0 : ∀ W' v3 L3, Mid w W' #[.slice (some ⟨gch, 0, none⟩) (cc + 1) capch, .slice none 0 0, .int .i64 0, .int .i64 0] (.slice (some ⟨gch, 0, none⟩) (cc + 1) capch) (hs0 ++ [.slice ah nl caph]) u13 sls (crows hs0 ls0 ++ [⟨5, v3, bc L3⟩]) → W'.cell? ⟨gch, cc, none⟩ = some (.slice ah nl caph) ∧ W'.frozen? ⟨gch, cc, none⟩ = false ∧ W'.cell? ⟨w.heap.size, 0, none⟩ = some (.slice (some ⟨gch, 0, none⟩) (cc + 1) capch) := by
                  intro W' v3 L3 hm
                  refine ⟨?_, ?_, by have := hm.cell 0; simpa using this⟩
                  · rcases hm.ch.form with ⟨h1, _⟩ | ⟨g, cap, h2, _, _, _, h3, h4⟩
                    · cases h1
                    · simp at h2
                      obtain ⟨rfl, _, _⟩ := h2
                      rw [h4 _ (by simp [HC.out])]
                      simp [← HC.out]
                  · rcases hm.ch.form with ⟨h1, _⟩ | ⟨g, cap, h2, _, _, _, h3, h4⟩
                    · cases h1
                    · simp at h2
                      obtain ⟨rfl, _, _⟩ := h2
                      exact h3 _
                have HCL := hide hcl0
                clear hcl0
                have hib : (cc : Int) < (cc : Int) + 1 := by omega
                go_upto_region 22 with fail
                go_cut [19] (fun _ W' => ∃ v3, Mid w W' #[.slice (some ⟨gch, 0, none⟩) (cc + 1) capch, .slice none 0 0, .int .i64 0, .int .i64 0] (.slice (some ⟨gch, 0, none⟩) (cc + 1) capch) (hs0 ++ [v3]) u13 sls (crows hs0 ls0 ++ [⟨5, v3, bc (((l ++ le8 X) ++ uv (KL i).length) ++ KL i)⟩]))
                case first =>
                  go_region_law ((try simp only [Act.put, List.getElem_toArray, List.getElem_cons_succ, List.getElem_cons_zero, List.setIfInBounds_toArray, List.set_cons_zero, List.set_cons_succ]); refine step_append_full (by rfl) (.tmp 117) (.tmp 118) 26 rfl (w.heap.size + 1) 5 1 (.int .u8 0) Yba.underlying26 info5 rfl v2 (bc ((l ++ le8 X) ++ uv (KL i).length)) (by rfl) (by exact hro2) (.slice (ka i) (KL i).length (kc i)) (bc (KL i)) (by rfl) (by exact hgiv) (bc_one _) (by unfold maxLen; omega) (by omega) (by exact hsz) ?_; intro v3 W3 ho3 hg3 _ hp3; obtain ⟨hM3, ⟨hc3, hf3, hb3⟩, g3, c3, n3, hv3⟩ := mid_next (hM2.drewN 1) HCL.out hg3 ho3 hp3; rw [hv3] at hM3 ⊢)
                  all_goals
                    go_wp2_with fail
                    go_meet
                    case rel => exact ⟨_, mid_store hM3 HC.out _⟩
                case rest =>
                  clear hM2 hro2 hgiv hch0 HCL hsz
                  obtain ⟨v3, hM⟩ := hcut
                  have hsz := hM.sz
                  have hls1 := hls0
                  obtain ⟨S, hS⟩ : ∃ S : Nat, slotv cc nl tag = S := ⟨_, rfl⟩
                  have hse : bits .or .u64 (bits .or .u64 (((cc : Int) + 1) * 68719476736) ((nl : Int) * 65536)) (tag : Int) = (S : Int) := by
                    rw [← hS, ← slotv_enc cc nl tag (by omega) (by omega) htag]
                    rfl
                  have HS := hide hS
                  clear hS
                  have hwt : IntKind.u64.wrap (tag : Int) = (tag : Int) := wrapu tag (by omega)
                  have hnl2 : (nums sls).length + [Value.int .u64 (S : Int)].length ≤ 2000 := by rw [nums_length, hE.len]; simp; omega
                  have HG := gives_lit wc #[.int .u64 (S : Int)] 24
                  go_wp2_with (at_builtin; refine wpList_append_full _ rfl _ _ 28 rfl (w.heap.size + 1) 24 8 (.int .u64 0) Yba.underlying28 info24 rfl u13 (nums sls) rfl (by exact (hM.alloc _).sl) _ [.int .u64 (S : Int)] rfl (by exact HG) (one_num S) (by unfold maxLen; omega) (by omega) (by simp; omega) ?_)
                  intro v4 W4 ho4 hg4 _ hp4
                  have hM4 := (hM.alloc _).updSl hg4 (by rw [← nums_snoc]; exact ho4) hp4
                  have hE4 := hE.step hls0 (by omega) (by omega) X
                  rw [HLL.out, ← HH.out, HS.out] at hE4
                  clear hM ho4 hg4 hp4 HG hse
                  go_wp2_with fail
                  go_roundw
                  case rel =>
                    refine ⟨i + 1, ls0 ++ [((l ++ le8 X) ++ uv (KL i).length) ++ KL i], sls ++ [S], by omega, by simp; omega, by go_num, .slice (some ⟨gch, 0, none⟩) (cc + 1) capch, hs0 ++ [v3], by rw [List.length_append, List.length_append, HC.out, HH.out]; rfl, ?_, hE4⟩
                    rw [crows_snoc _ _ _ _ (by rw [HC.out, HH.out])]
                    exact hM4
                  case measure => simp [intOf]; omega
        · have hiN : N = i := by omega
          subst hiN
          have HH := hide hhl
          have hbel := hM.bel
          by_cases hN0 : N = 0
          · have hn0 : ¬ (0 : Int) < (N : Int) := by omega
            go_wp2_with fail
            go_loop [139] (fun c => c = .int .i64 0) (fun _ => 0)
            case atStart => rfl
            case round =>
              obtain rfl := hrel
              go_wp2_with fail
              go_ret
              exact ⟨rfl, hbel⟩
          · have hslf : ∃ gs caps, u13 = .slice (some ⟨gs, 0, none⟩) N caps ∧ ∀ j, j < N → wr.cell? ⟨gs, j, none⟩ = (nums sls)[j]? := by
              have hnl := nums_length sls
              rw [hE.len] at hnl
              rcases hM.sl.form with ⟨_, h0⟩ | ⟨gs, caps, hv, _, _, _, _, hcs⟩
              · rw [h0] at hnl
                simp at hnl
                omega
              · rw [hnl] at hv hcs
                exact ⟨gs, caps, hv, hcs⟩
            obtain ⟨gs, caps, hvs, hslc⟩ := hslf
            have HSC := hide hslc
            clear hslc
            subst hvs
            go_wp2_with fail
            go_loop [139] (fun c => ∃ j : Nat, j ≤ N ∧ c = .int .i64 j) (fun c => N - (intOf c).toNat)
            case atStart => exact ⟨0, by omega, rfl⟩
            case round =>
              obtain ⟨j, hj, rfl⟩ := hrel
              by_cases hjl : j < N
              · obtain ⟨hkc0, hkg0⟩ := HK.out j hjl
                have hkc := (hM.bel.cell (p := ⟨kb, ko + j, none⟩) (World.block_lt_of_cell? w _ hkc0)).trans hkc0
                have hkg := hkg0.below hM.bel (Nat.le_refl _)
                have hjs : j < sls.length := by rw [hE.len]; exact hjl
                obtain ⟨c, pos, hd, rest, l, hsv, hcb, hpb, hlc, hhd, hdrop⟩ := hE.ent j sls[j] (List.getElem?_eq_getElem hjs)
                obtain ⟨gch, capch, g, cap, hvch, hnc, hcell, hle, hcap, hbytes⟩ := key_open hM HH.out hlc (by intro e; rw [e] at hdrop; have := congrArg List.length hdrop; simp [hhd] at this; omega)
                have hKb := tot_at KL j N hjl
                have hch0 := hM.cell 0
                simp at hch0
                rw [hvch] at hch0
                have hslc : wr.cell? ⟨gs, j, none⟩ = some (.int .u64 (slotv c pos tag : Nat)) := by
                  rw [HSC.out j hjl]
                  simp [nums, hjs, hsv]
                have HKA := hide (keyAt_calls w.heap.size gch hs.length capch g cap c pos l hd (KL j) rest (slotv c pos tag : Nat) wr (by omega) (by have := slotv_lt c pos tag hcb hpb htag; omega) hch0 hnc hcell hle hcap hbytes hhd hdrop (by omega) (slotv_c c pos tag hcb hpb htag) (slotv_pos c pos tag hcb hpb htag))
                generalize slotv c pos tag = S at *
                clear hdrop hbytes hcell hch0 hsv hlc hvch hhd hnc hle hcap hkc0 hkg0 hM hE HSC hhl
                go_wp2_with fail
                refine HKA.out.mono ?_
                rintro e W5 ⟨⟨ak, capk, rfl, hgk⟩, hW5⟩
                subst hW5
                clear HKA
                go_wp2_with fail
                refine (equal_calls _ _ (KL j) (KL j) _ hgk hkg).mono ?_
                rintro e W6 ⟨rfl, hW6⟩
                subst hW6
                go_wp2_with fail
                go_round
                case rel => exact ⟨j + 1, by omega, by go_num⟩
                case measure => simp [intOf]; omega
              · go_wp2_with fail
                go_ret
                exact ⟨rfl, hbel⟩
end Go.Proofs.Ybulkckfg
