/-
  The law's own states: the distinct keys, their hashes, the key set while it is filled. Calls of makeRoom and insert in that state.
-/
import Derived.Test.YbulkckfgRoom
namespace Go.Proofs.Ybulkckfg
open Go.ChangeShapes Go.WideShapes Go.ChangeAt Go.RowKit

/-- a key more -/
def upd (KU : Nat → List UInt8) (m : Nat) (K : List UInt8) : Nat → List UInt8 := fun j => if j = m then K else KU j
theorem upd_lt (KU : Nat → List UInt8) (m : Nat) (K : List UInt8) (j : Nat) (h : j < m) : upd KU m K j = KU j := by unfold upd; rw [if_neg (by omega)]
theorem upd_self (KU : Nat → List UInt8) (m : Nat) (K : List UInt8) : upd KU m K m = K := by unfold upd; rw [if_pos rfl]
theorem tot_congr (KU KV : Nat → List UInt8) : ∀ m, (∀ j, j < m → KU j = KV j) → tot KU m = tot KV m
  | 0, _ => rfl
  | m + 1, h => by
    simp only [tot]
    rw [tot_congr KU KV m (fun j hj => h j (by omega)), h m (by omega)]
theorem tot_upd (KU : Nat → List UInt8) (m : Nat) (K : List UInt8) : tot (upd KU m K) (m + 1) = tot KU m + K.length := by
  simp only [tot, upd_self]
  rw [tot_congr _ _ m (fun j hj => upd_lt KU m K j hj)]

/-- the distinct keys in mid-walk -/
structure Uniq (w W : World) (vu : Value) (hdrs : List Value) (KU : Nat → List UInt8) (B : Nat) : Prop where
  bel : Below w.heap.size w W
  own : OwnR W w.heap.size 26 vu hdrs
  hd : ∀ (j : Nat) (hv : Value), hdrs[j]? = some hv → Gives w hv (bc (KU j))
  tot : tot KU hdrs.length ≤ B

theorem Uniq.mono {w W : World} {vu : Value} {hdrs : List Value} {KU : Nat → List UInt8} {B B' : Nat} (h : Uniq w W vu hdrs KU B) (hB : B ≤ B') : Uniq w W vu hdrs KU B' := ⟨h.bel, h.own, h.hd, Nat.le_trans h.tot hB⟩

theorem Uniq.snoc {w W W2 : World} {vu v' hv : Value} {hdrs : List Value} {KU : Nat → List UInt8} {B : Nat} {o : Obj} {K : List UInt8} (h : Uniq w W vu hdrs KU B) (hg : (W.alloc o).grownBy W2 vu.ownBlock) (ho : OwnR W2 w.heap.size 26 v' (hdrs ++ [hv])) (hk : Gives w hv (bc K)) :
    Uniq w W2 v' (hdrs ++ [hv]) (upd KU hdrs.length K) (B + K.length) := by
  refine ⟨(h.bel.alloc h.bel.size o).grown hg (by have := h.bel.size; simp; omega) (fun k hk => (h.own.lt k hk).1), ho, fun j u hu => ?_, ?_⟩
  · by_cases hj : j < hdrs.length
    · rw [List.getElem?_append_left hj] at hu
      rw [upd_lt _ _ _ _ hj]
      exact h.hd j u hu
    · have hj2 : j = hdrs.length := by
        have := (List.getElem?_eq_some_iff.1 hu).1
        simp at this
        omega
      subst hj2
      simp at hu
      subst hu
      rw [upd_self]
      exact hk
  · have := h.tot
    rw [List.length_append, List.length_singleton, tot_upd]
    omega

/-- the keys and the hashes, ahead of the key set -/
structure Base (w W : World) (vu vh : Value) (hdrs : List Value) (hn : List Nat) (KU : Nat → List UInt8) : Prop where
  bel : Below w.heap.size w W
  own : Own W w.heap.size [⟨26, vu, hdrs⟩, ⟨24, vh, nums hn⟩]
  hd : ∀ (j : Nat) (hv : Value), hdrs[j]? = some hv → Gives w hv (bc (KU j))
  len : hn.length = hdrs.length
  hlt : ∀ (j x : Nat), hn[j]? = some x → x < 18446744073709551616
  tot : tot KU hdrs.length ≤ 65536

theorem Base.start {w W W1 : World} {vu : Value} {hdrs : List Value} {KU : Nat → List UInt8} (h : Uniq w W vu hdrs KU 65536) (hg : W.grownBy W1 none) (ho : OwnR W1 w.heap.size 24 (.slice (some ⟨W.heap.size, 0, none⟩) hdrs.length hdrs.length) (List.replicate hdrs.length (.int .u64 0))) :
    Base w W1 vu (.slice (some ⟨W.heap.size, 0, none⟩) hdrs.length hdrs.length) hdrs (List.replicate hdrs.length 0) KU := by
  refine ⟨h.bel.grown hg h.bel.size (fun k hk => by cases hk), ?_, h.hd, by simp, fun j x hx => ?_, h.tot⟩
  · have h1 : Own W w.heap.size [⟨26, vu, hdrs⟩] := ⟨fun i r hi => by
      match i, hi with
      | 0, hi => cases hi; exact h.own
      | k + 1, hi => simp at hi, fun i j a b hij ha hb => by
      match i, j, ha, hb with
      | 0, 0, _, _ => exact absurd rfl hij
      | 0, k + 1, _, hb => simp at hb
      | k + 1, _, ha, _ => simp at ha⟩
    have h2 := (h1.grown hg).push ⟨24, .slice (some ⟨W.heap.size, 0, none⟩) hdrs.length hdrs.length, nums (List.replicate hdrs.length 0)⟩ (by rw [← nums_zero]; exact ho) (fun i a ha => .inr fun e => by
      have := ((h1.own i a ha).lt W.heap.size e.symm).2
      omega)
    exact h2
  · have := (List.getElem?_eq_some_iff.1 hx).2
    simp at this
    omega

theorem nums_set (l : List Nat) (j x : Nat) : (nums l).set j (.int .u64 (x : Int)) = nums (l.set j x) := by simp [nums, List.map_set]

theorem Base.store {w W : World} {vu : Value} {g m cap : Nat} {hdrs : List Value} {hn : List Nat} {KU : Nat → List UInt8} (h : Base w W vu (.slice (some ⟨g, 0, none⟩) m cap) hdrs hn KU) (hm : hdrs.length = m) (j x : Nat) (hx : x < 18446744073709551616) :
    Base w (W.setCell ⟨g, j, none⟩ (.int .u64 (x : Int))) vu (.slice (some ⟨g, 0, none⟩) m cap) hdrs (hn.set j x) KU := by
  obtain ⟨h1, h2⟩ := h.own.store (i := 1) (e := 24) (g := g) (n := m) (cap := cap) (xs := nums hn) rfl (by rw [nums_length, h.len, hm]) j (.int .u64 (x : Int))
  rw [nums_set] at h1
  refine ⟨h.bel.grown h2 h.bel.size (fun k hk => by cases hk; exact ((h.own.own 1 _ rfl).lt g rfl).1), h1, h.hd, by simp [h.len], fun q y hy => ?_, h.tot⟩
  rw [List.getElem?_set] at hy
  by_cases hq : j = q
  · rw [if_pos hq] at hy
    split at hy
    · cases hy; exact hx
    · cases hy
  · rw [if_neg hq] at hy
    exact h.hlt q y hy

/-- the keys and the hashes as they lie from then on -/
structure Laid (w1 : World) (vu vh : Value) (hdrs : List Value) (hn : List Nat) (KU : Nat → List UInt8) : Prop where
  gu : Gives w1 vu hdrs
  gh : Gives w1 vh (nums hn)
  hd : ∀ (j : Nat) (hv : Value), hdrs[j]? = some hv → Gives w1 hv (bc (KU j))
  len : hn.length = hdrs.length
  hlt : ∀ (j : Nat), hn.getD j 0 < 18446744073709551616
  tot : Ybulkckfg.tot KU hdrs.length ≤ 65536

theorem Base.laid {w W : World} {vu vh : Value} {hdrs : List Value} {hn : List Nat} {KU : Nat → List UInt8} (h : Base w W vu vh hdrs hn KU) : Laid W vu vh hdrs hn KU :=
  ⟨.of_owns (h.own.own 0 _ rfl), .of_owns (h.own.own 1 _ rfl), fun j hv hj => (h.hd j hv hj).below h.bel (Nat.le_refl _), h.len, fun j => by
    rw [List.getD_eq_getElem?_getD]
    cases hx : hn[j]? with
    | none => simp
    | some x => exact h.hlt j x hx, h.tot⟩

theorem Gives.addr {w : World} {v : Value} {news : List Value} (h : Gives w v news) (i : Nat) (hi : i < news.length) : ∃ g o cap, v = .slice (some ⟨g, o, none⟩) news.length cap ∧ ∀ (j : Nat) (u : Value), news[j]? = some u → w.cell? ⟨g, o + j, none⟩ = some u := by
  obtain ⟨au, cap, hv, _, hc⟩ := h
  obtain ⟨u0, hu0⟩ : ∃ u, news[0]? = some u := ⟨_, List.getElem?_eq_getElem (by omega)⟩
  obtain ⟨⟨g, o, sp⟩, rfl, hc0⟩ := hc 0 u0 hu0
  have hsp : sp = none := by simpa [Addr.add] using World.cell?_spot hc0
  subst hsp
  refine ⟨g, o, cap, hv, fun j u hu => ?_⟩
  obtain ⟨ad, had, hcell⟩ := hc j u hu
  cases had
  rwa [addr_add] at hcell

/-- a key's header, to be read in a later world -/
theorem Laid.key {w1 W : World} {vu vh : Value} {hdrs : List Value} {hn : List Nat} {KU : Nat → List UInt8} (h : Laid w1 vu vh hdrs hn KU) (hb : Below w1.heap.size w1 W) (i : Nat) (hi : i < hdrs.length) :
    ∃ g o cap a c, vu = .slice (some ⟨g, o, none⟩) hdrs.length cap ∧ W.cell? ⟨g, o + i, none⟩ = some (.slice a (KU i).length c) ∧ ∀ W', Below w1.heap.size w1 W' → Gives W' (.slice a (KU i).length c) (bc (KU i)) := by
  obtain ⟨hv, hhv⟩ : ∃ hv, hdrs[i]? = some hv := ⟨_, List.getElem?_eq_getElem hi⟩
  obtain ⟨g, o, cap, hvu, hc⟩ := h.gu.addr i hi
  have hcell := hc i hv hhv
  have hg := h.hd i hv hhv
  have hg2 := hg
  obtain ⟨a, c, hav, _⟩ := hg
  rw [bc_length] at hav
  subst hav
  exact ⟨g, o, cap, a, c, hvu, (hb.cell (World.block_lt_of_cell? w1 _ hcell)).trans hcell, fun W' hW => hg2.below hW (Nat.le_refl _)⟩

/-- a hash, likewise -/
theorem Laid.hash {w1 W : World} {vu : Value} {gh m ch : Nat} {hdrs : List Value} {hn : List Nat} {KU : Nat → List UInt8} (h : Laid w1 vu (.slice (some ⟨gh, 0, none⟩) m ch) hdrs hn KU) (hb : Below w1.heap.size w1 W) (i : Nat) (hi : i < hdrs.length) :
    W.cell? ⟨gh, i, none⟩ = some (.int .u64 ((hn.getD i 0 : Nat) : Int)) := by
  have hi2 : i < hn.length := by rw [h.len]; exact hi
  obtain ⟨g, o, cap, hv, hc⟩ := h.gh.addr i (by rw [nums_length]; exact hi2)
  simp only [Value.slice.injEq, Option.some.injEq, Addr.mk.injEq] at hv
  obtain ⟨⟨rfl, rfl, _⟩, _, _⟩ := hv
  have hcell := hc i _ (nums_at hn i _ (List.getElem?_eq_getElem hi2))
  rw [Nat.zero_add] at hcell
  rw [(hb.cell (World.block_lt_of_cell? w1 _ hcell)).trans hcell, List.getD_eq_getElem?_getD, List.getElem?_eq_getElem hi2]
  rfl

/-- the same while the hashes are laid -/
theorem Base.at {w W : World} {vu : Value} {gh m ch : Nat} {hdrs : List Value} {hn : List Nat} {KU : Nat → List UInt8} (h : Base w W vu (.slice (some ⟨gh, 0, none⟩) m ch) hdrs hn KU) (i : Nat) (hi : i < hdrs.length) :
    ∃ g o cap a c x, vu = .slice (some ⟨g, o, none⟩) hdrs.length cap ∧ W.cell? ⟨g, o + i, none⟩ = some (.slice a (KU i).length c) ∧ W.cell? ⟨gh, i, none⟩ = some (.int .u64 x) ∧ W.frozen? ⟨gh, i, none⟩ = false := by
  obtain ⟨g, o, cap, a, c, h1, h2, _⟩ := h.laid.key (Below.refl _ _) i hi
  have hr := h.own.own 1 _ rfl
  refine ⟨g, o, cap, a, c, _, h1, h2, h.laid.hash (Below.refl _ _) i hi, ?_⟩
  rcases hr.form with ⟨h0, _⟩ | ⟨g', cap', hv, _, _, _, hf, _⟩
  · cases h0
  · simp only [Value.slice.injEq, Option.some.injEq, Addr.mk.injEq] at hv
    obtain ⟨⟨rfl, _⟩, _⟩ := hv
    exact hf i

theorem Base.storeZ {w W : World} {vu : Value} {g m cap : Nat} {hdrs : List Value} {hn : List Nat} {KU : Nat → List UInt8} (h : Base w W vu (.slice (some ⟨g, 0, none⟩) m cap) hdrs hn KU) (hm : hdrs.length = m) (j : Nat) (z : Int) (h1 : 0 ≤ z) (h2 : z ≤ 18446744073709551615) :
    Base w (W.setCell ⟨g, j, none⟩ (.int .u64 z)) vu (.slice (some ⟨g, 0, none⟩) m cap) hdrs (hn.set j z.toNat) KU := by
  have := h.store hm j z.toNat (by omega)
  rwa [show ((z.toNat : Nat) : Int) = z from by omega] at this

/-- no chunk is longer than what was laid -/
def Small (KU : Nat → List UInt8) (n : Nat) (ls : List (List UInt8)) : Prop := ∀ l ∈ ls, l.length ≤ 11 * n + tot KU n

theorem small_room {KU : Nat → List UInt8} {n : Nat} {ls ls' : List (List UInt8)} (h : Small KU n ls) (hor : ls' = ls ∨ ls' = ls ++ [[]]) : Small KU n ls' := by
  rcases hor with rfl | rfl
  · exact h
  · intro l hl
    rcases List.mem_append.1 hl with h1 | h1
    · exact h l h1
    · rw [List.mem_singleton.1 h1]; simp

theorem small_ins {KU : Nat → List UInt8} {n : Nat} {ls : List (List UInt8)} {l : List UInt8} (h : Small KU n (ls ++ [l])) (hK : (KU n).length ≤ 100000) (x : Int) : Small KU (n + 1) (ls ++ [((l ++ le8 x) ++ uv (KU n).length) ++ KU n]) := by
  have hT : tot KU (n + 1) = tot KU n + (KU n).length := rfl
  have hu := uv_len (KU n).length (by omega)
  have hl := h l (by simp)
  intro m hm
  rcases List.mem_append.1 hm with h1 | h1
  · have := h m (by simp [h1])
    omega
  · rw [List.mem_singleton.1 h1]
    simp only [List.length_append, le8_length]
    omega

theorem slots2_small (n M : Nat) (hn : n < 512) (hM : M ≤ 1024) (h : M = 0 ∨ ∃ m, M = 2 ^ m) : slots2 n M ≤ 1024 := by
  unfold slots2
  split
  · rcases h with h0 | ⟨m, h1⟩
    · omega
    · by_cases hm : m ≤ 9
      · have : 2 ^ m ≤ 2 ^ 9 := Nat.pow_le_pow_right (by decide) hm
        simp only [show 2 ^ 9 = 512 from rfl] at this
        omega
      · have : 2 ^ 10 ≤ 2 ^ m := Nat.pow_le_pow_right (by decide) (by omega)
        simp only [show 2 ^ 10 = 1024 from rfl] at this
        omega
  · exact hM

/-- the key set with its first n keys -/
def KSt (w1 W : World) (n : Nat) (H : Nat → Nat) (KU : Nat → List UInt8) : Prop :=
  ∃ vch vsl bys hs ls sls sv, bys ≤ n * 2000000 ∧ ls.length ≤ n ∧ sls.length ≤ 1024 ∧ Small KU n ls ∧ KS w1 W vch vsl n bys hs ls sls sv H KU

/-- the same with room for one more -/
def KRoom (w1 W : World) (n : Nat) (H : Nat → Nat) (KU : Nat → List UInt8) : Prop :=
  ∃ vch vsl bys hs ls sls sv, bys ≤ (n + 1) * 2000000 ∧ ls.length ≤ n + 1 ∧ sls.length ≤ 1024 ∧ Small KU n ls ∧ ls ≠ [] ∧ 2 * (n + 1) ≤ sls.length ∧ KS w1 W vch vsl n bys hs ls sls sv H KU

theorem KSt.bel {w1 W : World} {n : Nat} {H : Nat → Nat} {KU : Nat → List UInt8} (h : KSt w1 W n H KU) : Below w1.heap.size w1 W := by
  obtain ⟨_, _, _, _, _, _, _, _, _, _, _, hk⟩ := h
  exact hk.mid.bel
theorem KRoom.bel {w1 W : World} {n : Nat} {H : Nat → Nat} {KU : Nat → List UInt8} (h : KRoom w1 W n H KU) : Below w1.heap.size w1 W := by
  obtain ⟨_, _, _, _, _, _, _, _, _, _, _, _, _, hk⟩ := h
  exact hk.mid.bel

theorem KSt.start (w1 : World) (H : Nat → Nat) (KU : Nat → List UInt8) : KSt w1 (w1.alloc (.cells #[.slice none 0 0, .slice none 0 0, .int .i64 0, .int .i64 0] 30)) 0 H KU := by
  refine ⟨.slice none 0 0, .slice none 0 0, 0, [], [], [], [], by simp, by simp, by simp, (fun l hl => by cases hl), ⟨⟨heap_alloc_new w1 _, ⟨fun j r hj => ?_, fun j k a b hjk ha hb => ?_⟩, (Below.refl _ _).alloc (Nat.le_refl _) _, by simp⟩, rfl, rfl, (fun i v h => by simp at h), ⟨(fun v h ⟨i, hi, _⟩ => by simp at hi), (fun q v hq _ => by simp at hq), rfl⟩, .inl ⟨rfl, rfl⟩⟩⟩
  · match j, hj with
    | 0, hj => cases hj; exact OwnR.nil _ _ 26
    | 1, hj => cases hj; exact OwnR.nil _ _ 24
    | k + 2, hj => simp [crows] at hj
  · match j, ha with
    | 0, ha => cases ha; exact .inl rfl
    | 1, ha => cases ha; exact .inl rfl
    | k + 2, ha => simp [crows] at ha

theorem KSt.room {w1 W : World} {n : Nat} {H : Nat → Nat} {KU : Nat → List UInt8} (h : KSt w1 W n H KU) (hn : n < 512) (hH : ∀ i, H i < 18446744073709551616) (kl : Nat) (hkl : kl ≤ 100000) :
    Calls Yba.prog 12 #[.pointer (some ⟨w1.heap.size, 0, none⟩), .int .i64 kl, .int .i64 1099511627776] W fun e w' => e = .returned (.bool true) ∧ KRoom w1 w' n H KU := by
  obtain ⟨vch, vsl, bys, hs, ls, sls, sv, hb, hl, hs2, hsm, hk⟩ := h
  have hsl := slots2_small n sls.length hn hs2 (by
    rcases hk.pow with ⟨h0, _⟩ | ⟨m, h1, _⟩
    · exact .inl (by rw [h0]; rfl)
    · exact .inr ⟨m, h1⟩)
  obtain ⟨_, _, _, hge⟩ := slots2_pow n sls.length (by omega) (by
    rcases hk.pow with ⟨h0, h1⟩ | h
    · exact .inl ⟨by rw [h0]; rfl, h1⟩
    · exact .inr h)
  refine (room_calls hk (by omega) hH kl hkl hb (by omega) (by omega)).mono ?_
  rintro e w' ⟨he, vch', vsl', bys', hs', ls', sls', h1, h2, h3, h4, h5⟩
  refine ⟨he, vch', vsl', bys', hs', ls', sls', sv, by omega, ?_, by omega, small_room hsm h4, h3, by omega, h5⟩
  rcases h4 with rfl | rfl
  · omega
  · simp; omega

theorem KRoom.insert {w1 W : World} {n : Nat} {H : Nat → Nat} {KU : Nat → List UInt8} (h : KRoom w1 W n H KU) (hn : n < 512) (hH : ∀ i, H i < 18446744073709551616) (hT : tot KU (n + 1) ≤ 65536) (vk : Value) (hg : ∀ W', Below w1.heap.size w1 W' → Gives W' vk (bc (KU n))) :
    Calls Yba.prog 13 #[.pointer (some ⟨w1.heap.size, 0, none⟩), vk, .int .u64 (H n : Nat)] W fun e w' => e = .returned (.tuple #[]) ∧ KSt w1 w' (n + 1) H KU := by
  obtain ⟨vch, vsl, bys, hs, ls, sls, sv, hb, hl, hs2, hsm, hne, hro, hk⟩ := h
  have hT2 : tot KU (n + 1) = tot KU n + (KU n).length := rfl
  have hh := hk.hl
  obtain ⟨hs0, hd, rfl⟩ : ∃ l0 x, hs = l0 ++ [x] := by
    have hne : hs ≠ [] := by intro e; subst e; exact hne (List.eq_nil_of_length_eq_zero hh.symm)
    exact ⟨hs.dropLast, hs.getLast hne, (List.dropLast_concat_getLast hne).symm⟩
  obtain ⟨ls0, l, rfl⟩ : ∃ l0 x, ls = l0 ++ [x] := ⟨ls.dropLast, ls.getLast hne, (List.dropLast_concat_getLast hne).symm⟩
  have hl2 : ls0.length + 1 ≤ n + 1 := by simpa using hl
  have hll := hsm l (by simp)
  refine (insert_calls hk hro (by omega) (by omega) (by omega) (hH n) (by omega) vk hg).mono ?_
  rintro e w' ⟨he, v3, sls', sv', h1, h2⟩
  exact ⟨he, vch, vsl, bys, _, _, sls', sv', hb, by simp; omega, by omega, small_ins hsm (by omega) _, h2⟩
end Go.Proofs.Ybulkckfg
