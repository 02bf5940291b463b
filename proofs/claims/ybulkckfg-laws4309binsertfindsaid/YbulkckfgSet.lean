import Derived.Test.YbulkckfgU64
namespace Go.Proofs.Ybulkckfg
open Go.ChangeShapes Go.WideShapes Go.ChangeAt Go.RowKit

/-- slot v names an entry: hash h, key K -/
def Ent (ls : List (List UInt8)) (v h : Nat) (K : List UInt8) : Prop :=
  ∃ (c pos : Nat) (rest l : List UInt8), v = slotv c pos (h / 281474976710656) ∧ c < 65536 ∧ pos < 1048576 ∧ ls[c]? = some l ∧ l.drop pos = le8 h ++ (uv K.length ++ (K ++ rest))

theorem slotv_pos0 (c pos tag : Nat) : slotv c pos tag ≠ 0 := by unfold slotv; omega
theorem slotv_inj {c pos tag c' pos' tag' : Nat} (hp : pos < 1048576) (ht : tag < 65536) (hp' : pos' < 1048576) (ht' : tag' < 65536) (h : slotv c pos tag = slotv c' pos' tag') : c = c' ∧ pos = pos' ∧ tag = tag' := by
  unfold slotv at h; omega

theorem Ent.ne {ls : List (List UInt8)} {v h : Nat} {K : List UInt8} (he : Ent ls v h K) : v ≠ 0 := by
  obtain ⟨c, pos, _, _, rfl, _⟩ := he
  exact slotv_pos0 _ _ _

theorem byteOf_inj {x y : Int} (h : byteOf x = byteOf y) : x % 256 = y % 256 := by
  rw [← byteOf_val x, ← byteOf_val y, h]
theorem le8_inj (h h' : Nat) (hh : h < 18446744073709551616) (hh' : h' < 18446744073709551616) (e : le8 h = le8 h') : h = h' := by
  simp only [le8, List.cons.injEq, and_true] at e
  obtain ⟨e0, e1, e2, e3, e4, e5, e6, e7⟩ := e
  have := byteOf_inj e0
  have := byteOf_inj e1
  have := byteOf_inj e2
  have := byteOf_inj e3
  have := byteOf_inj e4
  have := byteOf_inj e5
  have := byteOf_inj e6
  have := byteOf_inj e7
  omega

/-- an entry's hash is one -/
theorem Ent.one {ls : List (List UInt8)} {v h h' : Nat} {K K' : List UInt8} (he : Ent ls v h K) (he' : Ent ls v h' K') (hh : h < 18446744073709551616) (hh' : h' < 18446744073709551616) : h = h' := by
  obtain ⟨c, pos, rest, l, hv, hc, hp, hl, hd⟩ := he
  obtain ⟨c', pos', rest', l', hv', hc', hp', hl', hd'⟩ := he'
  obtain ⟨rfl, rfl, _⟩ := slotv_inj hp (by omega) hp' (by omega) (hv.symm.trans hv')
  rw [hl] at hl'
  cases hl'
  rw [hd] at hd'
  exact le8_inj h h' hh hh' (List.append_inj_left hd' (by rw [le8_length, le8_length]))

/-- a chunk more, a chunk grown -/
theorem Ent.snoc {ls : List (List UInt8)} {v h : Nat} {K : List UInt8} (he : Ent ls v h K) (l' : List UInt8) : Ent (ls ++ [l']) v h K := by
  obtain ⟨c, pos, rest, l, hv, hc, hp, hl, hd⟩ := he
  exact ⟨c, pos, rest, l, hv, hc, hp, by rw [List.getElem?_append_left (List.getElem?_eq_some_iff.1 hl).1]; exact hl, hd⟩
theorem Ent.grow {ls : List (List UInt8)} {l0 : List UInt8} {v h : Nat} {K : List UInt8} (he : Ent (ls ++ [l0]) v h K) (more : List UInt8) : Ent (ls ++ [l0 ++ more]) v h K := by
  obtain ⟨c, pos, rest, l, hv, hc, hp, hl, hd⟩ := he
  by_cases hlt : c < ls.length
  · rw [List.getElem?_append_left hlt] at hl
    exact ⟨c, pos, rest, l, hv, hc, hp, by rw [List.getElem?_append_left hlt]; exact hl, hd⟩
  · have hce : c = ls.length := by have := (List.getElem?_eq_some_iff.1 hl).1; simp at this; omega
    subst hce
    simp at hl
    subst hl
    refine ⟨ls.length, pos, rest ++ more, l0 ++ more, hv, hc, hp, by simp, ?_⟩
    have hlen := congrArg List.length hd
    have hup := uv_pos K.length
    simp only [List.length_drop, List.length_append, le8_length] at hlen
    rw [List.drop_append_of_le_length (by omega), hd]
    simp only [List.append_assoc]

section
variable {w W : World} {blk : Array Value} {vch : Value} {hs : List Value} {vsl : Value} {sls : List Nat} {ls : List (List UInt8)}

theorem Mid.keyAt (hM : Mid w W blk vch hs vsl sls (crows hs ls)) (hl : hs.length = ls.length) (hb0 : blk[0]? = some vch) {v h : Nat} {K : List UInt8} (he : Ent ls v h K) (hh : h < 18446744073709551616) (hK : K.length ≤ 1000000) :
    Calls Yba.prog 9 #[.pointer (some ⟨w.heap.size, 0, none⟩), .int .u64 (v : Int)] W fun e w' => (∃ a cap', e = .returned (.slice a K.length cap') ∧ Gives W (.slice a K.length cap') (bc K)) ∧ w' = W := by
  obtain ⟨c, pos, rest, l, rfl, hc, hp, hlc, hd⟩ := he
  have htag : h / 281474976710656 < 65536 := by omega
  obtain ⟨gch, capch, g, cap, hvch, hnc, hcell, hle, hcap, hbytes⟩ := key_open hM hl hlc (by
    intro e
    rw [e] at hd
    have := congrArg List.length hd
    simp [le8_length] at this
    omega)
  have hch0 := hM.cell 0
  rw [hb0, hvch] at hch0
  exact keyAt_calls w.heap.size gch hs.length capch g cap c pos l (le8 h) K rest _ W (by omega) (by have := slotv_lt c pos _ hc hp htag; omega) hch0 hnc hcell hle hcap hbytes (le8_length _) hd hK (slotv_c c pos _ hc hp htag) (slotv_pos c pos _ hc hp htag)

theorem Mid.entry (hM : Mid w W blk vch hs vsl sls (crows hs ls)) (hl : hs.length = ls.length) (hb0 : blk[0]? = some vch) {v h : Nat} {K : List UInt8} (he : Ent ls v h K) (hh : h < 18446744073709551616) :
    ∃ g o n cap, 8 ≤ n ∧ (∀ j, j < 8 → W.cell? ⟨g, o + j, none⟩ = (bc (le8 h))[j]?) ∧ Calls Yba.prog 16 #[.pointer (some ⟨w.heap.size, 0, none⟩), .int .u64 (v : Int)] W fun e w' => e = .returned (.slice (some ⟨g, o, none⟩) n cap) ∧ w' = W := by
  obtain ⟨c, pos, rest, l, rfl, hc, hp, hlc, hd⟩ := he
  have htag : h / 281474976710656 < 65536 := by omega
  have hlen := congrArg List.length hd
  have hup := uv_pos K.length
  simp only [List.length_drop, List.length_append, le8_length] at hlen
  obtain ⟨gch, capch, g, cap, hvch, hnc, hcell, hle, hcap, hbytes⟩ := key_open hM hl hlc (by
    intro e
    rw [e] at hlen
    simp at hlen
    omega)
  have hch0 := hM.cell 0
  rw [hb0, hvch] at hch0
  refine ⟨g, pos, l.length - pos, cap - pos, by omega, fun j hj => ?_, entry_calls w.heap.size gch hs.length capch g l.length cap c pos _ W (by omega) (by have := slotv_lt c pos _ hc hp htag; omega) hch0 hnc hcell (by omega) hle (slotv_c c pos _ hc hp htag) (slotv_pos c pos _ hc hp htag)⟩
  have hj2 : pos + j < l.length := by omega
  rw [hbytes _ hj2, bc_at (le8 h) j (by rw [le8_length]; exact hj)]
  have h2 : (l.drop pos)[j]? = some (le8 h)[j] := by
    rw [hd, List.getElem?_append_left (by rw [le8_length]; exact hj), List.getElem?_eq_getElem (by rw [le8_length]; exact hj)]
    rfl
  rw [List.getElem?_drop, List.getElem?_eq_getElem hj2] at h2
  rw [Option.some.inj h2]
  rfl
end
end Go.Proofs.Ybulkckfg
