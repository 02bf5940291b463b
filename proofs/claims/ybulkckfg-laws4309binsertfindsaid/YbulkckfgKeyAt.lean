import Derived.Test.YbulkckfgBytes
namespace Go.Proofs.Ybulkckfg
open Go.ChangeShapes Go.WideShapes Go.ChangeAt Go.RowKit

theorem or_join (k p x c : Nat) (hp : p = 2 ^ k) (hx : x < p) (hs : x < 18446744073709551616) (h : c * p < 18446744073709551616) : bits .or .u64 (x : Int) ((c * p : Nat) : Int) = ((x + c * p : Nat) : Int) := by
  rw [u64_or_nat x (c * p) hs h, Nat.or_comm, nat_join k (c * p) x (by rw [hp]; simp) (by rw [← hp]; exact hx)]
  omega

theorem and127 : ∀ k : Fin 128, bits .and .u8 ((k.val : Int) + 128) 127 = (k.val : Int) := by decide +kernel
theorem and127_at (c : Nat) : bits .and .u8 ((c : Int) % 128 + 128) 127 = ((c % 128 : Nat) : Int) := by
  have := and127 ⟨c % 128, Nat.mod_lt _ (by decide)⟩
  simp only at this
  rw [show ((c : Int) % 128) = ((c % 128 : Nat) : Int) from by omega, this]

theorem wrapu (n : Nat) (h : n < 18446744073709551616) : IntKind.u64.wrap (n : Int) = (n : Int) := by
  rw [IntKind.wrap_u64]; omega

theorem ret_uv {a b c d : Int} (h1 : a = c) (h2 : b = d) : Ending.returned (.tuple #[.int .u64 a, .int .i64 b]) = .returned (.tuple #[.int .u64 c, .int .i64 d]) := by rw [h1, h2]

set_option maxRecDepth 100000 in
set_option maxHeartbeats 1000000 in
theorem uvarint (g o cap m : Nat) (rest L : List UInt8) (w : World) (hL : L = uv m ++ rest) (hm : m ≤ 1000000) (hlen : L.length ≤ maxLen)
    (hc : ∀ j (hj : j < L.length), w.cell? ⟨g, o + j, none⟩ = some (.int .u8 (L[j].toNat : Int))) :
    Calls Yba.prog 17 #[.slice (some ⟨g, o, none⟩) L.length cap] w fun e w' => e = .returned (.tuple #[.int .u64 m, .int .i64 (uv m).length]) ∧ w' = w := by
  unfold maxLen at hlen
  have HC := hide hc
  have HL := hide hL
  clear hc hL
  go_enter Yba.func17, Yba.ntmps17
  go_wp2
  go_loop [4, 5, 10] (fun x s c => ∃ (i cur xn p : Nat), (i = 0 ∧ p = 1 ∨ i = 1 ∧ p = 128 ∨ i = 2 ∧ p = 16384) ∧ Hid (m = xn + cur * p) ∧ xn < p ∧ (i = 0 ∨ 1 ≤ cur) ∧ Hid (L.drop i = uv cur ++ rest) ∧ Hid ((uv m).length = i + (uv cur).length) ∧ x = .int .u64 xn ∧ s = .int .u64 ((7 * i : Nat) : Int) ∧ c = .int .i64 i) (fun _ _ c => L.length - (intOf c).toNat)
  case atStart => exact ⟨0, m, 0, 1, .inl ⟨rfl, rfl⟩, by show _ = _; omega, by omega, .inl rfl, HL.out, by show _ = _; omega, rfl, rfl, rfl⟩
  case round =>
    obtain ⟨i, cur, xn, p, hip, HM, hx, hi1, HD, HU, rfl, rfl, rfl⟩ := hrel
    have hil : i < L.length := by
      have h1 := congrArg List.length HD.out
      have h2 := uv_pos cur
      simp at h1
      omega
    have hbyte : ∀ u r, L.drop i = u :: r → w.cell? ⟨g, o + i, none⟩ = some (.int .u8 (u.toNat : Int)) := by
      intro u r hd
      have := HC.out i hil
      rw [this]
      have h2 : L[i] = u := by
        have := List.getElem?_eq_getElem hil
        rw [show L[i]? = some u from by have h3 := congrArg (·[0]?) hd; simpa using h3] at this
        exact (Option.some.inj this).symm
      rw [h2]
    by_cases hlt : cur < 128
    · have hb := hbyte (b8 cur) rest (by rw [HD.out, uv_lt cur hlt]; rfl)
      have HV : Hid ((uv m).length = i + 1) := by
        show _ = _
        rw [HU.out, uv_lt cur hlt]; rfl
      rw [ofNat_val cur (by omega)] at hb
      clear hbyte
      rcases hip with ⟨rfl, rfl⟩ | ⟨rfl, rfl⟩ | ⟨rfl, rfl⟩
      all_goals
        (try simp at hb hil)
        go_wp2
        go_ret2
      · refine ⟨ret_uv ?_ (by rw [HV.out]; rfl), rfl⟩
        have := or_join 0 1 xn cur rfl hx (by omega) (by omega)
        rw [Nat.mul_one] at this
        exact this.trans (by rw [HM.out]; simp)
      · refine ⟨ret_uv ?_ (by rw [HV.out]; rfl), rfl⟩
        have := or_join 7 128 xn cur rfl hx (by omega) (by omega)
        rw [HM.out]
        exact this
      · refine ⟨ret_uv ?_ (by rw [HV.out]; rfl), rfl⟩
        have := or_join 14 16384 xn cur rfl hx (by omega) (by omega)
        rw [HM.out]
        exact this
    · have hb := hbyte (b8 (cur % 128 + 128)) (uv (cur / 128) ++ rest) (by rw [HD.out, uv_ge cur (by omega)]; rfl)
      have HV : Hid ((uv m).length = i + 1 + (uv (cur / 128)).length) := by
        show _ = _
        rw [HU.out, uv_ge cur (by omega)]; simp; omega
      have HD2 : Hid (L.drop (i + 1) = uv (cur / 128) ++ rest) := by
        show _ = _
        rw [← List.drop_drop, HD.out, uv_ge cur (by omega)]; rfl
      rw [ofNat_val _ (by omega)] at hb
      clear hbyte
      have hand := and127_at cur
      have HA := hide hand
      clear hand
      rcases hip with ⟨rfl, rfl⟩ | ⟨rfl, rfl⟩ | ⟨rfl, rfl⟩
      · (try simp at hb hil)
        go_wp2
        go_round
        case rel =>
          refine ⟨1, cur / 128, xn + cur % 128, 128, .inr (.inl ⟨rfl, rfl⟩), ?_, by omega, .inr (by omega), HD2.out, HV.out, ?_, rfl, rfl⟩
          · show _ = _
            have := HM.out
            omega
          · rw [HA.out, wrapu _ (by omega), wrapu _ (by omega)]
            have := or_join 0 1 xn (cur % 128) rfl hx (by omega) (by omega)
            rw [Nat.mul_one] at this
            rw [this]
        case measure => simp [intOf]; omega
      · (try simp at hb hil)
        go_wp2
        go_round
        case rel =>
          refine ⟨2, cur / 128, xn + cur % 128 * 128, 16384, .inr (.inr ⟨rfl, rfl⟩), ?_, by omega, .inr (by omega), HD2.out, HV.out, ?_, rfl, rfl⟩
          · show _ = _
            have := HM.out
            omega
          · rw [HA.out, wrapu _ (by omega), show (((cur % 128 : Nat) : Int) * 128) = ((cur % 128 * 128 : Nat) : Int) from by omega, wrapu _ (by omega)]
            rw [or_join 7 128 xn (cur % 128) rfl hx (by omega) (by omega)]
        case measure => simp [intOf]; omega
      · exfalso
        have := HM.out
        omega
end Go.Proofs.Ybulkckfg
