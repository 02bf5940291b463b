import Derived.Test.YbulkckokOwn
import Derived.Test.YbulkckokLen
import Derived.Test.YbulkckokPlain
import Derived.Laws.BitsAllLaws
namespace Go.Proofs.Ybulkckok
open Go.ChangeShapes Go.WideShapes Go.ChangeAt Go.RowKit Plain

/-- the law's own byte p of string j -/
def byteFn (j p : Nat) : UInt8 := UInt8.ofNat (j * 7 + p * 13 + j / 256)
theorem byteFn_val (j p : Nat) : ((byteFn j p).toNat : Int) = ((j : Int) * 7 + (p : Int) * 13 + (j : Int) / 256) % 256 := by
  have : (byteFn j p).toNat = (j * 7 + p * 13 + j / 256) % 256 := by simp [byteFn]
  omega

theorem byte_calls (j p : Nat) (w : World) (hj : j ≤ 300) (hp : p ≤ 8192) :
    Calls Yba.prog 7 #[.int .i64 j, .int .i64 p] w fun e w' => e = .returned (.int .u8 ((byteFn j p).toNat : Int)) ∧ w' = w := by
  have HB := hide (byteFn_val j p)
  go_enter Yba.func7, Yba.ntmps7
  go_wp2
  go_ret
  exact ⟨by rw [HB.out]; rfl, rfl⟩

theorem ret_ii {a b c d : Int} (h1 : a = c) (h2 : b = d) : Ending.returned (.tuple #[.int .i64 a, .int .i64 b]) = .returned (.tuple #[.int .i64 c, .int .i64 d]) := by rw [h1, h2]
theorem and_mask : ∀ la : Fin 11, ∀ i : Fin 301, bits .and .i64 (i.val : Int) (((2 ^ la.val : Nat) : Int) - 1) = ((i.val % 2 ^ la.val : Nat) : Int) := by decide +kernel

set_option maxRecDepth 100000 in
set_option maxHeartbeats 1000000 in
theorem at_calls (sz f la n i : Nat) (w : World) (hok : Ok sz f la n) (hi : i < n) :
    Calls Yba.prog 11 #[.agg #[.int .i64 sz, .int .i64 f, .int .i64 la], .int .i64 i] w fun e w' => e = .returned (.tuple #[.int .i64 (atC f la i), .int .i64 ((atR f la i * sz : Nat) : Int)]) ∧ w.grownBy w' none := by
  obtain ⟨hx1, hx2, hp3, hp4, hp5⟩ := hok.place i hi
  clear hx1 hx2
  have hs1 := hok.s1
  have hs2 := hok.s2
  have hfl := hok.fl
  have hla := hok.l10
  have hn := hok.n300
  have hAF : 2 ^ f ≤ 2 ^ la := Nat.pow_le_pow_right (by decide) hfl
  have hA10 : 2 ^ la ≤ 2 ^ 10 := Nat.pow_le_pow_right (by decide) hla
  simp only [show 2 ^ 10 = 1024 from rfl] at hA10
  have hF1 : 1 ≤ 2 ^ f := Nat.two_pow_pos _
  have hmask := and_mask ⟨la, by omega⟩
  simp only at hmask
  have HC : Hid (atC f la i = if i < 2 ^ la - 2 ^ f then Lib.bitLen (i / 2 ^ f + 1) - 1 else la - f + (i - (2 ^ la - 2 ^ f)) / 2 ^ la) := rfl
  have HR : Hid (atR f la i = if i < 2 ^ la - 2 ^ f then i - (2 ^ (Lib.bitLen (i / 2 ^ f + 1) - 1) - 1) * 2 ^ f else (i - (2 ^ la - 2 ^ f)) % 2 ^ la) := rfl
  have hfi : (2 : Int) ^ f = ((2 ^ f : Nat) : Int) := by simp
  have hai : (2 : Int) ^ la = ((2 ^ la : Nat) : Int) := by simp
  generalize 2 ^ f = F at *
  generalize 2 ^ la = A at *
  generalize atC f la i = RC at *
  generalize atR f la i = RR at *
  clear hok
  have hG := fun (B : Obj) (k : Nat) => (⟨rfl, rfl, rfl, by simp, fun j hj _ => heap_alloc_old w B hj⟩ : w.grownBy ((w.alloc B).drewN k) none)
  by_cases hlt : i < A - F
  · have hqi : (i : Int) / (F : Int) = ((i / F : Nat) : Int) := by simp
    have hqb : i / F ≤ 300 := Nat.le_trans (Nat.div_le_self _ _) (by omega)
    rw [if_pos hlt] at HC HR
    generalize i / F = q at *
    obtain ⟨c, hc⟩ : ∃ c, Lib.bitLen (q + 1) = c + 1 := ⟨Lib.bitLen (q + 1) - 1, by omega⟩
    have HB := hide hc
    rw [hc] at hp3 hp4 hp5 HC HR
    simp only [Nat.add_sub_cancel] at hp3 HC HR
    have hci : (2 : Int) ^ c = ((2 ^ c : Nat) : Int) := by simp
    have hcb : 2 ^ c ≤ 2 ^ 10 := Nat.pow_le_pow_right (by decide) (by omega)
    simp only [show 2 ^ 10 = 1024 from rfl] at hcb
    have hc1 : 1 ≤ 2 ^ c := Nat.two_pow_pos _
    generalize 2 ^ c = C at *
    clear hc hmask
    have hltI : (i : Int) < (A : Int) - (F : Int) := by omega
    have hD : ((C : Int) - 1) * (F : Int) = (((C - 1) * F : Nat) : Int) := by
      rw [Int.natCast_mul, Int.natCast_sub hc1]; rfl
    generalize (C - 1) * F = D at *
    have hE : ((i : Int) - (D : Int)) * (sz : Int) = (((i - D) * sz : Nat) : Int) := by
      rw [Int.natCast_mul, Int.natCast_sub hp3]
    have hEb : (i - D) * sz ≤ 300 * 8192 := Nat.mul_le_mul (by omega) hs2
    have HE : Hid (RR * sz = (i - D) * sz) := by show _ = _; rw [HR.out]
    clear HR
    generalize (i - D) * sz = E at *
    go_enter Yba.func11, Yba.ntmps11
    go_wp2
    go_quiet (fail)
    go_wp2_with fail
    refine (len ((q : Int) + 1) _ (by omega) (by omega)).mono ?_
    rintro e W ⟨rfl, hW⟩
    subst hW
    rw [show ((q : Int) + 1).toNat = q + 1 from by omega, HB.out]
    go_wp2_with fail
    go_quiet (fail)
    go_wp2_with fail
    go_ret2
    refine ⟨ret_ii (by rw [HC.out]) (by rw [HE.out]), ?_⟩
    rw [World.drewN_drewN]
    exact hG _ _
  · rw [if_neg hlt] at HC HR
    have hlt2 : ¬ (i : Int) < (A : Int) - (F : Int) := by omega
    have hm2 := hmask ⟨i - (A - F), by omega⟩
    simp only at hm2
    clear hmask
    have hsub : (i : Int) - ((A : Int) - (F : Int)) = ((i - (A - F) : Nat) : Int) := by omega
    have hib : i - (A - F) ≤ 300 := by omega
    generalize i - (A - F) = i2 at *
    have hq : (i2 : Int) / (A : Int) = ((i2 / A : Nat) : Int) := by simp
    have hqb : i2 / A ≤ 300 := Nat.le_trans (Nat.div_le_self _ _) (by omega)
    have hrb : i2 % A ≤ 300 := Nat.le_trans (Nat.mod_le _ _) (by omega)
    generalize i2 / A = q at *
    generalize i2 % A = r at *
    have hE : (r : Int) * (sz : Int) = ((r * sz : Nat) : Int) := by rw [Int.natCast_mul]
    have hEb : r * sz ≤ 300 * 8192 := Nat.mul_le_mul (by omega) hs2
    have HE : Hid (RR * sz = r * sz) := by show _ = _; rw [HR.out]
    clear HR
    generalize r * sz = E at *
    go_enter Yba.func11, Yba.ntmps11
    go_wp2
    go_quiet (fail)
    go_wp2_with fail
    go_quiet (fail)
    go_wp2_with fail
    go_ret2
    refine ⟨ret_ii (by rw [HC.out]; omega) (by rw [HE.out]), ?_⟩
    rw [World.drewN_drewN]
    exact hG _ _

/-- fixedAt: string i's bytes, a window of chunk c -/
theorem fixedAt_calls (sz f la n i bt gch nc capch g lc capc : Nat) (w : World) (hok : Ok sz f la n) (hi : i < n)
    (hch : w.cell? ⟨bt, 6, none⟩ = some (.slice (some ⟨gch, 0, none⟩) nc capch)) (hc : atC f la i < nc) (hcell : w.cell? ⟨gch, atC f la i, none⟩ = some (.slice (some ⟨g, 0, none⟩) lc capc))
    (hle : atR f la i * sz + sz ≤ lc) (hlc : lc ≤ capc) (hl24 : lc ≤ 16777216) :
    Calls Yba.prog 8 #[.pointer (some ⟨bt, 6, none⟩), .int .i64 i, .agg #[.int .i64 sz, .int .i64 f, .int .i64 la]] w fun e w' => e = .returned (.slice (some ⟨g, atR f la i * sz, none⟩) sz sz) ∧ w.grownBy w' none := by
  have hs1 := hok.s1
  have hs2 := hok.s2
  have HA := hide (at_calls sz f la n i ((w.alloc (.cells #[.int .i64 sz, .int .i64 f, .int .i64 la] 36))) hok hi)
  generalize atC f la i = c at *
  generalize atR f la i * sz = o at *
  have hg1 := World.block_lt_of_cell? w _ hch
  have hg2 := World.block_lt_of_cell? w _ hcell
  go_enter Yba.func8, Yba.ntmps8
  go_wp2_with fail
  refine HA.out.mono ?_
  rintro e W ⟨rfl, hg⟩
  have hb : W.heap[w.heap.size]? = _ := (hg.block w.heap.size (by simp) (by simp)).trans (heap_alloc_new w _)
  have hb0 := cell_of_row W _ 0 _ _ _ hb
  simp at hb0
  have hw : w.grownBy W none := grown_trans (World.grownBy_alloc _ _ _) hg
  have hch2 := hw.cell hch (by simp)
  have hcell2 := hw.cell hcell (by simp)
  clear hg hb HA hch hcell
  go_wp2_with fail
  go_quiet (fail)
  go_wp2_with fail
  go_ret
  exact ⟨by rw [Nat.add_sub_cancel_left]; rfl, ⟨hw.os, hw.tape, hw.output, hw.size, hw.block⟩⟩
end Go.Proofs.Ybulkckok
