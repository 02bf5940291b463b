import Derived.Test.YbulkckfgPlace
namespace Go.Proofs.Ybulkckfg
open Go.ChangeShapes Go.WideShapes Go.ChangeAt Go.RowKit

/-- eight bytes joined -/
theorem join8 (h : Nat) (hh : h < 18446744073709551616) :
    bits .or .u64 (bits .or .u64 (bits .or .u64 (bits .or .u64 (bits .or .u64 (bits .or .u64 (bits .or .u64 ((h : Int) % 256) ((h : Int) / 256 % 256 * 256)) ((h : Int) / 65536 % 256 * 65536)) ((h : Int) / 16777216 % 256 * 16777216)) ((h : Int) / 4294967296 % 256 * 4294967296)) ((h : Int) / 1099511627776 % 256 * 1099511627776)) ((h : Int) / 281474976710656 % 256 * 281474976710656)) ((h : Int) / 72057594037927936 * 72057594037927936) = (h : Int) := by
  have s1 : bits .or .u64 (((h % 256 : Nat) : Int)) ((h : Int) / 256 % 256 * 256) = ((h % 65536 : Nat) : Int) := by
    rw [show (h : Int) / 256 % 256 * 256 = ((h / 256 % 256 * 256 : Nat) : Int) from by omega, or_join 8 256 (h % 256) (h / 256 % 256) rfl (by omega) (by omega) (by omega)]
    omega
  have s2 : bits .or .u64 (((h % 65536 : Nat) : Int)) ((h : Int) / 65536 % 256 * 65536) = ((h % 16777216 : Nat) : Int) := by
    rw [show (h : Int) / 65536 % 256 * 65536 = ((h / 65536 % 256 * 65536 : Nat) : Int) from by omega, or_join 16 65536 (h % 65536) (h / 65536 % 256) rfl (by omega) (by omega) (by omega)]
    omega
  have s3 : bits .or .u64 (((h % 16777216 : Nat) : Int)) ((h : Int) / 16777216 % 256 * 16777216) = ((h % 4294967296 : Nat) : Int) := by
    rw [show (h : Int) / 16777216 % 256 * 16777216 = ((h / 16777216 % 256 * 16777216 : Nat) : Int) from by omega, or_join 24 16777216 (h % 16777216) (h / 16777216 % 256) rfl (by omega) (by omega) (by omega)]
    omega
  have s4 : bits .or .u64 (((h % 4294967296 : Nat) : Int)) ((h : Int) / 4294967296 % 256 * 4294967296) = ((h % 1099511627776 : Nat) : Int) := by
    rw [show (h : Int) / 4294967296 % 256 * 4294967296 = ((h / 4294967296 % 256 * 4294967296 : Nat) : Int) from by omega, or_join 32 4294967296 (h % 4294967296) (h / 4294967296 % 256) rfl (by omega) (by omega) (by omega)]
    omega
  have s5 : bits .or .u64 (((h % 1099511627776 : Nat) : Int)) ((h : Int) / 1099511627776 % 256 * 1099511627776) = ((h % 281474976710656 : Nat) : Int) := by
    rw [show (h : Int) / 1099511627776 % 256 * 1099511627776 = ((h / 1099511627776 % 256 * 1099511627776 : Nat) : Int) from by omega, or_join 40 1099511627776 (h % 1099511627776) (h / 1099511627776 % 256) rfl (by omega) (by omega) (by omega)]
    omega
  have s6 : bits .or .u64 (((h % 281474976710656 : Nat) : Int)) ((h : Int) / 281474976710656 % 256 * 281474976710656) = ((h % 72057594037927936 : Nat) : Int) := by
    rw [show (h : Int) / 281474976710656 % 256 * 281474976710656 = ((h / 281474976710656 % 256 * 281474976710656 : Nat) : Int) from by omega, or_join 48 281474976710656 (h % 281474976710656) (h / 281474976710656 % 256) rfl (by omega) (by omega) (by omega)]
    omega
  have s7 : bits .or .u64 (((h % 72057594037927936 : Nat) : Int)) ((h : Int) / 72057594037927936 * 72057594037927936) = ((h % 18446744073709551616 : Nat) : Int) := by
    rw [show (h : Int) / 72057594037927936 * 72057594037927936 = ((h / 72057594037927936 * 72057594037927936 : Nat) : Int) from by omega, or_join 56 72057594037927936 (h % 72057594037927936) (h / 72057594037927936) rfl (by omega) (by omega) (by omega)]
    omega
  rw [show (h : Int) % 256 = ((h % 256 : Nat) : Int) from by omega, s1, s2, s3, s4, s5, s6, s7]
  omega

set_option maxHeartbeats 1000000 in
theorem u64_calls (g o n cap h : Nat) (w : World) (hh : h < 18446744073709551616) (hn : 8 ≤ n)
    (hb : ∀ j, j < 8 → w.cell? ⟨g, o + j, none⟩ = (bc (le8 h))[j]?) :
    Calls Yba.prog 19 #[.agg #[], .slice (some ⟨g, o, none⟩) n cap] w fun e w' => e = .returned (.int .u64 (h : Int)) ∧ w.grownBy w' none := by
  rw [le8_cells h (by omega) (by omega)] at hb
  have c0 := hb 0 (by omega)
  have c1 := hb 1 (by omega)
  have c2 := hb 2 (by omega)
  have c3 := hb 3 (by omega)
  have c4 := hb 4 (by omega)
  have c5 := hb 5 (by omega)
  have c6 := hb 6 (by omega)
  have c7 := hb 7 (by omega)
  simp only [List.getElem?_cons_zero, List.getElem?_cons_succ, Nat.add_zero] at c0 c1 c2 c3 c4 c5 c6 c7
  clear hb
  have hg := World.block_lt_of_cell? w _ c0
  simp only at hg
  go_enter Yba.func19, Yba.ntmps19
  go_wp2_with fail
  go_quiet (fail)
  go_wp2_with fail
  go_ret
  refine ⟨congrArg Ending.returned (congrArg (Value.int IntKind.u64) (join8 h hh)), ?_⟩
  exact ⟨rfl, rfl, rfl, by simp, fun j hj _ => heap_alloc_old w _ hj⟩
end Go.Proofs.Ybulkckfg
