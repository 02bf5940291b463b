import Derived.Test.YbulkckokAt
namespace Go.Proofs.Ybulkckok
open Go.ChangeShapes Go.WideShapes Go.ChangeAt Go.RowKit Plain

set_option maxRecDepth 100000 in
set_option maxHeartbeats 1000000 in
theorem key_calls (sz f la n i bt gch nc capch g lc capc : Nat) (tb : Array Value) (w : World) (hok : Ok sz f la n) (hi : i < n)
    (htb : w.heap[bt]? = some (.cells tb 38)) (h2 : tb[2]? = some (.int .i64 sz)) (h3 : tb[3]? = some (.int .i64 f)) (h4 : tb[4]? = some (.int .i64 la))
    (h6 : tb[6]? = some (.slice (some ⟨gch, 0, none⟩) nc capch)) (hc : atC f la i < nc) (hcell : w.cell? ⟨gch, atC f la i, none⟩ = some (.slice (some ⟨g, 0, none⟩) lc capc))
    (hle : atR f la i * sz + sz ≤ lc) (hlc : lc ≤ capc) (hl24 : lc ≤ 16777216) :
    Calls Yba.prog 5 #[.pointer (some ⟨bt, 0, none⟩), .int .u32 i] w fun e w' => e = .returned (.slice (some ⟨g, atR f la i * sz, none⟩) sz sz) ∧ w.grownBy w' none := by
  have hs1 := hok.s1
  have hs2 := hok.s2
  have hfl := hok.fl
  have hla := hok.l10
  have hn := hok.n300
  have hc2 : w.cell? ⟨bt, 2, none⟩ = some (.int .i64 sz) := by rw [cell_of_row w bt 2 tb 38 (0, 0) htb]; exact h2
  have hc3 : w.cell? ⟨bt, 3, none⟩ = some (.int .i64 f) := by rw [cell_of_row w bt 3 tb 38 (0, 0) htb]; exact h3
  have hc4 : w.cell? ⟨bt, 4, none⟩ = some (.int .i64 la) := by rw [cell_of_row w bt 4 tb 38 (0, 0) htb]; exact h4
  have hc6 : w.cell? ⟨bt, 6, none⟩ = some (.slice (some ⟨gch, 0, none⟩) nc capch) := by rw [cell_of_row w bt 6 tb 38 (0, 0) htb]; exact h6
  have hpos : decide ((0 : Int) < (sz : Int)) = true := decide_eq_true (by omega)
  have HF : ∀ W : World, w.grownBy W none → Calls Yba.prog 8 #[.pointer (some ⟨bt, 6, none⟩), .int .i64 i, .agg #[.int .i64 sz, .int .i64 f, .int .i64 la]] W fun e w' => e = .returned (.slice (some ⟨g, atR f la i * sz, none⟩) sz sz) ∧ W.grownBy w' none :=
    fun W hW => fixedAt_calls sz f la n i bt gch nc capch g lc capc W hok hi (hW.cell hc6 (by simp)) hc (hW.cell hcell (by simp)) hle hlc hl24
  clear htb h2 h3 h4 h6 hcell hok
  have hg := World.block_lt_of_cell? w _ hc2
  have HF2 := hide HF
  clear HF
  generalize atR f la i * sz = o at *
  have hwr : IntKind.i64.wrap (i : Int) = (i : Int) := by unfold IntKind.wrap; simp [IntKind.signed, IntKind.bits]; omega
  go_enter Yba.func5, Yba.ntmps5
  go_wp2_with fail
  go_region_with (go_at_call 8; refine (HF2.out w.drew ⟨rfl, rfl, rfl, Nat.le_refl _, fun _ _ _ => rfl⟩).mono ?_; rintro e W ⟨rfl, hW⟩)
  all_goals
    go_wp2_with fail
    go_ret
    exact ⟨rfl, ⟨hW.os, hW.tape, hW.output, hW.size, hW.block⟩⟩
end Go.Proofs.Ybulkckok
