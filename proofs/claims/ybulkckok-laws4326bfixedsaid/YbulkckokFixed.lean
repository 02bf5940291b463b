import Derived.Test.YbulkckokBase
import Derived.Deep.DeepCutAuto
namespace Go.Proofs.Ybulkckok
open Go.ChangeShapes Go.WideShapes Go.ChangeAt Go.RowKit Plain

/-- where the filling stands -/
def Pos (f la : Nat) (ls : List (List UInt8)) (j fi pe : Nat) : Prop := (ls = [] ∧ j = 0 ∧ fi = 0 ∧ pe = 0) ∨ ∃ c, ls.length = c + 1 ∧ Plain.start f la c + fi = j ∧ pe = per f la c ∧ fi ≤ pe
theorem Pos.count {f la : Nat} {ls : List (List UInt8)} {j fi pe : Nat} (h : Pos f la ls j fi pe) : ls.length ≤ j + 1 := by
  rcases h with ⟨rfl, _⟩ | ⟨c, h1, h2, _⟩
  · simp
  · have := start_ge f la c
    omega
theorem Pos.small {f la : Nat} {ls : List (List UInt8)} {j fi pe : Nat} (h : Pos f la ls j fi pe) (hla : la ≤ 10) : fi ≤ 1024 ∧ pe ≤ 1024 := by
  rcases h with ⟨_, _, h1, h2⟩ | ⟨c, _, _, h1, h2⟩
  · omega
  · have := per_le f la c hla
    omega
theorem Pos.new {f la : Nat} {ls : List (List UInt8)} {j fi pe : Nat} (h : Pos f la ls j fi pe) (hn : ls.length = 0 ∨ fi = pe) : Plain.start f la ls.length = j := by
  rcases h with ⟨rfl, rfl, _⟩ | ⟨c, h1, h2, h3, h4⟩
  · rfl
  · rw [h1]
    simp only [Plain.start]
    omega

theorem split_last {α : Type} {c : Nat} (l : List α) (h : l.length = c + 1) : ∃ l0 x, l = l0 ++ [x] ∧ l0.length = c := by
  have hne : l ≠ [] := by intro e; subst e; simp at h
  exact ⟨l.dropLast, l.getLast hne, (List.dropLast_concat_getLast hne).symm, by simp [h]⟩

theorem old_chunk {w W : World} {sz f la nc j fi pe : Nat} {vch : Value} {hs : List Value} {ls : List (List UInt8)} (hn : hs.length = nc) (hB : Base w W sz f la vch hs ls) (hF : Fill sz f la byteFn ls j) (hP : Pos f la ls j fi pe) (hnew : ¬ (nc = 0 ∨ fi = pe)) :
    ∃ (fi' pe' : Nat) (hs : List Value) (h : Value) (ls : List (List UInt8)) (l : List UInt8), Value.int .i64 (fi : Int) = .int .i64 (fi' : Int) ∧ Value.int .i64 (pe : Int) = .int .i64 (pe' : Int) ∧ Base w W sz f la vch (hs ++ [h]) (ls ++ [l]) ∧ Fill sz f la byteFn (ls ++ [l]) j ∧ Plain.start f la ls.length + fi' = j ∧ pe' = per f la ls.length ∧ fi' < pe' := by
  have hl := hB.hl
  rcases hP with ⟨rfl, _⟩ | ⟨c, h1, h2, h3, h4⟩
  · simp at hl; omega
  · obtain ⟨hs0, h, rfl, hh⟩ := split_last (c := c) hs (by omega)
    obtain ⟨ls0, l, rfl, hll⟩ := split_last (c := c) ls h1
    subst hll
    exact ⟨fi, pe, hs0, h, ls0, l, rfl, rfl, hB, hF, h2, h3, by omega⟩

theorem Base.last {w W : World} {sz f la g n cap : Nat} {vch : Value} {hs : List Value} {ls : List (List UInt8)} {m : List UInt8} (h : Base w W sz f la vch (hs ++ [.slice (some ⟨g, 0, none⟩) n cap]) (ls ++ [m])) (hm : m.length = n) {k : Nat} (hk : k < n) : ∃ v, W.cell? ⟨g, k, none⟩ = some v := by
  have hl : hs.length = ls.length := by have := h.hl; simpa using this
  obtain ⟨gch', capch', g', cap', hq1, hh, hcell, hle', _, _, hglt, hfr, hby⟩ := h.chunk (c := ls.length) (l := m) (by simp) (by intro e; subst e; simp at hm; omega)
  rw [← hl] at hh
  simp at hh
  obtain ⟨rfl, _, _⟩ := hh
  exact ⟨_, hby k (by omega)⟩
theorem Base.lastFree {w W : World} {sz f la g n cap : Nat} {vch : Value} {hs : List Value} {ls : List (List UInt8)} {m : List UInt8} (h : Base w W sz f la vch (hs ++ [.slice (some ⟨g, 0, none⟩) n cap]) (ls ++ [m])) : ∀ k, W.frozen? ⟨g, k, none⟩ = false := by
  have hl : hs.length = ls.length := by have := h.hl; simpa using this
  have ho := h.own
  rw [crows_snoc _ _ _ _ hl] at ho
  have hr := ho.own ((crows hs ls).length + 1) ⟨5, .slice (some ⟨g, 0, none⟩) n cap, bc m⟩ (by simp)
  rcases hr.form with ⟨h0, _⟩ | ⟨g', cap', h1, _, _, _, h2, _⟩
  · cases h0
  · simp at h1
    obtain ⟨rfl, _⟩ := h1
    exact h2

/-- every string laid can be found -/
theorem fixed_read {w W : World} {sz f la n fi pe : Nat} {ach : Option Addr} {nc cch : Nat} {hs : List Value} {ls : List (List UInt8)} (hok : Ok sz f la n) (hB : Base w W sz f la (.slice ach nc cch) hs ls) (hF : Fill sz f la byteFn ls n) (hP : Pos f la ls n fi pe) (i : Nat) (hi : i < n) :
    ∃ gch g lc capc, ach = some ⟨gch, 0, none⟩ ∧ atC f la i < hs.length ∧ W.cell? ⟨gch, atC f la i, none⟩ = some (.slice (some ⟨g, 0, none⟩) lc capc) ∧ atR f la i * sz + sz ≤ lc ∧ lc ≤ capc ∧ lc ≤ 16777216 ∧ ∀ p, p < sz → W.cell? ⟨g, atR f la i * sz + p, none⟩ = some (.int .u8 ((byteFn i p).toNat : Int)) := by
  obtain ⟨h1, h2, _⟩ := hok.place i hi
  have hc : atC f la i < ls.length := by
    by_cases hlt : atC f la i < ls.length
    · exact hlt
    · have hm := start_mono f la ls.length (atC f la i) (by omega)
      rcases hP with ⟨_, h0, _⟩ | ⟨c, e1, e2, e3, e4⟩
      · omega
      · rw [e1] at hm
        simp only [Plain.start] at hm
        omega
  obtain ⟨l, hl⟩ : ∃ l, ls[atC f la i]? = some l := ⟨_, List.getElem?_eq_getElem hc⟩
  have hlen := hF.len _ _ hl
  have hs1 := hok.s1
  have hle : atR f la i * sz + sz ≤ l.length := by
    rw [hlen]
    calc atR f la i * sz + sz = (atR f la i + 1) * sz := by rw [Nat.add_mul, Nat.one_mul]
      _ ≤ per f la (atC f la i) * sz := Nat.mul_le_mul_right _ h2
  obtain ⟨gch, capch, g, cap, hv, _, hcell, hlc, _, _, _, _, hby⟩ := hB.chunk hl (by intro e; subst e; simp at hle; omega)
  have hb : l.length ≤ 1024 * 8192 := by rw [hlen]; exact Nat.mul_le_mul (per_le f la _ hok.l10) hok.s2
  simp only [Value.slice.injEq] at hv
  refine ⟨gch, g, l.length, cap, hv.1, by rw [hB.hl]; exact hc, hcell, hle, hlc, by omega, fun p hp => ?_⟩
  have hh := hF.has _ _ p l hl h2 (by omega) hp
  rw [h1] at hh
  have hlt : atR f la i * sz + p < l.length := by omega
  rw [hby _ hlt]
  rw [List.getElem?_eq_getElem hlt] at hh
  rw [Option.some.inj hh]

set_option maxRecDepth 100000 in
set_option maxHeartbeats 1000000 in
theorem fixed_walk (size first extra count : Nat) (big : Bool) (w : World) (hsz : size ≤ 255) (hfi : first ≤ 255) (hex : extra ≤ 255) (hco : count ≤ 65535) :
    Calls Yba.prog 4 #[.int .u8 size, .int .u8 first, .int .u8 extra, .bool big, .int .u16 count] w fun e w' => e = .returned (.bool true) ∧ Below w.heap.size w w' := by
  go_enter Yba.func4, Yba.ntmps4
  go_upto_if 26 with fail
  go_cut [12, 13] (fun v12 _ W => ∃ sz f la n : Nat, v12 = .int .i64 n ∧ Laid w W sz f la n)
  case first =>
    by_cases hb : big = true
    · subst hb
      have h4 : (size : Int) % 4 = 0 ∨ (size : Int) % 4 = 1 ∨ (size : Int) % 4 = 2 ∨ (size : Int) % 4 = 3 := by omega
      rcases h4 with h4 | h4 | h4 | h4
      · go_wp2_with fail
        refine (lay0 _).mono ?_
        rintro e W ⟨rfl, hg⟩
        have hb : W.heap[w.heap.size]? = _ := (hg.block w.heap.size (by simp) (by simp)).trans (heap_alloc_new w _)
        have hb0 := cell_of_row W _ 0 _ _ _ hb
        have hb1 := cell_of_row W _ 1 _ _ _ hb
        have hb2 := cell_of_row W _ 2 _ _ _ hb
        have hf0 := fun j => frozen_of_row W _ j _ _ hb
        simp at hb0 hb1 hb2
        have HB := hide hb
        have HG := hide hg
        clear hb hg
        go_wp2_with fail
        go_meet
        case rel => exact ⟨1024, 2, 10, count % 65, by go_num, laid_store HB.out HG.out ⟨by decide, by decide, by decide, by decide, by omega, ok_of ok_big0 (by omega)⟩⟩
      · go_wp2_with fail
        refine (lay1 _).mono ?_
        rintro e W ⟨rfl, hg⟩
        have hb : W.heap[w.heap.size]? = _ := (hg.block w.heap.size (by simp) (by simp)).trans (heap_alloc_new w _)
        have hb0 := cell_of_row W _ 0 _ _ _ hb
        have hb1 := cell_of_row W _ 1 _ _ _ hb
        have hb2 := cell_of_row W _ 2 _ _ _ hb
        have hf0 := fun j => frozen_of_row W _ j _ _ hb
        simp at hb0 hb1 hb2
        have HB := hide hb
        have HG := hide hg
        clear hb hg
        go_wp2_with fail
        go_meet
        case rel => exact ⟨2048, 1, 9, count % 65, by go_num, laid_store HB.out HG.out ⟨by decide, by decide, by decide, by decide, by omega, ok_of ok_big1 (by omega)⟩⟩
      · go_wp2_with fail
        refine (lay2 _).mono ?_
        rintro e W ⟨rfl, hg⟩
        have hb : W.heap[w.heap.size]? = _ := (hg.block w.heap.size (by simp) (by simp)).trans (heap_alloc_new w _)
        have hb0 := cell_of_row W _ 0 _ _ _ hb
        have hb1 := cell_of_row W _ 1 _ _ _ hb
        have hb2 := cell_of_row W _ 2 _ _ _ hb
        have hf0 := fun j => frozen_of_row W _ j _ _ hb
        simp at hb0 hb1 hb2
        have HB := hide hb
        have HG := hide hg
        clear hb hg
        go_wp2_with fail
        go_meet
        case rel => exact ⟨4096, 0, 8, count % 65, by go_num, laid_store HB.out HG.out ⟨by decide, by decide, by decide, by decide, by omega, ok_of ok_big2 (by omega)⟩⟩
      · go_wp2_with fail
        refine (lay3 _).mono ?_
        rintro e W ⟨rfl, hg⟩
        have hb : W.heap[w.heap.size]? = _ := (hg.block w.heap.size (by simp) (by simp)).trans (heap_alloc_new w _)
        have hb0 := cell_of_row W _ 0 _ _ _ hb
        have hb1 := cell_of_row W _ 1 _ _ _ hb
        have hb2 := cell_of_row W _ 2 _ _ _ hb
        have hf0 := fun j => frozen_of_row W _ j _ _ hb
        simp at hb0 hb1 hb2
        have HB := hide hb
        have HG := hide hg
        clear hb hg
        go_wp2_with fail
        go_meet
        case rel => exact ⟨8192, 0, 7, count % 65, by go_num, laid_store HB.out HG.out ⟨by decide, by decide, by decide, by decide, by omega, ok_of ok_big3 (by omega)⟩⟩
    · have hb2 : big = false := by simpa using hb
      subst hb2
      clear hb
      go_wp2_with fail
      go_meet
      case rel =>
        have := Ok.small (size % 8) (first % 4) (extra % 4) (count % 301) (by omega) (by omega) (by omega) (by omega)
        refine ⟨_, _, _, count % 301, by go_num, this, ?_, (Below.refl _ _).alloc (Nat.le_refl _) _, by simp⟩
        rw [heap_alloc_new]
        simp
  case rest =>
    obtain ⟨sz, f, la, n, rfl, hL⟩ := hcut
    have hs1 := hL.ok.s1
    have hs2 := hL.ok.s2
    have hfl := hL.ok.fl
    have hla := hL.ok.l10
    have hn := hL.ok.n300
    go_wp2_with fail
    go_loopw [14, 15, 16, 17] (fun vch vpe vfi vj W => ∃ (j fi pe : Nat) (hs : List Value) (ls : List (List UInt8)), j ≤ n ∧ vj = .int .i64 j ∧ vfi = .int .i64 fi ∧ vpe = .int .i64 pe ∧ Base w W sz f la vch hs ls ∧ Fill sz f la byteFn ls j ∧ Pos f la ls j fi pe) (fun _ _ _ vj _ => n - (intOf vj).toNat)
    case atStart => exact ⟨0, 0, 0, [], [], Nat.zero_le _, rfl, rfl, rfl, Base.start hL, ⟨fun c l hl => by simp at hl, fun c r p l hl => by simp at hl⟩, .inl ⟨rfl, rfl, rfl, rfl⟩⟩
    case round =>
      obtain ⟨j, fi, pe, hs, ls, hjn, rfl, rfl, rfl, hB, hF, hP⟩ := hrel
      by_cases hjl : j < n
      · have hnc : hs.length ≤ j + 1 := by rw [hB.hl]; exact hP.count
        have hpe := hP.small hla
        obtain ⟨nc, hncE⟩ : ∃ nc, hs.length = nc := ⟨_, rfl⟩
        obtain ⟨ach, cch, hvch⟩ := hB.ch.form2
        rw [hncE] at hvch hnc
        subst hvch
        obtain ⟨hc0, hc1, hc2⟩ := hB.cells
        have hnews := hP.new
        rw [← hB.hl, hncE] at hnews
        have HN := hide hncE
        have HB := hide hB
        have HF := hide hF
        have HP := hide hP
        have HL := hide hL
        clear hncE hB hF hP hL
        go_upto_region 15 with fail
        go_cut [64] (fun v W => v = .bool (decide (nc = 0 ∨ fi = pe)) ∧ W = wr)
        case first =>
          by_cases h0 : nc = 0
          · have hb0 : ((nc : Int) == 0) = true := by simp [h0]
            go_wp2_with fail
            go_meet
            case rel => exact ⟨congrArg Value.bool (decide_eq_true (.inl h0)).symm, rfl⟩
          · have hb0 : ((nc : Int) == 0) = false := by simp; omega
            by_cases h1 : fi = pe
            · have hb1 : ((fi : Int) == (pe : Int)) = true := by simp; omega
              go_wp2_with fail
              go_meet
              case rel => exact ⟨congrArg Value.bool (decide_eq_true (.inr h1)).symm, rfl⟩
            · have hb1 : ((fi : Int) == (pe : Int)) = false := by simp; omega
              go_wp2_with fail
              go_meet
              case rel => exact ⟨congrArg Value.bool (decide_eq_false (by omega)).symm, rfl⟩
        case rest =>
          obtain ⟨hv, hw⟩ := hcut
          subst hv hw
          go_upto_if 64 with fail
          go_cut [14, 15, 16] (fun vch vpe vfi W => ∃ (fi pe : Nat) (hs : List Value) (h : Value) (ls : List (List UInt8)) (l : List UInt8), vfi = .int .i64 fi ∧ vpe = .int .i64 pe ∧ Base w W sz f la vch (hs ++ [h]) (ls ++ [l]) ∧ Fill sz f la byteFn (ls ++ [l]) j ∧ Plain.start f la ls.length + fi = j ∧ pe = per f la ls.length ∧ fi < pe)
          case first =>
            by_cases hnew : nc = 0 ∨ fi = pe
            · have hdn : decide (nc = 0 ∨ fi = pe) = true := decide_eq_true hnew
              have hst := hnews hnew
              have hEi : (f : Int) + (nc : Int) = ((f + nc : Nat) : Int) := by omega
              have hEb : f + nc ≤ 400 := by omega
              have HPE : Hid (per f la nc = 2 ^ min (f + nc) la) := rfl
              have hP1 := per_pos f la nc
              have hP2 := per_le f la nc hla
              have hMi : ((per f la nc : Nat) : Int) * (sz : Int) = ((per f la nc * sz : Nat) : Int) := by rw [Int.natCast_mul]
              have hMb : per f la nc * sz ≤ 1024 * 8192 := Nat.mul_le_mul hP2 hs2
              generalize hME : per f la nc * sz = M at hMi hMb
              have HM := hide hME
              clear hME
              generalize hEE : f + nc = E at hEi hEb HPE
              by_cases he : la < E
              · have hpw : (2 : Int) ^ la = ((per f la nc : Nat) : Int) := by
                  rw [HPE.out, Nat.min_eq_right (by omega)]
                  simp
                generalize hPG : per f la nc = P at *
                go_wp2_with (at_make; refine wpList_make_full_R _ rfl _ _ 24 rfl (w.heap.size + 1) 5 1 (.int .u8 0) Yba.underlying24 info5 rfl _ _ _ _ M rfl rfl (by first | rfl | omega) (by first | rfl | omega) (by omega) (by unfold maxLen; omega) (by exact HB.out.roomy) ?_)
                intro W1 ho1 hg1
                have HG := gives_lit W1 #[.slice (some ⟨wc.heap.size, 0, none⟩) M M] 24
                have hB1 := (HB.out.grown hg1).grown (World.grownBy_alloc W1 (.cells #[.slice (some ⟨wc.heap.size, 0, none⟩) M M] 24) none)
                have hro := hB1.ch
                have hroom := hB1.roomy
                clear hB1
                go_wp2_with (at_builtin; refine wpList_append_full _ rfl _ _ 22 rfl (w.heap.size + 1) 24 24 (.slice none 0 0) Yba.underlying22 info24 rfl _ hs rfl (by exact hro) _ [.slice (some ⟨wc.heap.size, 0, none⟩) M M] rfl (by exact HG) (by intro u hu; simp at hu; subst hu; rfl) (by rw [HN.out]; simp; unfold maxLen; omega) (by rw [HN.out]; simp; omega) (by exact hroom) ?_)
                intro v' W3 ho3 hg3 _ hp3
                have hB3 := HB.out.more hg1 ho1 hg3 ho3 hp3
                clear HG hro hroom ho1 hg1 ho3 hg3 hp3
                go_wp2_with fail
                go_meet
                case rel =>
                  refine ⟨0, P, hs, _, ls, List.replicate M 0, rfl, rfl, hB3, ?_, ?_, ?_, by omega⟩
                  · refine HF.out.snoc ?_ _ ?_
                    · rw [← HB.out.hl, HN.out]; exact hst
                    · rw [← HB.out.hl, HN.out, hPG, HM.out]; simp
                  · rw [← HB.out.hl, HN.out]; exact hst
                  · rw [← HB.out.hl, HN.out]; exact hPG.symm
              · have hpw : (2 : Int) ^ E = ((per f la nc : Nat) : Int) := by
                  rw [HPE.out, Nat.min_eq_left (by omega)]
                  simp
                generalize hPG : per f la nc = P at *
                go_wp2_with (at_make; refine wpList_make_full_R _ rfl _ _ 24 rfl (w.heap.size + 1) 5 1 (.int .u8 0) Yba.underlying24 info5 rfl _ _ _ _ M rfl rfl (by first | rfl | omega) (by first | rfl | omega) (by omega) (by unfold maxLen; omega) (by exact HB.out.roomy) ?_)
                intro W1 ho1 hg1
                have HG := gives_lit W1 #[.slice (some ⟨wc.heap.size, 0, none⟩) M M] 24
                have hB1 := (HB.out.grown hg1).grown (World.grownBy_alloc W1 (.cells #[.slice (some ⟨wc.heap.size, 0, none⟩) M M] 24) none)
                have hro := hB1.ch
                have hroom := hB1.roomy
                clear hB1
                go_wp2_with (at_builtin; refine wpList_append_full _ rfl _ _ 22 rfl (w.heap.size + 1) 24 24 (.slice none 0 0) Yba.underlying22 info24 rfl _ hs rfl (by exact hro) _ [.slice (some ⟨wc.heap.size, 0, none⟩) M M] rfl (by exact HG) (by intro u hu; simp at hu; subst hu; rfl) (by rw [HN.out]; simp; unfold maxLen; omega) (by rw [HN.out]; simp; omega) (by exact hroom) ?_)
                intro v' W3 ho3 hg3 _ hp3
                have hB3 := HB.out.more hg1 ho1 hg3 ho3 hp3
                clear HG hro hroom ho1 hg1 ho3 hg3 hp3
                go_wp2_with fail
                go_meet
                case rel =>
                  refine ⟨0, P, hs, _, ls, List.replicate M 0, rfl, rfl, hB3, ?_, ?_, ?_, by omega⟩
                  · refine HF.out.snoc ?_ _ ?_
                    · rw [← HB.out.hl, HN.out]; exact hst
                    · rw [← HB.out.hl, HN.out, hPG, HM.out]; simp
                  · rw [← HB.out.hl, HN.out]; exact hst
                  · rw [← HB.out.hl, HN.out]; exact hPG.symm
            · have hdn : decide (nc = 0 ∨ fi = pe) = false := decide_eq_false hnew
              go_wp2_with fail
              go_meet
              case rel => exact old_chunk HN.out HB.out HF.out HP.out hnew
          case rest =>
            clear HB HF HP HN hnews hc0 hc1 hc2 hpe hnc
            obtain ⟨fi, pe, hs, h, ls, l, rfl, rfl, hB, hF, hst, hpe, hfi⟩ := hcut
            have hpb := per_le f la ls.length hla
            have hlen : l.length = per f la ls.length * sz := hF.len ls.length l (by simp)
            have hlne : l ≠ [] := by
              intro e; subst e
              have := Nat.mul_pos (per_pos f la ls.length) (show 0 < sz by omega)
              simp at hlen
              omega
            obtain ⟨gch, capch, g, cap, rfl, hh, hcell, hle, hcap, hgb, hglt, hfr, hby⟩ := hB.chunk (c := ls.length) (l := l) (by simp) hlne
            have hhl : hs.length = ls.length := by have := hB.hl; simpa using this
            have hh2 : h = .slice (some ⟨g, 0, none⟩) l.length cap := by rw [← hhl] at hh; simpa using hh
            subst hh2
            clear hh
            have hlenE : (hs ++ [Value.slice (some ⟨g, 0, none⟩) l.length cap]).length = ls.length + 1 := by simp [hhl]
            rw [hlenE] at hB ⊢
            clear hlenE hhl
            have hcb : ls.length ≤ j := by have := start_ge f la ls.length; omega
            obtain ⟨hc0, hc1, hc2⟩ := hB.cells
            have hoffi : (fi : Int) * (sz : Int) = ((fi * sz : Nat) : Int) := by rw [Int.natCast_mul]
            have hoff : fi * sz + sz ≤ l.length := by
              rw [hlen, ← hpe]
              calc fi * sz + sz = (fi + 1) * sz := by rw [Nat.add_mul, Nat.one_mul]
                _ ≤ pe * sz := Nat.mul_le_mul_right _ hfi
            have hl24 : l.length ≤ 1024 * 8192 := by rw [hlen]; exact Nat.mul_le_mul hpb hs2
            have HX := hide hB
            have HPE := hide hpe
            have HST := hide hst
            have hpb2 : pe ≤ 1024 := by omega
            have HF := hide hF
            have HLN := hide hlen
            have hBY := hide hby
            clear hB hF hlen hby hpe hst hpb
            obtain ⟨off, hoe⟩ : ∃ off, fi * sz = off := ⟨_, rfl⟩
            rw [hoe] at hoffi hoff
            have HO := hide hoe
            clear hoe
            obtain ⟨cN, hcN⟩ : ∃ cN, ls.length = cN := ⟨_, rfl⟩
            rw [hcN] at hcb hcell ⊢
            have HCN := hide hcN
            rw [hcN] at HX
            clear hcN
            go_wp2_with fail
            go_loopw [21] (fun vp W => ∃ p : Nat, p ≤ sz ∧ vp = .int .i64 p ∧ Base w W sz f la (.slice (some ⟨gch, 0, none⟩) (cN + 1) capch) (hs ++ [.slice (some ⟨g, 0, none⟩) l.length cap]) (ls ++ [Plain.wr l off (byteFn j) p])) (fun vp _ => sz - (intOf vp).toNat)
            case atStart => exact ⟨0, Nat.zero_le _, rfl, HX.out⟩
            case round =>
              clear hc0 hc1 hc2 hcell hfr hglt HX hBY
              obtain ⟨p, hp, rfl, hB⟩ := hrel
              obtain ⟨hc0, hc1, hc2⟩ := hB.cells
              by_cases hps : p < sz
              · have hwl := wr_length l off (byteFn j) p
                obtain ⟨v0, hcv⟩ := hB.last hwl (k := off + p) (by omega)
                have hfv := hB.lastFree
                go_wp2_with fail
                refine (byte_calls j p wr (by omega) (by omega)).mono ?_
                rintro e W ⟨rfl, hW⟩
                subst hW
                go_wp2_with fail
                go_roundw
                case rel => exact ⟨p + 1, by omega, by go_num, hB.store hwl (off + p) (byteFn j p)⟩
                case measure => simp [intOf]; omega
              · have hpe : p = sz := by omega
                subst hpe
                go_wp2_with fail
                go_roundw
                case rel =>
                  refine ⟨j + 1, fi + 1, pe, hs ++ [.slice (some ⟨g, 0, none⟩) l.length cap], ls ++ [Plain.wr l off (byteFn j) p], by omega, by go_num, by go_num, rfl, hB, ?_, .inr ⟨ls.length, by simp, by have := HST.out; omega, HPE.out, by omega⟩⟩
                  rw [← HO.out]
                  exact HF.out.write HST.out (by rw [← HPE.out]; exact hfi)
                case measure => simp [intOf]; omega
      · have hje : j = n := by omega
        subst hje
        have hpe := hP.small hla
        obtain ⟨nc, hncE⟩ : ∃ nc, hs.length = nc := ⟨_, rfl⟩
        obtain ⟨ach, cch, hvch⟩ := hB.ch.form2
        rw [hncE] at hvch
        subst hvch
        obtain ⟨hc0, hc1, hc2⟩ := hB.cells
        have hread := fixed_read hL.ok hB hF hP
        rw [hncE] at hread
        have HR := hide hread
        have HOK := hide hL.ok
        have hbel := hB.bel
        have hroom := hB.roomy
        clear hread hB hF hP hL hncE
        go_wp2_with fail
        have HT := hide (heap_alloc_new wr (.cells #[.slice none 0 0, .int .u32 j, .int .i64 sz, .int .i64 f, .int .i64 la, .slice none 0 0, .slice ach nc cch, .int .i64 0, .int .i64 0] 38))
        have hgT := World.grownBy_alloc wr (.cells #[.slice none 0 0, .int .u32 j, .int .i64 sz, .int .i64 f, .int .i64 la, .slice none 0 0, .slice ach nc cch, .int .i64 0, .int .i64 0] 38) none
        generalize wr.alloc (.cells #[.slice none 0 0, .int .u32 j, .int .i64 sz, .int .i64 f, .int .i64 la, .slice none 0 0, .slice ach nc cch, .int .i64 0, .int .i64 0] 38) = wT at *
        have hT1 := hide (hgT.cell hc0 (by simp))
        have HB := hide (hbel.grown hgT (by omega) (fun k hk => by cases hk))
        have HRM := hide (Nat.le_trans hroom hgT.size)
        have HGT := hide hgT
        clear hgT hc0 hc1 hc2 hbel hroom
        obtain ⟨bt, hbt⟩ : ∃ bt, wr.heap.size = bt := ⟨_, rfl⟩
        rw [hbt] at HT ⊢
        clear hbt
        go_loopw [23] (fun v W => ∃ i : Nat, i ≤ j ∧ v = .int .i64 i ∧ wT.grownBy W none) (fun v _ => j - (intOf v).toNat)
        case atStart => exact ⟨0, Nat.zero_le _, rfl, ⟨rfl, rfl, rfl, Nat.le_refl _, fun _ _ _ => rfl⟩⟩
        case round =>
          obtain ⟨i, hi, rfl, hg⟩ := hrel
          by_cases hij : i < j
          · obtain ⟨gch, g, lc, capc, hach, hac, hcell, hle, hlc, hl24, hbytes⟩ := HR.out i hij
            have hTb := (hg.block bt (Array.getElem?_eq_some_iff.1 HT.out).1 (by simp)).trans HT.out
            have HK := hide (key_calls sz f la j i bt gch nc cch g lc capc _ _ HOK.out hij hTb rfl rfl rfl (by rw [hach]; rfl) hac (hg.cell (HGT.out.cell hcell (by simp)) (by simp)) hle hlc hl24)
            have hsz0 := hg.cell hT1.out (by simp)
            have hbytes2 : ∀ p, p < sz → wT.cell? ⟨g, atR f la i * sz + p, none⟩ = some (.int .u8 ((byteFn i p).toNat : Int)) := fun p hp => HGT.out.cell (hbytes p hp) (by simp)
            clear hbytes hcell hTb hach
            generalize atR f la i * sz = o at *
            have HBY := hide hbytes2
            have HG := hide hg
            clear hbytes2 hg
            go_wp2_with fail
            refine HK.out.mono ?_
            rintro e W ⟨rfl, hgk⟩
            have hg2 := grown_trans HG.out hgk
            have hsz1 := hg2.cell hT1.out (by simp)
            have HG2 := hide hg2
            clear HK HG hg2 hgk hsz0
            go_wp2_with fail
            go_loopw [25] (fun v W => ∃ p : Nat, p ≤ sz ∧ v = .int .i64 p ∧ wT.grownBy W none) (fun v _ => sz - (intOf v).toNat)
            case atStart => exact ⟨0, Nat.zero_le _, rfl, HG2.out⟩
            case round =>
              clear hsz1
              obtain ⟨p, hp, rfl, hg⟩ := hrel
              have hsz1 := hg.cell hT1.out (by simp)
              by_cases hps : p < sz
              · have hcb := hg.cell (HBY.out p hps) (by simp)
                have HG := hide hg
                clear hg
                go_wp2_with fail
                go_quiet ((go_at_call 7; exact Calls.quiet_of_same (byte_calls i p _ (by omega) (by omega))))
                go_wp2_with fail
                go_roundw
                case rel => exact ⟨p + 1, by omega, by go_num, ⟨HG.out.os, HG.out.tape, HG.out.output, HG.out.size, HG.out.block⟩⟩
                case measure => simp [intOf]; omega
              · have HG := hide hg
                clear hg
                go_wp2_with fail
                go_roundw
                case rel => exact ⟨i + 1, by omega, by go_num, HG.out⟩
                case measure => simp [intOf]; omega
          · have HG := hide hg
            clear hg
            go_wp2_with fail
            go_ret
            exact ⟨rfl, HB.out.grown HG.out (by have := HRM.out; omega) (fun k hk => by cases hk)⟩
end Go.Proofs.Ybulkckok
