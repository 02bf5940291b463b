import Derived.Test.YbulkckeeHolds
import Derived.Deep.WholeRow
import Derived.ChangeKeysEq
import Derived.WalkSmall
namespace Go.Proofs.Ybulkckee
open Go.ChangeShapes Go.WideShapes Go.ChangeAt Go.RowKit

theorem cells22 : Yba.prog.cellsOf 22 = 256 := by kernel_rfl
theorem cells4 : Yba.prog.cellsOf 4 = 1 := by kernel_rfl
theorem info4 : (Yba.prog.info? 4).isSome = true := by kernel_rfl
theorem plain4 : Yba.prog.plainKey 4 = true := by kernel_rfl
theorem guard22 : Yba.prog.eqGuardType Yba.prog.depth 22 = false := by kernel_rfl
theorem size22 : (Yba.prog.info? 22).map (·.size) = some 256 := by kernel_rfl
theorem size23 : (Yba.prog.info? 23).map (·.size) = some 256 := by kernel_rfl

/-- the zero array, behind a name -/
def zeroSet : Array Value := Array.replicate 256 (.bool false)
theorem zeroSet_size : zeroSet.size = 256 := by unfold zeroSet; simp
theorem zero23 (w : World) : (zeroValue 23).run Yba.prog w = .ok (.agg zeroSet) w :=
  (zero_of_info (n := 256) (by kernel_rfl)).1 w

theorem run_eqItems_same (w : World) (d : Nat) (xs : Array Value) : ∀ (is : List Nat), (∀ i ∈ is, ∃ b, xs[i]? = some (.bool b)) →
    (Op.eqItems (d + 1) 4 1 xs xs is).run Yba.prog w = .ok true w
  | [], _ => by simp [Op.eqItems]
  | i :: is, h => by
    obtain ⟨b, hb⟩ := h i (by simp)
    have p := run_part_plain (P := Yba.prog) w plain4 hb
    have ih := run_eqItems_same w d xs is fun j hj => h j (by simp [hj])
    simp [Op.eqItems, Sem.run_bind, p, run_equalIn_bool w d 4 b b Yba.underlying4, ih]

theorem run_same22 (w : World) (xs : Array Value) (h : ∀ i, i < 256 → ∃ b, xs[i]? = some (.bool b)) :
    (Op.equalIn 10000 22 (.agg xs) (.agg xs)).run Yba.prog w = .ok true w := by
  cases hi : Yba.prog.info? 4 with
  | none => have := info4; rw [hi] at this; cases this
  | some i =>
    have := run_equalIn_array (P := Yba.prog) w 9999 xs xs Yba.underlying22 hi
    rw [cells4, run_eqItems_same w 9998 xs _ fun i hi => h i (by simpa using hi)] at this
    exact this

/-- how many bytes lie in the set -/
def cnt (g : Nat → Bool) (l : List UInt8) : Nat := l.countP fun c => g c.toNat
theorem cnt_le (g : Nat → Bool) (l : List UInt8) : cnt g l ≤ l.length := List.countP_le_length
theorem cnt_snoc (g : Nat → Bool) (l : List UInt8) (c : UInt8) : cnt g (l ++ [c]) = cnt g l + if g c.toNat then 1 else 0 := by
  simp [cnt, List.countP_append, List.countP_cons]
theorem holds_cnt (g : Nat → Bool) (l : List UInt8) : holds g l = decide (cnt g l = l.length) := by
  simp only [holds, cnt]
  rw [Bool.eq_iff_iff]
  simp [List.countP_eq_length]

theorem cell_row (w : World) (b : Nat) (cs : Array Value) (t : TypeId) (fr : Nat × Nat) (g : Nat → Bool) (hg : w.heap[b]? = some (.cells cs t fr))
    (hb : ∀ k, k < 256 → cs[k]? = some (.bool (g k))) (k : Nat) (hk : k < 256) : w.cell? ⟨b, k, none⟩ = some (.bool (g k)) := by
  rw [cell_of_row w b k cs t fr hg, hb k hk]

theorem count_world (w : World) (cs z : Array Value) :
    (((w.alloc (.cells cs 22)).alloc (.cells z 23)).setRow (w.heap.size + 1) cs).heap[w.heap.size + 1]? = some (.cells cs 23) ∧
    (((w.alloc (.cells cs 22)).alloc (.cells z 23)).setRow (w.heap.size + 1) cs).heap[w.heap.size]? = some (.cells cs 22) ∧
    Below w.heap.size w (((w.alloc (.cells cs 22)).alloc (.cells z 23)).setRow (w.heap.size + 1) cs) := by
  refine ⟨setRow_heap _ _ _ _ _ _ (heap_alloc2_new w _ _), ?_, ?_⟩
  · rw [setRow_other _ _ _ _ (by omega)]; exact heap_alloc2_old w _ _
  · refine (((Below.refl w.heap.size w).alloc (Nat.le_refl _) (.cells cs 22)).alloc (by simp) (.cells z 23)).trans ⟨rfl, rfl, rfl, by simp, fun k hk => ?_⟩
    rw [setRow_other _ _ _ _ (by omega)]

set_option maxRecDepth 100000 in
set_option maxHeartbeats 400000 in
theorem count_walk (g : Nat → Bool) (cs : Array Value) (s : ByteArray) (w : World) (hs : s.size ≤ maxLen) (hsz : cs.size = 256)
    (hb : ∀ k, k < 256 → cs[k]? = some (.bool (g k))) :
    Calls Yba.prog 3 #[.agg cs, .string s] w fun e w' => e = .returned (.bool true) ∧ Below w.heap.size w w' := by
  have hs' := hs
  unfold maxLen at hs
  have hone : cs.all (·.oneCell') = true := by
    rw [Array.all_eq_true]; intro i hi
    have := hb i (by omega)
    rw [Array.getElem?_eq_getElem hi] at this
    injection this with this
    rw [this]; rfl
  have h1 := heap_alloc_last w (.cells cs 22)
  have h2 := heap_alloc2_new w (.cells cs 22) (.cells zeroSet 23)
  have z23 := zero23
  have HS22 : Hid ((Yba.prog.info? 22).map (·.size) = some cs.size) := by rw [hsz]; exact size22
  have HS23 : Hid ((Yba.prog.info? 23).map (·.size) = some cs.size) := by rw [hsz]; exact size23
  have HZ : Hid (zeroSet.size = cs.size) := by rw [hsz]; exact zeroSet_size
  have HB : Hid (∀ k, k < 256 → cs[k]? = some (.bool (g k))) := hb
  have HSZ : Hid (cs.size = 256) := hsz
  clear hb hsz
  go_enter Yba.func3, Yba.ntmps3
  go_wp2_with (first | (refine wpList_load_row rfl 22 _ rfl _ rfl 22 cs (0, 0) _ (heap_alloc_last w _) Yba.underlying22 rfl HS22.out ?_) | (refine wpList_store_row rfl 23 _ _ rfl (w.heap.size + 1) cs rfl rfl 23 zeroSet h2 HS23.out HZ.out hone ?_) | fail)
  obtain ⟨hrow, hrow0, hbel⟩ := count_world w cs zeroSet
  refine (holds_calls g s (w.heap.size + 1) _ hs' (cell_row _ _ cs 23 (0, 0) g hrow HB.out)).mono ?_
  rintro e W ⟨rfl, hW⟩
  have HA : W.heap[w.heap.size]? = some (.cells cs 22) := by obtain ⟨n, rfl⟩ := hW; exact hrow0
  have HC : W.heap[w.heap.size + 1]? = some (.cells cs 23) := by obtain ⟨n, rfl⟩ := hW; exact hrow
  have HBl : Below w.heap.size w W := by obtain ⟨n, rfl⟩ := hW; exact below_drewN hbel n
  clear hW hbel hrow0 hrow h1 h2
  have hcell := cell_row W _ cs 22 (0, 0) g HA HB.out
  go_wp2_with fail
  go_loop [7, 8] (fun n i => ∃ k : Nat, k ≤ s.size ∧ i = .int .i64 k ∧ n = .int .i64 (cnt g (s.data.toList.take k))) (fun _ i => s.size - (intOf i).toNat)
  case atStart => exact ⟨0, Nat.zero_le _, rfl, rfl⟩
  case round =>
    obtain ⟨k, hk, rfl, rfl⟩ := hrel
    have hle := cnt_le g (s.data.toList.take k)
    have hl : (s.data.toList.take k).length ≤ k := List.length_take_le _ _
    by_cases hlt : k < s.size
    · have hcc := hcell s[k].toNat (by have := s[k].toNat_lt; omega)
      have hu : (s[k].toNat : Int) < 256 := by have := s[k].toNat_lt; omega
      have hsn : Hid (cnt g (s.data.toList.take (k + 1)) = cnt g (s.data.toList.take k) + if g s[k].toNat then 1 else 0) := by
        show _ = _
        rw [take_snoc s k hlt, cnt_snoc]
      generalize cnt g (s.data.toList.take k) = c at *
      cases hg : g s[k].toNat
      · rw [hg] at hcc
        have HG := hide hg
        clear hg
        go_wp2
        go_round
        case rel => exact ⟨k + 1, by omega, by go_num, by rw [hsn.out, HG.out]; simp⟩
        case measure => simp [intOf]; omega
      · rw [hg] at hcc
        have HG := hide hg
        clear hg
        go_wp2
        go_round
        case rel => exact ⟨k + 1, by omega, by go_num, by rw [hsn.out, HG.out]; simp⟩
        case measure => simp [intOf]; omega
    · have hkk : s.data.toList.take k = s.data.toList := List.take_of_length_le (by simp; omega)
      rw [hkk] at *
      have HH := hide (holds_cnt g s.data.toList)
      have hlen : s.data.toList.length = s.size := by simp
      have heq := fun w => run_same22 w cs fun i hi => ⟨_, HB.out i hi⟩
      have hgd := guard22
      by_cases hcs : cnt g s.data.toList = s.size
      · have hh : holds g s.data.toList = true := by rw [HH.out]; simp [hcs]
        have hc2 : ((cnt g s.data.toList : Int) == (s.size : Int)) = true := by simp [hcs]
        clear hcs hle hlen
        go_wp2_with (first | (refine wpList_load_row rfl 22 _ rfl _ rfl 22 cs (0, 0) _ HA Yba.underlying22 rfl HS22.out ?_) | (refine wpList_load_row rfl 23 _ rfl _ rfl 23 cs (0, 0) _ HC Yba.underlying23 rfl HS23.out ?_) | fail)
        go_ret
        exact ⟨rfl, HBl⟩
      · have hh : holds g s.data.toList = false := by rw [HH.out]; simp [hcs]
        have hc2 : ((cnt g s.data.toList : Int) == (s.size : Int)) = false := by simp; omega
        clear hcs hle hlen
        go_wp2_with (first | (refine wpList_load_row rfl 22 _ rfl _ rfl 22 cs (0, 0) _ HA Yba.underlying22 rfl HS22.out ?_) | (refine wpList_load_row rfl 23 _ rfl _ rfl 23 cs (0, 0) _ HC Yba.underlying23 rfl HS23.out ?_) | fail)
        go_ret
        exact ⟨rfl, HBl⟩

end Go.Proofs.Ybulkckee
