import Derived.Test.YbulkckeeAppend
import Derived.Deep.WholeRow
import Derived.Deep.Cut
import Derived.ChangeOld
import Derived.Below
namespace Go.Proofs.Ybulkckee
open Go.ChangeShapes Go.WideShapes Go.ChangeAt Go.RowKit

/-- is the byte k among l -/
def memb (l : List UInt8) (k : Nat) : Bool := l.any fun c => c.toNat == k

theorem memb_snoc (l : List UInt8) (c : UInt8) (k : Nat) : memb (l ++ [c]) k = (memb l k || c.toNat == k) := by simp [memb]
theorem memb_at (s : ByteArray) (k : Nat) (h : k < s.size) : memb s.data.toList s[k].toNat = true := by
  unfold memb
  rw [List.any_eq_true]
  exact ⟨s[k], by have : s[k] = s.data.toList[k]'(by simpa using h) := rfl
                  rw [this]; exact List.getElem_mem _, by simp⟩

set_option maxHeartbeats 400000 in
theorem cin_calls (m : ByteArray) (p : UInt8) (w : World) (hs : m.size ≤ maxLen) :
    Calls Yba.prog 6 #[.string m, .int .u8 p.toNat] w fun e w' => e = .returned (.bool (memb m.data.toList p.toNat)) ∧ w' = w := by
  unfold maxLen at hs
  go_enter Yba.func6, Yba.ntmps6
  go_wp2
  go_loop [5] (fun i => ∃ k : Nat, k ≤ m.size ∧ i = .int .i64 k ∧ memb (m.data.toList.take k) p.toNat = false) (fun i => m.size - (intOf i).toNat)
  case atStart => exact ⟨0, Nat.zero_le _, rfl, rfl⟩
  case round =>
    obtain ⟨k, hk, rfl, hh⟩ := hrel
    have HH := hide hh
    clear hh
    by_cases hlt : k < m.size
    · have hts := hide (take_snoc m k hlt)
      cases hg : (m[k].toNat == p.toNat)
      · have hfin : Hid (memb (m.data.toList.take (k + 1)) p.toNat = false) := by
          show _ = false
          rw [hts.out, memb_snoc, HH.out, hg]; rfl
        have hg2 : ((m[k].toNat : Int) == (p.toNat : Int)) = false := by simp at hg ⊢; omega
        clear hg
        go_wp2
        go_round
        case rel => exact ⟨k + 1, by omega, by go_num, hfin.out⟩
        case measure => simp [intOf]; omega
      · have hfin : Hid (memb m.data.toList p.toNat = true) := by
          show _ = true
          rw [← (by simpa using hg : m[k].toNat = p.toNat)]; exact memb_at m k hlt
        have hg2 : ((m[k].toNat : Int) == (p.toNat : Int)) = true := by simp at hg ⊢; omega
        clear hg
        go_wp2
        go_ret
        exact ⟨by rw [hfin.out]; rfl, rfl⟩
    · have hfin : Hid (memb m.data.toList p.toNat = false) := by
        show _ = false
        rw [← HH.out, List.take_of_length_le (by simp; omega)]
      go_wp2
      go_ret
      exact ⟨by rw [hfin.out]; rfl, rfl⟩

/-- the zero array, behind a name -/
def zeros : Array Value := Array.replicate 256 (.bool false)
theorem zeros_at (k : Nat) (h : k < 256) : zeros[k]? = some (.bool false) := by unfold zeros; simp [h]
theorem zval23 (w : World) : (zeroValue 23).run Yba.prog w = .ok (.agg zeros) w :=
  (zero_of_info (n := 256) (by kernel_rfl)).1 w

/-- What is known of a world in mid-walk: the set's block, nothing old turned. -/
def St (w W : World) (l : List UInt8) : Prop :=
  ∃ cur : Array Value, W.heap[w.heap.size]? = some (.cells cur 23) ∧ (∀ k, k < 256 → cur[k]? = some (.bool (memb l k))) ∧ Below w.heap.size w W ∧ w.heap.size < W.heap.size

theorem St.start (w : World) : St w (w.alloc (.cells zeros 23)) [] :=
  ⟨zeros, heap_alloc_new w _, fun k hk => by rw [zeros_at k hk]; rfl, (Below.refl _ _).alloc (Nat.le_refl _) _, by simp⟩

theorem St.set {w W : World} {l : List UInt8} (h : St w W l) (c : UInt8) : St w (W.setCell ⟨w.heap.size, c.toNat, none⟩ (.bool true)) (l ++ [c]) := by
  obtain ⟨cur, hg, hc, hb, hs⟩ := h
  refine ⟨_, heap_setCell_same W _ c.toNat cur 23 _ hg, fun k hk => ?_, hb.setCell (Nat.le_refl _) _, by simpa [World.setCell] using hs⟩
  rw [Array.getElem?_setIfInBounds, memb_snoc]
  by_cases hck : c.toNat = k
  · subst hck
    have : c.toNat < cur.size := by
      have := hc c.toNat hk
      exact (Array.getElem?_eq_some_iff.1 this).1
    simp [this]
  · simp [hck, hc k hk]

theorem St.cell {w W : World} {l : List UInt8} (h : St w W l) (k : Nat) (hk : k < 256) : W.cell? ⟨w.heap.size, k, none⟩ = some (.bool (memb l k)) := by
  obtain ⟨cur, hg, hc, hb, hs⟩ := h
  rw [cell_of_row W _ k cur 23 (0, 0) hg, hc k hk]

theorem St.frozen {w W : World} {l : List UInt8} (h : St w W l) (k : Nat) : W.frozen? ⟨w.heap.size, k, none⟩ = false := by
  obtain ⟨cur, hg, hc, hb, hs⟩ := h
  exact frozen_of_row W _ k cur 23 hg

theorem St.drewN {w W : World} {l : List UInt8} (h : St w W l) (n : Nat) : St w (W.drewN n) l := by
  obtain ⟨cur, hg, hc, hb, hs⟩ := h
  exact ⟨cur, hg, hc, below_drewN hb n, hs⟩

theorem St.grown {w W W' : World} {l : List UInt8} {row : Option Nat} (h : St w W l) (hgr : W.grownBy W' row) (hr : ∀ k, row = some k → w.heap.size + 1 ≤ k) : St w W' l := by
  obtain ⟨cur, hg, hc, hb, hs⟩ := h
  refine ⟨cur, ?_, hc, hb.grown hgr (by omega) (fun k hk => by have := hr k hk; omega), by have := hgr.size; omega⟩
  rw [hgr.block _ hs (fun e => by have := hr _ e.symm; omega), hg]

theorem St.alloc {w W : World} {l : List UInt8} (h : St w W l) (o : Obj) : St w (W.alloc o) l :=
  h.grown (World.grownBy_alloc W o none) (fun k hk => by cases hk)

theorem St.below {w W : World} {l : List UInt8} (h : St w W l) : Below w.heap.size w W := by
  obtain ⟨cur, hg, hc, hb, hs⟩ := h
  exact hb
theorem St.size {w W : World} {l : List UInt8} (h : St w W l) : w.heap.size + 1 ≤ W.heap.size := by
  obtain ⟨cur, hg, hc, hb, hs⟩ := h
  exact hs

theorem holds_of_mem (m l : List UInt8) (h : ∀ c ∈ l, c ∈ m) : holds (memb m) l = true := by
  unfold holds
  rw [List.all_eq_true]
  intro c hc
  unfold memb
  rw [List.any_eq_true]
  exact ⟨c, h c hc, by simp⟩
theorem holds_snoc (m l : List UInt8) (c : UInt8) (h : ∀ c ∈ l, c ∈ m) : holds (memb m) (l ++ [c]) = memb m c.toNat := by
  have := holds_of_mem m l h
  unfold holds at this ⊢
  rw [List.all_append, this]; simp
theorem holds_cons (m l : List UInt8) (c : UInt8) (h : ∀ c ∈ l, c ∈ m) : holds (memb m) ([c] ++ l) = memb m c.toNat := by
  have := holds_of_mem m l h
  unfold holds at this ⊢
  rw [List.all_append, this]; simp

/-- HoldsAll at bytes that lie in memory as a row of the call's own -/
theorem holds_at (m l : List UInt8) (w W : World) (hst : St w W m) (hl : l.length ≤ maxLen) (r : Bool) (hr : holds (memb m) l = r) :
    Calls Yba.prog 5 #[.pointer (some ⟨w.heap.size, 0, none⟩), .string ⟨l.toArray⟩] W fun e w' => e = .returned (.bool r) ∧ ∃ n, w' = W.drewN n := by
  subst hr
  exact holds_calls (memb m) ⟨l.toArray⟩ w.heap.size W (by simpa [ByteArray.size] using hl) fun k hk => hst.cell k hk

theorem rem_byte (b n : Nat) (hb : b < 256) : (wrap64 (b : Int)).tmod (n : Int) = ((b % n : Nat) : Int) := by
  have : wrap64 (b : Int) = b := by unfold wrap64; omega
  rw [this, ← Int.ofNat_tmod]

theorem getElem_mem_data (m : ByteArray) (q : Nat) (h : q < m.size) : m[q] ∈ m.data.toList := by
  have : m[q] = m.data.toList[q]'(by simpa using h) := rfl
  rw [this]; exact List.getElem_mem _

set_option maxRecDepth 100000 in
set_option maxHeartbeats 1000000 in
theorem members_walk (m s : ByteArray) (p : UInt8) (w : World) (h1 : m.size ≤ 4096) (h2 : s.size ≤ 4096) :
    Calls Yba.prog 4 #[.string m, .string s, .int .u8 p.toNat] w fun e w' => e = .returned (.bool true) ∧ Below w.heap.size w w' := by
  have z23 := zval23
  have hd1 : decide ((4096 : Int) < (s.size : Int)) = false := decide_eq_false (by omega)
  have hd2 : decide ((4096 : Int) < (m.size : Int)) = false := decide_eq_false (by omega)
  go_enter Yba.func4, Yba.ntmps4
  go_wp2
  go_loopw [8] (fun i wr => ∃ k : Nat, k ≤ m.size ∧ i = .int .i64 k ∧ St w wr (m.data.toList.take k)) (fun i _ => m.size - (intOf i).toNat)
  case atStart => exact ⟨0, Nat.zero_le _, rfl, St.start w⟩
  case round =>
    obtain ⟨k, hk, rfl, hst⟩ := hrel
    by_cases hlt : k < m.size
    · have hc := hst.cell m[k].toNat (by have := m[k].toNat_lt; omega)
      have hf := hst.frozen m[k].toNat
      have hu : (m[k].toNat : Int) < 256 := by have := m[k].toNat_lt; omega
      have hts := hide (take_snoc m k hlt)
      go_wp2
      go_roundw
      case rel => exact ⟨k + 1, by omega, by go_num, by rw [hts.out]; exact hst.set _⟩
      case measure => simp [intOf]; omega
    · have hkk : m.data.toList.take k = m.data.toList := List.take_of_length_le (by simp; omega)
      rw [hkk] at hst
      clear hkk
      go_upto_if 33 with fail
      go_cut [9, 10] from 13 (fun v _ W => ∃ (l : List UInt8), l.length ≤ s.size ∧ (∀ c ∈ l, c ∈ m.data.toList) ∧ St w W m.data.toList ∧ W.ownsRow (w.heap.size + 1) 5 1 v l.length (bc l))
      case first =>
        by_cases hm : m.size = 0
        · have hm0 : ¬ (0 < m.size) := by omega
          clear hm
          go_wp2_with fail
          go_meet
          case rel => exact ⟨[], Nat.zero_le _, by simp, hst, World.ownsRow_nil wr (w.heap.size + 1) 5 1⟩
        · have hm0 : 0 < m.size := by omega
          have hmd : decide (0 < m.size) = true := decide_eq_true hm0
          rw [hmd]
          go_wp2_with fail
          go_loopw [9, 10] (fun v i W => ∃ (l : List UInt8), l.length ≤ s.size ∧ i = .int .i64 l.length ∧ (∀ c ∈ l, c ∈ m.data.toList) ∧ St w W m.data.toList ∧ W.ownsRow (w.heap.size + 1) 5 1 v l.length (bc l)) (fun _ i _ => s.size - (intOf i).toNat)
          case atStart => exact ⟨[], Nat.zero_le _, rfl, by simp, hst, World.ownsRow_nil _ _ _ _⟩
          case round =>
            obtain ⟨l, hl, rfl, hall, hst, hown⟩ := hrel
            by_cases hlt : l.length < s.size
            · have hrb := rem_byte s[l.length].toNat m.size (by have := s[l.length].toNat_lt; omega)
              have hq : s[l.length].toNat % m.size < m.size := Nat.mod_lt _ (by omega)
              generalize s[l.length].toNat % m.size = q at hrb hq
              go_wp2_with (at_builtin; refine wp_app _ rfl _ _ rfl (w.heap.size + 1) wr.heap.size u9 l rfl (by exact hown.alloc _) _ [m[q]] rfl (by exact lit_own wr _ (Nat.le_refl _) m[q]) (by simp; omega) (by have := hst.size; simp; omega) ?_)
              intro v' W2 hu hgr hv
              have hst2 : St w W2 m.data.toList := (hst.alloc _).grown hgr fun k hk => (hown.lt k hk).1
              clear hgr hv hst hown hrb
              go_wp2_with fail
              go_roundw
              case rel =>
                have hall2 : ∀ c ∈ l ++ [m[q]], c ∈ m.data.toList := by
                  intro c hc
                  rcases List.mem_append.1 hc with h | h
                  · exact hall c h
                  · rw [List.mem_singleton.1 h]; exact getElem_mem_data m q hq
                have hlen : (l ++ [m[q]]).length = l.length + 1 := by simp
                exact ⟨l ++ [m[q]], by omega, by rw [hlen]; go_num, hall2, hst2, by rw [hlen]; exact hu⟩
              case measure => simp [intOf]; omega
            · go_wp2_with fail
              go_meet
              case rel => exact ⟨l, hl, hall, hst, hown⟩
      case rest =>
        clear hst
        obtain ⟨l, hl, hall, hst, hown⟩ := hcut
        have hconv := run_conv hown
        go_wp2_with fail
        refine (holds_at m.data.toList l w _ hst (by unfold maxLen; omega) true (holds_of_mem _ _ hall)).mono ?_
        rintro e W1 ⟨rfl, hW1⟩
        have hst1 : St w W1 m.data.toList := by obtain ⟨n, rfl⟩ := hW1; exact hst.drewN n
        have hown1 : W1.ownsRow (w.heap.size + 1) 5 1 u9 l.length (bc l) := by obtain ⟨n, rfl⟩ := hW1; exact hown
        clear hW1 hconv hst hown
        go_wp2_with (at_builtin; refine wp_app _ rfl _ _ rfl (w.heap.size + 1) W1.heap.size u9 l rfl (by exact hown1.alloc _) _ [p] rfl (by exact lit_own W1 _ (Nat.le_refl _) p) (by simp; omega) (by have := hst1.size; simp; omega) ?_)
        intro u W2 hu hgr hv
        have hst2 : St w W2 m.data.toList := (hst1.alloc _).grown hgr fun k hk => (hown1.lt k hk).1
        have hconv2 := run_conv (l := l ++ [p]) (by simpa using hu)
        clear hgr hown1 hst1
        go_wp2_with fail
        refine (holds_at m.data.toList (l ++ [p]) w _ hst2 (by unfold maxLen; simp; omega) (memb m.data.toList p.toNat) (holds_snoc _ _ _ hall)).mono ?_
        rintro e W3 ⟨rfl, hW3⟩
        have hst3 : St w W3 m.data.toList := by obtain ⟨n, rfl⟩ := hW3; exact hst2.drewN n
        have hown3 : W3.ownsRow (w.heap.size + 1) 5 1 u9 l.length (bc l) := by obtain ⟨n, rfl⟩ := hW3; exact hv
        clear hW3 hconv2 hst2 hv hu
        go_wp2_with fail
        refine (cin_calls m p _ (by unfold maxLen; omega)).mono ?_
        rintro e W4 ⟨rfl, hW4⟩
        subst hW4
        go_wp2_with (at_builtin; refine wp_app _ rfl _ _ rfl (w.heap.size + 1) (w.heap.size + 1) _ [p] rfl (by exact lit_own _ _ hst3.size p) u9 l rfl (by exact hown3.alloc _) (by simp; omega) (by have := hst3.size; simp; omega) ?_)
        intro x W5 hx hgr hv
        have hst5 : St w W5 m.data.toList := (hst3.alloc _).grown hgr fun k hk => by
          have h4 := hst3.size
          simp [Value.ownBlock] at hk
          omega
        have hconv5 := run_conv (l := [p] ++ l) (by simpa [Nat.add_comm] using hx)
        clear hgr hown3 hst3 hv
        go_wp2_with fail
        refine (holds_at m.data.toList ([p] ++ l) w _ hst5 (by unfold maxLen; simp; omega) (memb m.data.toList p.toNat) (holds_cons _ _ _ hall)).mono ?_
        rintro e W6 ⟨rfl, hW6⟩
        have hst6 : St w W6 m.data.toList := by obtain ⟨n, rfl⟩ := hW6; exact hst5.drewN n
        clear hW6 hconv5 hst5 hx
        go_wp2_with fail
        refine (cin_calls m p _ (by unfold maxLen; omega)).mono ?_
        rintro e W7 ⟨rfl, hW7⟩
        subst hW7
        go_wp2_with fail
        go_ret
        exact ⟨by simp, hst6.below⟩
end Go.Proofs.Ybulkckee
