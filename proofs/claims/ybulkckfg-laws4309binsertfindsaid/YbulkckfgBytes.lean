import Derived.Test.YbulkckfgOwn
import Derived.Laws.BitsAllLaws
namespace Go.Proofs.Ybulkckfg
open Go.ChangeShapes Go.WideShapes Go.ChangeAt Go.RowKit

theorem grown_trans {w X W : World} {row : Option Nat} (h0 : w.grownBy X row) (h : X.grownBy W row) : w.grownBy W row :=
  ⟨h.os.trans h0.os, h.tape.trans h0.tape, h.output.trans h0.output, Nat.le_trans h0.size h.size, fun k hk hne => (h.block k (Nat.lt_of_lt_of_le hk h0.size) hne).trans (h0.block k hk hne)⟩
theorem Place.later {w X : World} {v v' : Value} (h : Place X v v') (hs : w.heap.size ≤ X.heap.size) : Place w v v' := by
  rcases h with h | h | ⟨k, h1, h2⟩
  · exact .inl h
  · exact .inr (.inl h)
  · exact .inr (.inr ⟨k, h1, by omega⟩)
theorem Place.trans {w X : World} {v v1 v2 : Value} (h1 : Place w v v1) (h2 : Place X v1 v2) (hs : w.heap.size ≤ X.heap.size) : Place w v v2 := by
  rcases h2 with h | h | ⟨k, hk, hx⟩
  · exact .inl h
  · rcases h1 with g | g | ⟨k, hk, hx⟩
    · exact .inl (h.trans g)
    · exact .inr (.inl (h.trans g))
    · exact .inr (.inr ⟨k, h.trans hk, hx⟩)
  · exact .inr (.inr ⟨k, hk, by omega⟩)

theorem info5 : (Yba.prog.info? 5).map (fun i => (i.zero, i.size, i.bytes)) = some (some (.int .u8 0), 1, 1) := by kernel_rfl
theorem info24 : (Yba.prog.info? 24).map (fun i => (i.zero, i.size, i.bytes)) = some (some (.int .u64 0), 1, 8) := by kernel_rfl
theorem info26 : (Yba.prog.info? 26).map (fun i => (i.zero, i.size, i.bytes)) = some (some (.slice none 0 0), 1, 24) := by kernel_rfl

/-- a literal slice gives its cells -/
theorem gives_lit (w : World) (cs : Array Value) (e : TypeId) : Gives (w.alloc (.cells cs e)) (.slice (some ⟨w.heap.size, 0, none⟩) cs.size cs.size) cs.toList :=
  ⟨some ⟨w.heap.size, 0, none⟩, cs.size, by simp, (fun h => by cases h), fun j u hu => ⟨_, rfl, by
    rw [addr_add, Nat.zero_add, cell_of_row _ _ j cs e (0, 0) (heap_alloc_new w _)]
    simpa using hu⟩⟩

/-- byte b of x, little end first -/
def byteOf (x : Int) : UInt8 := UInt8.ofNat (x % 256).toNat
theorem byteOf_val (x : Int) : ((byteOf x).toNat : Int) = x % 256 := by
  unfold byteOf
  have h : (UInt8.ofNat (x % 256).toNat).toNat = (x % 256).toNat % 256 := by simp
  omega

def le8 (h : Int) : List UInt8 := [byteOf h, byteOf (h / 256), byteOf (h / 65536), byteOf (h / 16777216), byteOf (h / 4294967296), byteOf (h / 1099511627776), byteOf (h / 281474976710656), byteOf (h / 72057594037927936)]
theorem le8_length (h : Int) : (le8 h).length = 8 := rfl

theorem le8_cells (h : Int) (h0 : 0 ≤ h) (h1 : h ≤ 18446744073709551615) :
    bc (le8 h) = [.int .u8 (h % 256), .int .u8 (h / 256 % 256), .int .u8 (h / 65536 % 256), .int .u8 (h / 16777216 % 256), .int .u8 (h / 4294967296 % 256), .int .u8 (h / 1099511627776 % 256), .int .u8 (h / 281474976710656 % 256), .int .u8 (h / 72057594037927936)] := by
  simp only [bc, le8, List.map_cons, List.map_nil, byteOf_val]
  rw [show h / 72057594037927936 % 256 = h / 72057594037927936 from by omega]

set_option maxRecDepth 100000 in
set_option maxHeartbeats 1000000 in
theorem app64 (v : Value) (l : List UInt8) (h : Int) (w : World) (base : Nat) (h0 : 0 ≤ h) (h1 : h ≤ 18446744073709551615) (hown : OwnR w base 5 v (bc l)) (hl : l.length ≤ 1000000) (hbase : base ≤ w.heap.size) :
    Calls Yba.prog 7 #[.agg #[], v, .int .u64 h] w fun e w' => ∃ v', e = .returned v' ∧ OwnR w' base 5 v' (bc (l ++ le8 h)) ∧ w.grownBy w' v.ownBlock ∧ Place w v v' := by
  have HC := hide (le8_cells h h0 h1)
  have HG : Gives ((w.alloc (.cells #[] 32)).alloc (.cells #[.int .u8 (h % 256), .int .u8 (h / 256 % 256), .int .u8 (h / 65536 % 256), .int .u8 (h / 16777216 % 256), .int .u8 (h / 4294967296 % 256), .int .u8 (h / 1099511627776 % 256), .int .u8 (h / 281474976710656 % 256), .int .u8 (h / 72057594037927936)] 5)) (.slice (some ⟨w.heap.size + 1, 0, none⟩) 8 8) (bc (le8 h)) := by
    have := gives_lit (w.alloc (.cells #[] 32)) #[.int .u8 (h % 256), .int .u8 (h / 256 % 256), .int .u8 (h / 65536 % 256), .int .u8 (h / 16777216 % 256), .int .u8 (h / 4294967296 % 256), .int .u8 (h / 1099511627776 % 256), .int .u8 (h / 281474976710656 % 256), .int .u8 (h / 72057594037927936)] 5
    rw [HC.out]
    simpa using this
  go_enter Yba.func7, Yba.ntmps7
  go_wp2_with (at_builtin; refine wpList_append_full _ rfl _ _ 26 rfl base 5 1 (.int .u8 0) Yba.underlying26 info5 rfl v (bc l) rfl (by exact (hown.alloc _).alloc _) _ (bc (le8 h)) rfl (by exact HG) (bc_one _) (by rw [bc_length, bc_length, le8_length]; unfold maxLen; omega) (by rw [bc_length, bc_length, le8_length]; omega) (by simp; omega) ?_)
  intro v' w' ho hg _ hp
  go_wp2
  go_ret
  exact ⟨v', rfl, by rw [← bc_append]; exact ho, grown_trans (grown_trans (World.grownBy_alloc _ _ _) (World.grownBy_alloc _ _ _)) hg, hp.later (by simp; omega)⟩

/-! ### uvarint -/
/-- a byte, behind a name -/
def b8 (n : Nat) : UInt8 := UInt8.ofNat n
def uvF : Nat → Nat → List UInt8
  | 0, n => [b8 n]
  | f + 1, n => if n < 128 then [b8 n] else b8 (n % 128 + 128) :: uvF f (n / 128)
def uv (n : Nat) : List UInt8 := uvF n n
theorem uvF_fuel : ∀ (f g n : Nat), n ≤ f → n ≤ g → uvF f n = uvF g n
  | 0, 0, n, _, _ => rfl
  | 0, g + 1, n, h, _ => by
    have : n = 0 := by omega
    subst this
    simp [uvF]
  | f + 1, 0, n, _, h => by
    have : n = 0 := by omega
    subst this
    simp [uvF]
  | f + 1, g + 1, n, h1, h2 => by
    unfold uvF
    by_cases h : n < 128
    · simp [h]
    · simp only [h, if_false]
      rw [uvF_fuel f g (n / 128) (by omega) (by omega)]
theorem uv_lt (n : Nat) (h : n < 128) : uv n = [b8 n] := by
  unfold uv
  cases n with
  | zero => rfl
  | succ m => simp [uvF, h]
theorem uv_ge (n : Nat) (h : 128 ≤ n) : uv n = b8 (n % 128 + 128) :: uv (n / 128) := by
  unfold uv
  cases n with
  | zero => omega
  | succ m =>
    rw [uvF, if_neg (by omega)]
    rw [uvF_fuel m ((m + 1) / 128) ((m + 1) / 128) (by omega) (Nat.le_refl _)]
theorem uv_pos (n : Nat) : 0 < (uv n).length := by
  by_cases h : n < 128
  · rw [uv_lt n h]; simp
  · rw [uv_ge n (by omega)]; simp
theorem uv_len (n : Nat) (h : n < 2097152) : (uv n).length ≤ 3 := by
  by_cases h1 : n < 128
  · rw [uv_lt n h1]; simp
  · rw [uv_ge n (by omega)]
    by_cases h2 : n / 128 < 128
    · rw [uv_lt _ h2]; simp
    · rw [uv_ge _ (by omega), uv_lt _ (by omega)]; simp

theorem or128 : ∀ k : Fin 256, bits .or .u8 (k.val : Int) 128 = ((k.val % 128 + 128 : Nat) : Int) := by decide +kernel
theorem or128_at (x : Nat) : bits .or .u8 ((x : Int) % 256) 128 = ((x % 128 + 128 : Nat) : Int) := by
  have := or128 ⟨x % 256, Nat.mod_lt _ (by decide)⟩
  simp only at this
  rw [show ((x : Int) % 256) = ((x % 256 : Nat) : Int) from by omega, this]
  omega
theorem ofNat_val (n : Nat) (h : n < 256) : ((b8 n).toNat : Int) = (n : Int) := by
  have : (b8 n).toNat = n % 256 := by simp [b8]
  omega

theorem grown_place {w X W : World} {v v1 : Value} (h0 : w.grownBy X v.ownBlock) (hp : Place w v v1) (h : X.grownBy W v1.ownBlock) : w.grownBy W v.ownBlock :=
  ⟨h.os.trans h0.os, h.tape.trans h0.tape, h.output.trans h0.output, Nat.le_trans h0.size h.size, fun k hk hne => by
    refine (h.block k (Nat.lt_of_lt_of_le hk h0.size) fun e => ?_).trans (h0.block k hk hne)
    rcases hp with g | g | ⟨j, g, hj⟩
    · rw [g] at e; cases e
    · exact hne (e.trans g)
    · rw [g] at e; cases e; omega⟩

theorem gives_byte (w : World) (x : Int) (n : Nat) (hn : n < 256) (hx : x = (n : Int)) : Gives (w.alloc (.cells #[.int .u8 x] 5)) (.slice (some ⟨w.heap.size, 0, none⟩) 1 1) (bc [b8 n]) := by
  have := gives_lit w #[.int .u8 x] 5
  subst hx
  simp only [bc, List.map_cons, List.map_nil]
  rw [ofNat_val n hn]
  simpa using this

set_option maxRecDepth 100000 in
set_option maxHeartbeats 1000000 in
theorem appUv (v : Value) (l : List UInt8) (n : Nat) (w : World) (base : Nat) (hn : n ≤ 1000000) (hown : OwnR w base 5 v (bc l)) (hl : l.length ≤ 1000000) (hbase : base ≤ w.heap.size) :
    Calls Yba.prog 8 #[v, .int .u64 n] w fun e w' => ∃ v', e = .returned v' ∧ OwnR w' base 5 v' (bc (l ++ uv n)) ∧ w.grownBy w' v.ownBlock ∧ Place w v v' := by
  have hul := uv_len n (by omega)
  go_enter Yba.func8, Yba.ntmps8
  go_wp2
  go_loopw [0, 1] (fun v' x wr => ∃ (done : List UInt8) (cur : Nat), Hid (done ++ uv cur = uv n) ∧ cur ≤ n ∧ done.length ≤ 3 ∧ x = .int .u64 cur ∧ OwnR wr base 5 v' (bc (l ++ done)) ∧ w.grownBy wr v.ownBlock ∧ Place w v v') (fun _ x _ => (intOf x).toNat)
  case atStart => exact ⟨[], n, rfl, Nat.le_refl _, by simp, rfl, by simpa using hown, ⟨rfl, rfl, rfl, Nat.le_refl _, fun _ _ _ => rfl⟩, .inr (.inl rfl)⟩
  case round =>
    obtain ⟨done, cur, HE, hcur, hdl, rfl, ho, hg, hp⟩ := hrel
    have hsz := hg.size
    have hll : (l ++ done).length ≤ 1000003 := by rw [List.length_append]; omega
    by_cases hlt : 128 ≤ cur
    · have hor := or128_at cur
      have hb : base ≤ wr.heap.size := by omega
      have HG := gives_byte wr (bits .or .u8 ((cur : Int) % 256) 128) (cur % 128 + 128) (by omega) hor
      have hbnd : (bc (l ++ done)).length + (bc [b8 (cur % 128 + 128)]).length ≤ 2000000 := by rw [bc_length, bc_length]; simp only [List.length_cons, List.length_nil]; omega
      clear hor
      go_wp2_with (at_builtin; refine wpList_append_full _ rfl _ _ 26 rfl base 5 1 (.int .u8 0) Yba.underlying26 info5 rfl u0 (bc (l ++ done)) rfl (by exact ho.alloc _) _ (bc [b8 (cur % 128 + 128)]) rfl (by exact HG) (bc_one _) (by unfold maxLen; omega) (by omega) (by simp; omega) ?_)
      intro v' w' ho' hg' _ hp'
      go_wp2
      go_roundw
      case rel =>
        have hd2 : (done ++ [b8 (cur % 128 + 128)]) ++ uv (cur / 128) = uv n := by
          rw [← HE.out, uv_ge cur hlt]; simp
        have hlen : (done ++ [b8 (cur % 128 + 128)]).length ≤ 3 := by
          have h1 := congrArg List.length hd2
          have h2 := uv_pos (cur / 128)
          rw [List.length_append] at h1
          omega
        refine ⟨done ++ [b8 (cur % 128 + 128)], cur / 128, hd2, by omega, hlen, by simp, ?_, ?_, ?_⟩
        · rw [← List.append_assoc, ← bc_append]; exact ho'
        · exact grown_place hg hp (grown_trans (World.grownBy_alloc _ _ _) hg')
        · exact hp.trans (hp'.later (w := wr) (by simp)) hsz
      case measure => simp [intOf]; omega
    · have hb : base ≤ wr.heap.size := by omega
      have HG := gives_byte wr ((cur : Int) % 256) cur (by omega) (by omega)
      have HG2 := gives_byte wr (cur : Int) cur (by omega) rfl
      have hbnd : (bc (l ++ done)).length + (bc [b8 cur]).length ≤ 2000000 := by rw [bc_length, bc_length]; simp only [List.length_cons, List.length_nil]; omega
      go_wp2_with (at_builtin; refine wpList_append_full _ rfl _ _ 26 rfl base 5 1 (.int .u8 0) Yba.underlying26 info5 rfl u0 (bc (l ++ done)) rfl (by exact ho.alloc _) _ (bc [b8 cur]) rfl (by first | exact HG | exact HG2) (bc_one _) (by unfold maxLen; omega) (by omega) (by simp; omega) ?_)
      intro v' w' ho' hg' _ hp'
      go_wp2
      go_ret
      refine ⟨v', rfl, ?_, ?_, ?_⟩
      · rw [← HE.out, uv_lt cur (by omega), ← List.append_assoc, ← bc_append]; exact ho'
      · exact grown_place hg hp (grown_trans (World.grownBy_alloc _ _ _) hg')
      · exact hp.trans (hp'.later (w := wr) (by simp)) hsz
end Go.Proofs.Ybulkckfg
