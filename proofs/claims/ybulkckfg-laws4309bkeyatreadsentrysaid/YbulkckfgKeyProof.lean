import Derived.Test.YbulkckfgEntry
import Derived.Test.YbulkckfgKeys
import Derived.ChangeOld
import Derived.Below
namespace Go.Proofs.Ybulkckfg.lawS4309BKeyAt
open Go.ChangeShapes Go.WideShapes Go.ChangeAt Go.RowKit Go.Deep

theorem own : ownKnob Yba.prog.godebug = none := by kernel_rfl
theorem laidOut : laidOutB Yba.prog = true := by kernel_rfl
theorem cells4 : Yba.prog.cellsOf 4 = 1 := by kernel_rfl

section
variable {H : Type} {enc : TypeId × Value → H} {W : World}
theorem breaks_open {base : Nat} {a0 : Option Addr} {len cap : Nat} {d : DataW H} {p : List MemPlace}
    (h : DataW.Trod enc Yba.prog W base (fun _ => true) true 23 (.slice a0 len cap) d p) : BrOk W (.slice a0 len cap) := by
  obtain ⟨fuel, hf⟩ := h
  rcases open_slice1 Yba.underlying23 cells4 hf with ⟨hcs, _⟩ | ⟨a, len', cap', m, n, V, D, Pl, hcs, _, hl, hm, hmm, _, hx⟩
  · simp [Value.cells] at hcs
    obtain ⟨rfl, rfl, rfl⟩ := hcs
    exact .inl ⟨none, 0, rfl⟩
  · simp [Value.cells] at hcs
    obtain ⟨rfl, rfl, rfl⟩ := hcs
    simp only [if_true] at hmm
    subst hmm
    by_cases h0 : len = 0
    · subst h0
      exact .inl ⟨some a, m, rfl⟩
    · right
      obtain ⟨kb, ko, spot⟩ := a
      have hsp := (hx 0 (by omega)).1
      have hspot : spot = none := by simpa [Addr.add] using World.cell?_spot hsp
      subst hspot
      refine ⟨kb, ko, len, m, fun i => match V i with | .bool b => b | _ => false, rfl, by omega, by omega, fun j hj => ?_⟩
      obtain ⟨h1, h2⟩ := hx j (by omega)
      obtain ⟨b, hb, _⟩ := DataW.trod_bool Yba.underlying4 h2
      simp at hb
      rw [addr_add] at h1
      simp only [h1, hb]
end

set_option maxRecDepth 100000 in
set_option maxHeartbeats 1000000 in
theorem walk0 (a : Option Addr) (cap : Nat) (vb : Value) (hash tag : Int) (w : World) :
    Calls Yba.prog 3 #[.slice a 0 cap, vb, .int .u64 hash, .int .u16 tag] w fun e w' => e = .returned (.bool true) ∧ Below w.heap.size w w' := by
  go_enter Yba.func3, Yba.ntmps3
  go_wp2
  go_loop [9, 11, 28] (fun _ _ c => c = .int .i64 0) (fun _ _ _ => 0)
  case atStart => rfl
  case round =>
    obtain rfl := hrel
    go_wp2_with (at_make; refine wpList_make_R _ rfl _ _ 28 rfl (w.heap.size + 1) 24 8 (.int .u64 0) Yba.underlying28 info24 _ _ _ 0 rfl rfl rfl (by decide) (by decide) (by simp) ?_)
    intro W1 hown hgr
    have hbel : Below w.heap.size w W1 := ((Below.refl w.heap.size w).alloc (Nat.le_refl _) _).grown hgr (by simp) (fun k hk => by cases hk)
    clear hown hgr
    go_wp2_with fail
    go_loop [13, 46] (fun _ c => c = .int .i64 0) (fun _ _ => 0)
    case atStart => rfl
    case round =>
      obtain rfl := hrel
      go_wp2_with fail
      go_loop [139] (fun c => c = .int .i64 0) (fun _ => 0)
      case atStart => rfl
      case round =>
        obtain rfl := hrel
        go_wp2_with fail
        go_ret
        exact ⟨rfl, hbel⟩

theorem walk_big (a : Option Addr) (n cap : Nat) (vb : Value) (hash tag : Int) (w : World) (hn : ¬ n ≤ 1024) :
    Calls Yba.prog 3 #[.slice a n cap, vb, .int .u64 hash, .int .u16 tag] w fun e w' => e = .returned (.bool true) ∧ Below w.heap.size w w' := by
  have hd1 : decide ((1024 : Int) < (n : Int)) = true := decide_eq_true (by omega)
  go_enter Yba.func3, Yba.ntmps3
  go_wp2
  go_ret
  exact ⟨rfl, Below.refl _ _⟩

theorem walk (a0 : Option Addr) (len cap : Nat) (vb : Value) (hash tag : Int) (w : World) (hk : KeysOk w (.slice a0 len cap)) (hb : BrOk w vb) (wt : (Lit.int .u16 tag).wf = true) :
    Calls Yba.prog 3 #[.slice a0 len cap, vb, .int .u64 hash, .int .u16 tag] w fun e w' => e = .returned (.bool true) ∧ Below w.heap.size w w' := by
  rcases hk with ⟨a, c, hv⟩ | ⟨N, kb, ko, c, KL, ka, kc, hv, _, h1, h2⟩
  · rw [hv]
    exact walk0 a c vb hash tag w
  · rw [hv]
    by_cases hN : N ≤ 1024
    · obtain ⟨ht0, ht1⟩ := bounds_u16 wt
      obtain ⟨t, rfl⟩ := Int.eq_ofNat_of_zero_le ht0
      exact key_walk N kb ko c KL ka kc vb hash t w hN (by omega) h1 h2 hb
    · exact walk_big _ N c vb hash tag w hN

set_option maxRecDepth 100000 in
theorem lifted (os : Os) (started : os.Started) (H : Type) (enc : TypeId × Value → H) :
    ReturnsInHanded {} Yba.checked os 3 .any (Rows.lawS4309BKeyAtReadsEntrySpec.pre6 enc Yba.prog Yba.f3 Rows.lawS4309BKeyAtReadsEntryRow.domain false) (Rows.lawS4309BKeyAtReadsEntrySpec.post enc Yba.prog Yba.f3 false true false false) := by
  refine returnsInHanded_of_change_sized (C := Yba.checked) own started (by kernel_rfl) Yba.func3
    (ChangeSpec.witness6 (enc := enc) (C := Yba.checked) false ⟨#[], #[.slice none 0 0, .slice none 0 0, .int .u64 0, .int .u16 0], []⟩ 8 (by kernel_rfl) (by kernel_rfl) (by kernel_rfl) (by kernel_rfl)) ?_
  intro W base args ds gs before hval0 hW _ hsz0 _
  have hval : ∀ (j : Nat) t v, Yba.f3.params[j]? = some t → args[j]? = some v → Value.okWide Yba.prog W .any base t v := hval0
  have hsz : (DataW.weightsEach Yba.prog (Yba.f3.params.toList ++ Rows.lawS4309BKeyAtReadsEntrySpec.plain.varTypes Yba.prog) (ds ++ gs)).all (· ≤ reachBytes) = true := hsz0
  have hW' := hW
  obtain ⟨p, q, hA0, hV, rfl, _, _⟩ := hW
  have hA : DataW.TrodAll enc Yba.prog W 0 (fun _ => true) true Yba.f3.params.toList args.toList ds p := hA0
  rw [Yba.params3] at hA hval hsz
  obtain ⟨v0, vs0, d0, ds0, p0, q0, hargs, rfl, rfl, h0, r0⟩ := trodAll_cons hA
  obtain ⟨v1, vs1, d1, ds1, p1, q1, rfl, rfl, rfl, h1, r1⟩ := trodAll_cons r0
  obtain ⟨v2, vs2, d2, ds2, p2, q2, rfl, rfl, rfl, h2, r2⟩ := trodAll_cons r1
  obtain ⟨v3, vs3, d3, ds3, p3, q3, rfl, rfl, rfl, h3, r3⟩ := trodAll_cons r2
  obtain ⟨rfl, rfl, rfl⟩ := trodAll_nil r3
  obtain rfl : args = #[v0, v1, v2, v3] := by cases args; simp_all
  obtain ⟨rfl, rfl⟩ := trodVars_none hV
  obtain ⟨a0, len0, cap0, rfl⟩ := okWide_slice Yba.underlying22 (hval 0 22 v0 rfl rfl)
  obtain ⟨a1, len1, cap1, rfl⟩ := okWide_slice Yba.underlying23 (hval 1 23 v1 rfl rfl)
  have k0 := h0
  have lt0 : ∀ x ∈ p0, x.block < W.heap.size := by obtain ⟨m, hm⟩ := k0; exact DataW.trod_lt m _ _ _ hm
  have k1 := h1
  have lt1 : ∀ x ∈ p1, x.block < W.heap.size := by obtain ⟨m, hm⟩ := k1; exact DataW.trod_lt m _ _ _ hm
  have hk := keys_open h0 hsz (j := 0) rfl rfl
  have hb := breaks_open h1
  obtain ⟨a2, rfl, rfl, rfl, w2⟩ := open_int Yba.underlying24 (hval 2 24 v2 rfl rfl) h2
  obtain ⟨a3, rfl, rfl, rfl, w3⟩ := open_int Yba.underlying25 (hval 3 25 v3 rfl rfl) h3
  clear hA0 hval0 hsz0
  refine (walk a0 len0 cap0 _ a2 a3 W hk hb w3).mono fun e W' ⟨he, bel⟩ => ?_
  subst he
  exact ⟨_, rfl, _, _, _, [], _, [], hW', trodAll_mk1 (shut_bool Yba.underlying4 _), (trodAll_cons_mk (Below.trod laidOut (by kernel_rfl) (of_decide_eq_true (by kernel_rfl)) k0 bel lt0) (trodAll_cons_mk (Below.trod laidOut (by kernel_rfl) (of_decide_eq_true (by kernel_rfl)) k1 bel lt1) (trodAll_cons_mk (shut_int Yba.underlying24 w2) (trodAll_cons_mk (shut_int Yba.underlying25 w3) trodAll_mk0)))), rfl, bel.frame _, fun h => by cases h⟩

theorem over : Rows.lawS4309BKeyAtReadsEntryRow.holds Yba.pinned (OpenSpec.ofChange Rows.lawS4309BKeyAtReadsEntrySpec) :=
  OpenClaim.holds_of_wide 3 Yba.f3 rfl rfl rfl rfl rfl rfl rfl ⟨rfl, rfl, rfl, rfl, rfl⟩ rfl rfl rfl rfl rfl (by kernel_rfl) Yba.func3 (by kernel_rfl)
    (of_decide_eq_true (by kernel_rfl)) (by unfold Func.isWrapper; first | (rw [if_pos (by decide +kernel)]; kernel_rfl) | (rw [if_neg (by decide +kernel)]; exact ⟨rfl, rfl⟩))
    (fun os started H enc _ => lifted os started H enc)

theorem proved : Rows.LawS4309BKeyAtReadsEntrySaid := over
end Go.Proofs.Ybulkckfg.lawS4309BKeyAt
