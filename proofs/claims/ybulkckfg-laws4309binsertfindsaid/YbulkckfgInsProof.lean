import Derived.Test.YbulkckfgInsWalk
import Derived.Test.YbulkckfgKeys
import Derived.ChangeOld
import Derived.Below
namespace Go.Proofs.Ybulkckfg.lawS4309BInsertFind
open Go.ChangeShapes Go.WideShapes Go.ChangeAt Go.RowKit Go.Deep

theorem own : ownKnob Yba.prog.godebug = none := by kernel_rfl
theorem laidOut : laidOutB Yba.prog = true := by kernel_rfl

set_option maxRecDepth 100000 in
theorem walk_big (a : Option Addr) (n cap : Nat) (seed : Int) (w : World) (hn : ¬ n ≤ 512) :
    Calls Yba.prog 4 #[.slice a n cap, .int .u64 seed] w fun e w' => e = .returned (.bool true) ∧ Below w.heap.size w w' := by
  have hd1 : decide ((512 : Int) < (n : Int)) = true := decide_eq_true (by omega)
  go_enter Yba.func4, Yba.ntmps4
  go_wp2
  go_ret
  exact ⟨rfl, Below.refl _ _⟩

theorem walk (a0 : Option Addr) (len cap : Nat) (seed : Int) (w : World) (hk : KeysOk w (.slice a0 len cap)) :
    Calls Yba.prog 4 #[.slice a0 len cap, .int .u64 seed] w fun e w' => e = .returned (.bool true) ∧ Below w.heap.size w w' := by
  rcases hk with ⟨a, c, hv⟩ | ⟨N, kb, ko, c, KL, ka, kc, hv, _, h1, h2⟩
  · rw [hv]
    exact ins_walk 0 c a (fun _ => []) (fun _ => none) (fun _ => 0) seed w (by decide) (fun i hi => absurd hi (by omega)) (fun i hi => absurd hi (by omega))
  · rw [hv]
    by_cases hN : N ≤ 512
    · exact ins_walk N c _ KL ka kc seed w hN (fun i hi => ⟨kb, ko, rfl, h1 i hi⟩) h2
    · exact walk_big _ N c seed w hN

set_option maxRecDepth 100000 in
theorem lifted (os : Os) (started : os.Started) (H : Type) (enc : TypeId × Value → H) :
    ReturnsInHanded {} Yba.checked os 4 .any (Rows.lawS4309BInsertFindSpec.pre6 enc Yba.prog Yba.f4 Rows.lawS4309BInsertFindRow.domain false) (Rows.lawS4309BInsertFindSpec.post enc Yba.prog Yba.f4 false true false false) := by
  refine returnsInHanded_of_change_sized (C := Yba.checked) own started (by kernel_rfl) Yba.func4
    (ChangeSpec.witness6 (enc := enc) (C := Yba.checked) false ⟨#[], #[.slice none 0 0, .int .u64 0], []⟩ 8 (by kernel_rfl) (by kernel_rfl) (by kernel_rfl) (by kernel_rfl)) ?_
  intro W base args ds gs before hval0 hW _ hsz0 _
  have hval : ∀ (j : Nat) t v, Yba.f4.params[j]? = some t → args[j]? = some v → Value.okWide Yba.prog W .any base t v := hval0
  have hsz : (DataW.weightsEach Yba.prog (Yba.f4.params.toList ++ Rows.lawS4309BInsertFindSpec.plain.varTypes Yba.prog) (ds ++ gs)).all (· ≤ reachBytes) = true := hsz0
  have hW' := hW
  obtain ⟨p, q, hA0, hV, rfl, _, _⟩ := hW
  have hA : DataW.TrodAll enc Yba.prog W 0 (fun _ => true) true Yba.f4.params.toList args.toList ds p := hA0
  rw [Yba.params4] at hA hval hsz
  obtain ⟨v0, vs0, d0, ds0, p0, q0, hargs, rfl, rfl, h0, r0⟩ := trodAll_cons hA
  obtain ⟨v1, vs1, d1, ds1, p1, q1, rfl, rfl, rfl, h1, r1⟩ := trodAll_cons r0
  obtain ⟨rfl, rfl, rfl⟩ := trodAll_nil r1
  obtain rfl : args = #[v0, v1] := by cases args; simp_all
  obtain ⟨rfl, rfl⟩ := trodVars_none hV
  obtain ⟨a0, len0, cap0, rfl⟩ := okWide_slice Yba.underlying22 (hval 0 22 v0 rfl rfl)
  have k0 := h0
  have lt0 : ∀ x ∈ p0, x.block < W.heap.size := by obtain ⟨m, hm⟩ := k0; exact DataW.trod_lt m _ _ _ hm
  have hk := keys_open h0 hsz (j := 0) rfl rfl
  obtain ⟨a1, rfl, rfl, rfl, w1⟩ := open_int Yba.underlying24 (hval 1 24 v1 rfl rfl) h1
  clear hA0 hval0 hsz0
  refine (walk a0 len0 cap0 a1 W hk).mono fun e W' ⟨he, bel⟩ => ?_
  subst he
  exact ⟨_, rfl, _, _, _, [], _, [], hW', trodAll_mk1 (shut_bool Yba.underlying4 _), (trodAll_cons_mk (Below.trod laidOut (by kernel_rfl) (of_decide_eq_true (by kernel_rfl)) k0 bel lt0) (trodAll_cons_mk (shut_int Yba.underlying24 w1) trodAll_mk0)), rfl, bel.frame _, fun h => by cases h⟩

theorem over : Rows.lawS4309BInsertFindRow.holds Yba.pinned (OpenSpec.ofChange Rows.lawS4309BInsertFindSpec) :=
  OpenClaim.holds_of_wide 4 Yba.f4 rfl rfl rfl rfl rfl rfl rfl ⟨rfl, rfl, rfl, rfl, rfl⟩ rfl rfl rfl rfl rfl (by kernel_rfl) Yba.func4 (by kernel_rfl)
    (of_decide_eq_true (by kernel_rfl)) (by unfold Func.isWrapper; first | (rw [if_pos (by decide +kernel)]; kernel_rfl) | (rw [if_neg (by decide +kernel)]; exact ⟨rfl, rfl⟩))
    (fun os started H enc _ => lifted os started H enc)

theorem proved : Rows.LawS4309BInsertFindSaid := over
end Go.Proofs.Ybulkckfg.lawS4309BInsertFind
