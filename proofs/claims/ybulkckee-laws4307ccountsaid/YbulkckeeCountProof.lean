import Derived.Test.YbulkckeeCount
import Derived.ChangeOld
import Derived.Below
namespace Go.Proofs.Ybulkckee.lawS4307CCount
open Go.ChangeShapes Go.WideShapes Go.ChangeAt Go.RowKit
open Go.ChangeMaps (open_string shut_string)

theorem own : ownKnob Yba.prog.godebug = none := by kernel_rfl
theorem laidOut : laidOutB Yba.prog = true := by kernel_rfl

set_option maxRecDepth 100000 in
theorem lifted (os : Os) (started : os.Started) (H : Type) (enc : TypeId × Value → H) :
    ReturnsInHanded {} Yba.checked os 3 .any (Rows.lawS4307CCountSpec.pre6 enc Yba.prog Yba.f3 Rows.lawS4307CCountRow.domain false) (Rows.lawS4307CCountSpec.post enc Yba.prog Yba.f3 false true false false) := by
  refine returnsInHanded_of_change (C := Yba.checked) own started (by kernel_rfl) Yba.func3
    (ChangeSpec.witness6 (enc := enc) (C := Yba.checked) false ⟨#[], #[.agg (Array.replicate 256 (.bool false)), .string ByteArray.empty], []⟩ 8 (by kernel_rfl) (by kernel_rfl) (by kernel_rfl) (by kernel_rfl)) ?_
  intro W base args ds gs before hval0 hW _ _
  have hval : ∀ (j : Nat) t v, Yba.f3.params[j]? = some t → args[j]? = some v → Value.okWide Yba.prog W .any base t v := hval0
  have hW' := hW
  obtain ⟨p, q, hA0, hV, rfl, _, _⟩ := hW
  have hA : DataW.TrodAll enc Yba.prog W 0 (fun _ => true) true Yba.f3.params.toList args.toList ds p := hA0
  rw [Yba.params3] at hA hval
  obtain ⟨v0, vs0, d0, ds0, p0, q0, hargs, rfl, rfl, h0, r0⟩ := trodAll_cons hA
  obtain ⟨v1, vs1, d1, ds1, p1, q1, rfl, rfl, rfl, h1, r1⟩ := trodAll_cons r0
  obtain ⟨rfl, rfl, rfl⟩ := trodAll_nil r1
  obtain rfl : args = #[v0, v1] := by cases args; simp_all
  obtain ⟨rfl, rfl⟩ := trodVars_none hV
  obtain ⟨cs, rfl, hsz, _⟩ : ∃ cs, v0 = .agg cs ∧ cs.size = Yba.prog.cellsOf 22 ∧ Row.okWide Yba.prog W .any base 22 cs := by
    have := hval 0 22 v0 rfl rfl
    simpa [Value.okWide, Yba.underlying22] using this
  rw [cells22] at hsz
  have k0 := h0
  have lt0 : ∀ x ∈ p0, x.block < W.heap.size := by obtain ⟨m, hm⟩ := k0; exact DataW.trod_lt m _ _ _ hm
  have hg : ∃ g : Nat → Bool, ∀ k, k < 256 → cs[k]? = some (.bool (g k)) := by
    obtain ⟨fuel, hf⟩ := h0
    obtain ⟨xs, m, _, _, _, hl, hel⟩ := DataW.trod_array Yba.underlying22 hf
    have hex : ∀ k, k < 256 → ∃ b, cs[k]? = some (.bool b) := by
      intro k hk
      have hk' := hel k hk
      rw [List.getElem?_eq_getElem (by omega)] at hk'
      obtain ⟨b, hb, _⟩ := DataW.trod_bool Yba.underlying4 hk'
      refine ⟨b, ?_⟩
      rw [cells4, Nat.mul_one] at hb
      exact getElem?_of_chunk (by simpa [Value.cells] using hb)
    refine ⟨fun k => match cs[k]? with | some (.bool b) => b | _ => false, fun k hk => ?_⟩
    obtain ⟨b, hb⟩ := hex k hk
    simp only [hb]
  obtain ⟨g, hg⟩ := hg
  obtain ⟨a1, rfl, rfl, rfl, w1⟩ := open_string Yba.underlying9 (hval 1 9 v1 rfl rfl) h1
  clear hA0 hval0
  refine (count_walk g cs a1 W w1 hsz hg).mono fun e W' ⟨he, bel⟩ => ?_
  subst he
  exact ⟨_, rfl, _, _, _, [], _, [], hW', trodAll_mk1 (shut_bool Yba.underlying4 _), (trodAll_cons_mk (Below.trod laidOut (by kernel_rfl) (of_decide_eq_true (by kernel_rfl)) k0 bel lt0) (trodAll_cons_mk (shut_string Yba.underlying9 w1) trodAll_mk0)), rfl, bel.frame _, fun h => by cases h⟩

theorem over : Rows.lawS4307CCountRow.holds Yba.pinned (OpenSpec.ofChange Rows.lawS4307CCountSpec) :=
  OpenClaim.holds_of_wide 3 Yba.f3 rfl rfl rfl rfl rfl rfl rfl ⟨rfl, rfl, rfl, rfl, rfl⟩ rfl rfl rfl rfl rfl (by kernel_rfl) Yba.func3 (by kernel_rfl)
    (of_decide_eq_true (by kernel_rfl)) (by unfold Func.isWrapper; first | (rw [if_pos (by decide +kernel)]; kernel_rfl) | (rw [if_neg (by decide +kernel)]; exact ⟨rfl, rfl⟩))
    (fun os started H enc _ => lifted os started H enc)

theorem proved : Rows.LawS4307CCountSaid := over
end Go.Proofs.Ybulkckee.lawS4307CCount
