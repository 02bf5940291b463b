/-
  The plain law of the open-addressing table: no Go in sight.
-/
namespace Go.Proofs.Ybulkckfg

/-- probing from h on, step T meets v, and no empty slot ahead of it -/
def Reach (sls : List Nat) (h T v : Nat) : Prop := sls[(h + T) % sls.length]? = some v ∧ ∀ t, t < T → ∃ u, sls[(h + t) % sls.length]? = some u ∧ u ≠ 0

theorem first_of {P : Nat → Prop} : ∀ N, P N → ∃ T, T ≤ N ∧ P T ∧ ∀ t, t < T → ¬ P t := by
  intro N
  induction N using Nat.strongRecOn with
  | ind N ih =>
    intro hN
    by_cases h : ∃ t, t < N ∧ P t
    · obtain ⟨t, ht, hp⟩ := h
      obtain ⟨T, h1, h2, h3⟩ := ih t ht hp
      exact ⟨T, by omega, h2, h3⟩
    · exact ⟨N, Nat.le_refl _, hN, fun t ht hp => h ⟨t, ht, hp⟩⟩

def nz (l : List Nat) : Nat := l.countP (· != 0)

theorem nz_set : ∀ (l : List Nat) (p v : Nat), l[p]? = some 0 → v ≠ 0 → nz (l.set p v) = nz l + 1
  | [], p, v, h, _ => by simp at h
  | x :: l, 0, v, h, hv => by
    have hx : x = 0 := by simpa using h
    subst hx
    simp [nz, hv]
  | x :: l, p + 1, v, h, hv => by
    have ih := nz_set l p v (by simpa using h) hv
    simp only [nz] at ih ⊢
    simp only [List.set_cons_succ, List.countP_cons, ih]
    omega

theorem nz_full (l : List Nat) (h : ∀ (q u : Nat), l[q]? = some u → u ≠ 0) : nz l = l.length := by
  unfold nz
  rw [List.countP_eq_length]
  intro a ha
  obtain ⟨q, hq⟩ := List.getElem?_of_mem ha
  simpa using h q a hq

theorem nz_zero (M : Nat) : nz (List.replicate M 0) = 0 := by
  unfold nz
  rw [List.countP_eq_zero]
  intro a ha
  simp [List.eq_of_mem_replicate ha]

theorem nz_take (l : List Nat) (r v : Nat) (h : l[r]? = some v) : nz (l.take (r + 1)) = nz (l.take r) + if v = 0 then 0 else 1 := by
  have hr : r < l.length := (List.getElem?_eq_some_iff.1 h).1
  have hv : l[r] = v := (List.getElem?_eq_some_iff.1 h).2
  rw [List.take_succ_eq_append_getElem hr, hv]
  unfold nz
  rw [List.countP_append]
  by_cases h0 : v = 0 <;> simp [h0]

/-- the table: every pair of S is found from its hash on; nothing else lies in it; n slots are taken -/
structure Tab (sls : List Nat) (S : Nat → Nat → Prop) (n : Nat) : Prop where
  found : ∀ v h, S v h → v ≠ 0 ∧ ∃ T, Reach sls h T v
  only : ∀ (q v : Nat), sls[q]? = some v → v ≠ 0 → ∃ h, S v h
  cnt : nz sls = n

theorem Tab.empty (M : Nat) : Tab (List.replicate M 0) (fun _ _ => False) 0 :=
  ⟨fun _ _ h => h.elim, fun q v h hv => by
    have := List.getElem?_eq_some_iff.1 h
    obtain ⟨h1, h2⟩ := this
    simp at h2
    exact absurd h2.symm hv, nz_zero M⟩

theorem reach_zero (sls : List Nat) (k : Nat) (hn : nz sls < sls.length) : ∃ T, Reach sls k T 0 := by
  have hM : 0 < sls.length := by omega
  obtain ⟨q, hq⟩ : ∃ q : Nat, sls[q]? = some 0 := by
    by_cases h : ∃ q : Nat, sls[q]? = some 0
    · exact h
    · have := nz_full sls fun q u hu hu0 => h ⟨q, by rw [hu, hu0]⟩
      omega
  have hqM : q < sls.length := (List.getElem?_eq_some_iff.1 hq).1
  have hmod : (k + (q + sls.length - k % sls.length)) % sls.length = q := by
    have h1 := Nat.div_add_mod k sls.length
    have h2 := Nat.mod_lt k hM
    have h3 : k + (q + sls.length - k % sls.length) = sls.length * (k / sls.length + 1) + q := by
      rw [Nat.mul_add, Nat.mul_one]
      omega
    rw [h3, Nat.mul_add_mod, Nat.mod_eq_of_lt hqM]
  obtain ⟨T, _, h1, h2⟩ := first_of (P := fun t => sls[(k + t) % sls.length]? = some 0) (q + sls.length - k % sls.length) (by simp only [hmod]; exact hq)
  refine ⟨T, h1, fun t ht => ?_⟩
  have hlt : (k + t) % sls.length < sls.length := Nat.mod_lt _ hM
  exact ⟨_, List.getElem?_eq_getElem hlt, fun h0 => h2 t ht (by rw [List.getElem?_eq_getElem hlt, h0])⟩

theorem Tab.room {sls : List Nat} {S : Nat → Nat → Prop} {n : Nat} (h : Tab sls S n) (hn : n < sls.length) (k : Nat) : ∃ T, Reach sls k T 0 := reach_zero sls k (by rw [h.cnt]; exact hn)

theorem Tab.put {sls : List Nat} {S : Nat → Nat → Prop} {n k T v : Nat} (h : Tab sls S n) (hr : Reach sls k T 0) (hv : v ≠ 0) : Tab (sls.set ((k + T) % sls.length) v) (fun v' h' => S v' h' ∨ (v' = v ∧ h' = k)) (n + 1) := by
  have hp : (k + T) % sls.length < sls.length := (List.getElem?_eq_some_iff.1 hr.1).1
  have keep : ∀ (q u : Nat), sls[q]? = some u → u ≠ 0 → (sls.set ((k + T) % sls.length) v)[q]? = some u := by
    intro q u hq hu
    rw [List.getElem?_set]
    by_cases he : (k + T) % sls.length = q
    · subst he
      rw [hr.1] at hq
      exact absurd (Option.some.inj hq).symm hu
    · rw [if_neg he]; exact hq
  refine ⟨?_, ?_, by rw [nz_set sls _ v hr.1 hv, h.cnt]⟩
  · rintro v' h' (hs | ⟨rfl, rfl⟩)
    · obtain ⟨h0, t, h1, h2⟩ := h.found v' h' hs
      refine ⟨h0, t, ?_, fun s hs => ?_⟩
      · rw [List.length_set]; exact keep _ _ h1 h0
      · obtain ⟨u, hu, hu0⟩ := h2 s hs
        exact ⟨u, by rw [List.length_set]; exact keep _ _ hu hu0, hu0⟩
    · refine ⟨hv, T, ?_, fun s hs => ?_⟩
      · rw [List.length_set, List.getElem?_set_self hp]
      · obtain ⟨u, hu, hu0⟩ := hr.2 s hs
        exact ⟨u, by rw [List.length_set]; exact keep _ _ hu hu0, hu0⟩
  · intro q u hq hu
    rw [List.getElem?_set] at hq
    by_cases he : (k + T) % sls.length = q
    · subst he
      simp [hp] at hq
      exact ⟨k, .inr ⟨hq.symm, rfl⟩⟩
    · rw [if_neg he] at hq
      obtain ⟨x, hx⟩ := h.only q u hq hu
      exact ⟨x, .inl hx⟩

theorem Tab.congr {sls : List Nat} {S S' : Nat → Nat → Prop} {n : Nat} (h : Tab sls S n) (he : ∀ v x, S v x ↔ S' v x) : Tab sls S' n :=
  ⟨fun v x hs => h.found v x ((he v x).2 hs), fun q v hq hv => by obtain ⟨x, hx⟩ := h.only q v hq hv; exact ⟨x, (he v x).1 hx⟩, h.cnt⟩

/-- what is laid anew after the first r slots of the old table -/
def Upto (old : List Nat) (S : Nat → Nat → Prop) (r : Nat) : Nat → Nat → Prop := fun v h => S v h ∧ ∃ q, q < r ∧ old[q]? = some v

theorem Tab.skip {new old : List Nat} {S : Nat → Nat → Prop} {r : Nat} (ho : ∀ v h, S v h → v ≠ 0) (h : Tab new (Upto old S r) (nz (old.take r))) (h0 : old[r]? = some 0) : Tab new (Upto old S (r + 1)) (nz (old.take (r + 1))) := by
  rw [nz_take old r 0 h0]
  refine h.congr fun v x => ⟨fun ⟨a, q, hq, b⟩ => ⟨a, q, by omega, b⟩, fun ⟨a, q, hq, b⟩ => ⟨a, q, ?_, b⟩⟩
  by_cases he : q = r
  · subst he
    rw [h0] at b
    exact absurd (Option.some.inj b).symm (ho v x a)
  · omega

theorem Tab.again {new old : List Nat} {S : Nat → Nat → Prop} {r v k T : Nat} (h : Tab new (Upto old S r) (nz (old.take r))) (hr : old[r]? = some v) (hv : v ≠ 0) (hS : S v k) (hone : ∀ x, S v x → x = k) (hR : Reach new k T 0) :
    Tab (new.set ((k + T) % new.length) v) (Upto old S (r + 1)) (nz (old.take (r + 1))) := by
  rw [nz_take old r v hr, if_neg hv]
  refine (h.put hR hv).congr fun u x => ⟨?_, ?_⟩
  · rintro (⟨a, q, hq, b⟩ | ⟨rfl, rfl⟩)
    · exact ⟨a, q, by omega, b⟩
    · exact ⟨hS, r, by omega, hr⟩
  · rintro ⟨a, q, hq, b⟩
    by_cases he : q = r
    · subst he
      rw [hr] at b
      have := Option.some.inj b
      subst this
      exact .inr ⟨rfl, hone x a⟩
    · exact .inl ⟨a, q, by omega, b⟩

theorem Tab.done {new old : List Nat} {S : Nat → Nat → Prop} {n : Nat} (ho : Tab old S n) (h : Tab new (Upto old S old.length) (nz (old.take old.length))) : Tab new S n := by
  rw [List.take_length, ho.cnt] at h
  refine h.congr fun v x => ⟨fun a => a.1, fun a => ⟨a, ?_⟩⟩
  obtain ⟨_, T, h1, _⟩ := ho.found v x a
  exact ⟨_, (List.getElem?_eq_some_iff.1 h1).1, h1⟩
end Go.Proofs.Ybulkckfg
