/-
  Rows of the call's own, several at once, and the laws on 'append', stores and slices over them. Own work for this seat.
-/
import Derived.Test.YbulkckfgFrame
import Derived.Laws.AppendOwn
import Derived.Laws.OwnMore
import Derived.Laws.IdiomStrings
import Derived.Laws.BytesArg
import Derived.OwnWalk
import Derived.WalkSmall
import Derived.Deep.RegionLaw
namespace Go.Proofs.Ybulkckfg
open Go.ChangeShapes Go.WideShapes Go.ChangeAt Go.RowKit

theorem hide {p : Prop} (h : p) : Hid p := h

/-- bytes as cells -/
def bc (l : List UInt8) : List Value := l.map fun b => Value.int .u8 (b.toNat : Int)
theorem bc_length (l : List UInt8) : (bc l).length = l.length := by simp [bc]
theorem bc_append (l m : List UInt8) : bc l ++ bc m = bc (l ++ m) := by simp [bc]
theorem bc_one (l : List UInt8) : ∀ u ∈ bc l, u.oneCell' = true := by
  intro u hu
  obtain ⟨_, _, rfl⟩ := List.mem_map.1 hu
  rfl
theorem bc_at (l : List UInt8) (j : Nat) (h : j < l.length) : (bc l)[j]? = some (.int .u8 (l[j].toNat : Int)) := by simp [bc, h]

/-- a row of the call's own, its elements of one cell each; behind a name that the walk does not open -/
def OwnR (w : World) (base : Nat) (e : TypeId) (v : Value) (xs : List Value) : Prop := w.ownsRow base e 1 v xs.length xs
theorem OwnR.alloc {w : World} {base : Nat} {e : TypeId} {v : Value} {xs : List Value} (h : OwnR w base e v xs) (o : Obj) : OwnR (w.alloc o) base e v xs := World.ownsRow.alloc h o
theorem OwnR.kept {w w' : World} {base : Nat} {e : TypeId} {v : Value} {xs : List Value} {row : Option Nat} (h : OwnR w base e v xs) (hg : w.grownBy w' row) (hne : v.ownBlock = none ∨ v.ownBlock ≠ row) : OwnR w' base e v xs := World.ownsRow.kept h hg hne
theorem OwnR.lt {w : World} {base : Nat} {e : TypeId} {v : Value} {xs : List Value} (h : OwnR w base e v xs) : ∀ k, v.ownBlock = some k → base ≤ k ∧ k < w.heap.size := World.ownsRow.lt h
theorem OwnR.drewN {w : World} {base : Nat} {e : TypeId} {v : Value} {xs : List Value} (h : OwnR w base e v xs) (n : Nat) : OwnR (w.drewN n) base e v xs := h
theorem OwnR.nil (w : World) (base : Nat) (e : TypeId) : OwnR w base e (.slice none 0 0) [] := World.ownsRow_nil w base e 1
/-- nil, or written out -/
theorem OwnR.form {w : World} {base : Nat} {e : TypeId} {v : Value} {xs : List Value} (h : OwnR w base e v xs) :
    (v = .slice none 0 0 ∧ xs = []) ∨ ∃ g cap, v = .slice (some ⟨g, 0, none⟩) xs.length cap ∧ base ≤ g ∧ g < w.heap.size ∧ xs.length ≤ cap ∧ (∀ j, w.frozen? ⟨g, j, none⟩ = false) ∧ (∀ j, j < xs.length → w.cell? ⟨g, j, none⟩ = xs[j]?) := by
  rcases h.2 with ⟨rfl, h0⟩ | ⟨g, cap, cur, rfl, hb, hg, hc, _⟩
  · exact .inl ⟨rfl, List.eq_nil_of_length_eq_zero h0⟩
  · exact .inr ⟨g, cap, rfl, hb, (Array.getElem?_eq_some_iff.1 hg).1, hc, fun j => World.ownsRow.frozenAt h j, fun j hj => World.ownsRow.cellAt h j (by omega)⟩

/-- What a slice value gives: its first cells are 'news'. -/
def Gives (w : World) (v : Value) (news : List Value) : Prop :=
  ∃ a cap, v = .slice a news.length cap ∧ (a = none → cap = 0) ∧ ∀ j u, news[j]? = some u → ∃ ad, a = some ad ∧ w.cell? (ad.add j) = some u

theorem addr_add (g o j : Nat) : (⟨g, o, none⟩ : Addr).add j = ⟨g, o + j, none⟩ := by unfold Addr.add; split <;> simp_all

theorem Gives.of_owns {w : World} {base : Nat} {e : TypeId} {v : Value} {xs : List Value} (h : OwnR w base e v xs) : Gives w v xs := by
  have hc := fun g hg => h.cells (g := g) hg
  rcases h.2 with ⟨rfl, h0⟩ | ⟨g, cap, cur, rfl, _⟩
  · have hx : xs = [] := List.eq_nil_of_length_eq_zero h0
    subst hx
    exact ⟨none, 0, rfl, fun _ => rfl, fun j u hu => by simp at hu⟩
  · exact ⟨some ⟨g, 0, none⟩, cap, rfl, (fun hh => by cases hh), fun j u hu => ⟨_, rfl, hc g rfl j u hu⟩⟩

theorem Gives.kept {w w' : World} {v : Value} {news : List Value} (h : Gives w v news) (hk : ∀ a u, w.cell? a = some u → w'.cell? a = some u) : Gives w' v news := by
  obtain ⟨a, cap, rfl, hn, hc⟩ := h
  exact ⟨a, cap, rfl, hn, fun j u hu => by obtain ⟨ad, h1, h2⟩ := hc j u hu; exact ⟨ad, h1, hk _ _ h2⟩⟩

theorem Gives.below {w w' : World} {B : Nat} {v : Value} {news : List Value} (h : Gives w v news) (hb : Below B w w') (hB : w.heap.size ≤ B) : Gives w' v news :=
  h.kept fun a u hu => by rw [hb.cell (p := a) (Nat.lt_of_lt_of_le (World.block_lt_of_cell? w a hu) hB)]; exact hu

/-- where an append's result lies -/
def Place (w : World) (v v' : Value) : Prop := v'.ownBlock = none ∨ v'.ownBlock = v.ownBlock ∨ ∃ k, v'.ownBlock = some k ∧ w.heap.size ≤ k

section
variable {P : Program}

theorem run_append_full (w : World) (base : Nat) (t ty e : TypeId) (i : TypeInfo) (z : Value) (bytes : Nat) (ht : P.underlying t = some (.slice e)) (hi : P.info? e = some i) (hz : i.zero = some z)
    (hsize : i.size = 1) (hby : i.bytes = bytes) (hzs : z.cells.size = 1)
    (v : Value) (xs : List Value) (hown : w.ownsRow base e 1 v xs.length xs)
    (x : Value) (news : List Value) (hsrc : Gives w x news) (h1 : ∀ u ∈ news, u.oneCell' = true)
    (h63 : xs.length + news.length ≤ maxLen) (hbytes : (xs.length + news.length) * bytes ≤ 140737488355328) (hbase : base ≤ w.heap.size) :
    ∃ v' w', (Builtin.append_ #[t, t] ty #[v, x]).run P w = .ok v' w' ∧ w'.ownsRow base e 1 v' (xs ++ news).length (xs ++ news) ∧ w.grownBy w' v.ownBlock ∧ w'.ownsRow base e 1 v xs.length xs ∧ Place w v v' := by
  obtain ⟨ao, c, rfl, hn0, hcells⟩ := hsrc
  rw [List.length_append]
  cases ao with
  | none =>
    have hc0 := hn0 rfl
    subst hc0
    have hnews : news = [] := by
      cases news with
      | nil => rfl
      | cons u _ => obtain ⟨ad, had, _⟩ := hcells 0 u rfl; cases had
    subst hnews
    exact ⟨v, w, run_append_owned_none (P := P) w base t ty e i 1 ht hi v xs.length xs hown, by simpa using hown, ⟨rfl, rfl, rfl, Nat.le_refl _, fun _ _ _ => rfl⟩, hown, .inr (.inl rfl)⟩
  | some a =>
    have hnews : ∀ j u, news[j]? = some u → w.cell? (a.add j) = some u := fun j u hu => by
      obtain ⟨ad, had, h⟩ := hcells j u hu
      cases had
      exact h
    have hl : news.length = news.length * 1 := by omega
    obtain ⟨v', w', hr, ho, hg, hiff⟩ := run_append_own (P := P) w base t ty e i z 1 bytes ht hi hz hsize hby hzs (by decide) v xs.length xs hown a news.length c news hl hnews h1 h63 hbytes hbase
    refine ⟨v', w', hr, ho, hg, ?_⟩
    have hsmall : xs.length + news.length ≤ 9223372036854775807 := by simp only [maxLen] at h63; omega
    rcases hown.2 with ⟨rfl, h0⟩ | ⟨g, cap, cur, rfl, hbg, hgg, hnc, hcm, hcs, htake⟩
    · have hx : xs = [] := List.eq_nil_of_length_eq_zero h0
      subst hx
      refine ⟨World.ownsRow_nil w' base e _, ?_⟩
      by_cases hm : news.length = 0
      · have hn : news = [] := List.eq_nil_of_length_eq_zero hm
        subst hn
        rcases ho.2 with ⟨rfl, _⟩ | ⟨g, cap, cur, rfl, _, hgg, _⟩
        · exact .inl rfl
        · have := hiff.2 ⟨rfl, rfl⟩
          cases this
      · have hr2 := run_append_nil (P := P) w t ty e i z ht hi hz a news.length c news (by rw [hsize]; omega) hnews (by omega) (by simp at hsmall; omega) (by simp at hbytes; rw [hby]; omega)
        rw [hr] at hr2
        injection hr2 with hv hw
        subst hv
        exact .inr (.inr ⟨_, rfl, Nat.le_refl _⟩)
    · by_cases hroom : xs.length + news.length ≤ cap
      · have hfit : xs.length * i.size + news.length ≤ cur.size := by rw [hsize, hcs]; omega
        have hr2 := run_append_room (P := P) w t ty e i ht hi g xs.length cap cur hgg a news.length c news (by rw [hsize]; omega) hnews h1 hroom hfit
        rw [hr] at hr2
        injection hr2 with hv hw
        subst hv hw
        refine ⟨⟨hown.1, .inr ⟨g, cap, _, rfl, hbg, setRow_heap w g cur _ e _ hgg, hnc, hcm, ?_, ?_⟩⟩, .inr (.inl rfl)⟩
        · simp only [List.size_toArray, List.length_append, List.length_take, List.length_drop, Array.length_toList]
          omega
        · rw [hsize, htake]
          simp only [List.append_assoc, Nat.mul_one]
          exact List.take_left
      · have holds : ∀ j u, xs[j]? = some u → w.cell? ((⟨g, 0, none⟩ : Addr).add j) = some u := hown.cells (g := g) rfl
        have hr2 := run_append_grow (P := P) w t ty e i z ht hi hz ⟨g, 0, none⟩ xs.length cap xs (by rw [hsize]; omega) holds a news.length c news (by rw [hsize]; omega) hnews (by omega) (by omega) (growslice_fits (by omega) (by rw [hby]; exact hbytes))
        rw [hr] at hr2
        injection hr2 with hv hw
        subst hv hw
        exact ⟨World.ownsRow.alloc (w := w.drew) hown _, .inr (.inr ⟨_, rfl, Nat.le_refl _⟩)⟩

/-- the same for a walk -/
theorem wpList_append_full (w : World) {ops : Array Oper} {rest : List Oper} {o : Oper} {a : Act} {Q : Exit → Act → World → Prop} (hgd : o.guard = none) (s x : Operand) (t : TypeId)
    (ho : o.op = .call { callee := .builtin .append, args := #[s, x], argTypes := #[t, t] })
    (base : Nat) (e : TypeId) (bytes : Nat) (z : Value) (ht : P.underlying t = some (.slice e)) (hinfo : (P.info? e).map (fun i => (i.zero, i.size, i.bytes)) = some (some z, 1, bytes)) (hzs : z.cells.size = 1)
    (v : Value) (xs : List Value) (hs : a.eval s = v) (hown : OwnR w base e v xs)
    (vx : Value) (news : List Value) (hx : a.eval x = vx) (hsrc : Gives w vx news) (h1 : ∀ u ∈ news, u.oneCell' = true)
    (h63 : xs.length + news.length ≤ maxLen) (hbytes : (xs.length + news.length) * bytes ≤ 140737488355328) (hbase : base ≤ w.heap.size)
    (h : ∀ v' w', OwnR w' base e v' (xs ++ news) → w.grownBy w' v.ownBlock → OwnR w' base e v xs → Place w v v' → wpList P ops Q rest (a.put o.dst v') w') : wpList P ops Q (o :: rest) a w := by
  refine wpList_plain hgd fun K hK => ?_
  obtain ⟨i, hi, hz, hsz, hby⟩ := info_parts hinfo
  obtain ⟨v', w', hr, h2, h3, h4, h5⟩ := run_append_full (P := P) w base t o.type e i z bytes ht hi hz hsz hby hzs v xs hown vx news hsrc h1 h63 hbytes hbase
  unfold Oper.wp execOp
  simp only [ho, resolve, invoke, builtin, Sem.run_bind, Sem.run_pure, Result.andThen_ok, List.map_toArray, List.map_cons, List.map_nil, hs, hx, hr]
  exact hK _ _ (h v' w' h2 h3 h4 h5)

/-- 'make([]T, 0, n)' -/
theorem wpList_make_R (w : World) {ops : Array Oper} {rest : List Oper} {o : Oper} {a : Act} {Q : Exit → Act → World → Prop} (hg : o.guard = none) (l c : Operand) (t : TypeId) (hop : o.op = Op.makeSlice t l c)
    (base : Nat) (e : TypeId) (bytes : Nat) (z : Value) (ht : P.underlying t = some (.slice e)) (hinfo : (P.info? e).map (fun i => (i.zero, i.size, i.bytes)) = some (some z, 1, bytes))
    (kl kc : IntKind) (C : Int) (n : Nat) (hl : a.eval l = .int kl 0) (hc : a.eval c = .int kc C) (hC : C = (n : Int)) (b2 : bytes * n ≤ 281474976710656) (b3 : n ≤ maxLen) (b4 : base ≤ w.heap.size)
    (h : ∀ w', OwnR w' base e (.slice (some ⟨w.heap.size, 0, none⟩) 0 n) [] → w.grownBy w' none → wpList P ops Q rest (a.put o.dst (.slice (some ⟨w.heap.size, 0, none⟩) 0 n)) w') : wpList P ops Q (o :: rest) a w := by
  obtain ⟨i, hi, hz, hsz, hby⟩ := info_parts hinfo
  exact wpList_make_own w hg l c t hop base e i z 1 ht hi hz hsz kl kc C n hl hc hC (by rw [hby]; exact b2) b3 b4 h

/-- 'make([]T, n)' -/
theorem wpList_make_full_R (w : World) {ops : Array Oper} {rest : List Oper} {o : Oper} {a : Act} {Q : Exit → Act → World → Prop} (hg : o.guard = none) (l c : Operand) (t : TypeId) (hop : o.op = Op.makeSlice t l c)
    (base : Nat) (e : TypeId) (bytes : Nat) (z : Value) (ht : P.underlying t = some (.slice e)) (hinfo : (P.info? e).map (fun i => (i.zero, i.size, i.bytes)) = some (some z, 1, bytes)) (hzc : z.cells = #[z])
    (kl kc : IntKind) (L C : Int) (n : Nat) (hl : a.eval l = .int kl L) (hc : a.eval c = .int kc C) (hL : L = (n : Int)) (hC : C = (n : Int)) (b2 : bytes * n ≤ 281474976710656) (b3 : n ≤ maxLen) (b4 : base ≤ w.heap.size)
    (h : ∀ w', OwnR w' base e (.slice (some ⟨w.heap.size, 0, none⟩) n n) (List.replicate n z) → w.grownBy w' none → wpList P ops Q rest (a.put o.dst (.slice (some ⟨w.heap.size, 0, none⟩) n n)) w') : wpList P ops Q (o :: rest) a w := by
  obtain ⟨i, hi, hz, hsz, hby⟩ := info_parts hinfo
  refine wpList_make_full w hg l c t hop base e i z 1 ht hi hz hsz kl kc L C n hl hc hL hC (by rw [hby]; exact b2) b3 b4 fun w' h1 h2 => h w' ?_ h2
  rw [hzc, Nat.mul_one, toList_madeCells_one] at h1
  unfold OwnR
  rw [List.length_replicate]
  exact h1

/-- the same as a step of a region that draws -/
theorem step_append_full {c : Bool} (hc : c = true) {o : Oper} {a : Act} {w : World} {K : Act → World → Prop} {Q : Exit → Act → World → Prop} {E : Prop} (s x : Operand) (t : TypeId)
    (ho : o.op = .call { callee := .builtin .append, args := #[s, x], argTypes := #[t, t] })
    (base : Nat) (e : TypeId) (bytes : Nat) (z : Value) (ht : P.underlying t = some (.slice e)) (hinfo : (P.info? e).map (fun i => (i.zero, i.size, i.bytes)) = some (some z, 1, bytes)) (hzs : z.cells.size = 1)
    (v : Value) (xs : List Value) (hs : a.eval s = v) (hown : OwnR w base e v xs)
    (vx : Value) (news : List Value) (hx : a.eval x = vx) (hsrc : Gives w vx news) (h1 : ∀ u ∈ news, u.oneCell' = true)
    (h63 : xs.length + news.length ≤ maxLen) (hbytes : (xs.length + news.length) * bytes ≤ 140737488355328) (hbase : base ≤ w.heap.size)
    (h : ∀ v' w', OwnR w' base e v' (xs ++ news) → w.grownBy w' v.ownBlock → OwnR w' base e v xs → Place w v v' → K (a.put o.dst v') w') :
    if c = true then Oper.wp P o a w K Q else E := by
  rw [if_pos hc]
  obtain ⟨i, hi, hz, hsz, hby⟩ := info_parts hinfo
  obtain ⟨v', w', hr, h2, h3, h4, h5⟩ := run_append_full (P := P) w base t o.type e i z bytes ht hi hz hsz hby hzs v xs hown vx news hsrc h1 h63 hbytes hbase
  unfold Oper.wp execOp
  simp only [ho, resolve, invoke, builtin, Sem.run_bind, Sem.run_pure, Result.andThen_ok, List.map_toArray, List.map_cons, List.map_nil, hs, hx, hr]
  exact h v' w' h2 h3 h4 h5
end

/-! ### several rows at once -/
def Apart (a b : Value) : Prop := a.ownBlock = none ∨ a.ownBlock ≠ b.ownBlock
theorem Apart.symm {a b : Value} (h : Apart a b) : Apart b a := by
  unfold Apart at *
  rcases h with h | h
  · by_cases hb : b.ownBlock = none
    · exact .inl hb
    · exact .inr (fun e => hb (e.trans h))
  · exact .inr (fun e => h e.symm)

structure R where
  e : TypeId
  v : Value
  xs : List Value

structure Own (W : World) (base : Nat) (rows : List R) : Prop where
  own : ∀ (i : Nat) (r : R), rows[i]? = some r → OwnR W base r.e r.v r.xs
  sep : ∀ (i j : Nat) (a b : R), i ≠ j → rows[i]? = some a → rows[j]? = some b → Apart a.v b.v

theorem Own.kept {W W' : World} {base : Nat} {rows : List R} {row : Option Nat} (h : Own W base rows) (hg : W.grownBy W' row) (hr : ∀ (i : Nat) (r : R), rows[i]? = some r → r.v.ownBlock = none ∨ r.v.ownBlock ≠ row) : Own W' base rows :=
  ⟨fun i r hi => (h.own i r hi).kept hg (hr i r hi), h.sep⟩

theorem Own.grown {W W' : World} {base : Nat} {rows : List R} (h : Own W base rows) (hg : W.grownBy W' none) : Own W' base rows :=
  h.kept hg fun i r _ => by cases r.v.ownBlock <;> simp

/-- blocks below the base may turn -/
theorem Own.low {W W' : World} {base b : Nat} {rows : List R} (h : Own W base rows) (hg : W.grownBy W' (some b)) (hb : b < base) : Own W' base rows :=
  h.kept hg fun i r hi => by
    by_cases hn : r.v.ownBlock = none
    · exact .inl hn
    · refine .inr fun e => ?_
      have := ((h.own i r hi).lt b e).1
      omega

theorem Own.alloc {W : World} {base : Nat} {rows : List R} (h : Own W base rows) (o : Obj) : Own (W.alloc o) base rows := h.grown (World.grownBy_alloc W o none)

theorem Own.drewN {W : World} {base : Nat} {rows : List R} (h : Own W base rows) (n : Nat) : Own (W.drewN n) base rows := ⟨fun i r hi => (h.own i r hi).drewN n, h.sep⟩

/-- one row turned by an append -/
theorem Own.upd {W W' : World} {base : Nat} {rows : List R} (h : Own W base rows) {i : Nat} {r : R} (hi : rows[i]? = some r) (hg : W.grownBy W' r.v.ownBlock) {v' : Value} {xs' : List Value}
    (ho : OwnR W' base r.e v' xs') (hp : Place W r.v v') : Own W' base (rows.set i ⟨r.e, v', xs'⟩) := by
  have hlt : i < rows.length := (List.getElem?_eq_some_iff.1 hi).1
  have hv : ∀ (j : Nat) (a : R), j ≠ i → rows[j]? = some a → Apart v' a.v := by
    intro j a hj ha
    rcases hp with h0 | h0 | ⟨k, hk, hkk⟩
    · exact .inl h0
    · have := h.sep i j r a (fun e => hj e.symm) hi ha
      unfold Apart at *
      rw [h0]
      exact this
    · refine .inr fun e => ?_
      rw [hk] at e
      have := ((h.own j a ha).lt k e.symm).2
      omega
  refine ⟨fun j a ha => ?_, fun j l a b hjl ha hb => ?_⟩
  · rw [List.getElem?_set] at ha
    by_cases hj : i = j
    · subst hj
      simp [hlt] at ha
      subst ha
      exact ho
    · simp [hj] at ha
      refine (h.own j a ha).kept hg ?_
      exact h.sep j i a r (fun e => hj e.symm) ha hi
  · rw [List.getElem?_set] at ha hb
    by_cases hj : i = j
    · subst hj
      simp [hlt] at ha
      simp [hjl] at hb
      subst ha
      exact hv l b (fun e => hjl e.symm) hb
    · by_cases hl : i = l
      · subst hl
        simp [hlt] at hb
        simp [hj] at ha
        subst hb
        exact (hv j a (fun e => hj e.symm) ha).symm
      · simp [hj] at ha
        simp [hl] at hb
        exact h.sep j l a b hjl ha hb

/-- a row more -/
theorem Own.push {W : World} {base : Nat} {rows : List R} (h : Own W base rows) (r : R) (ho : OwnR W base r.e r.v r.xs) (hp : ∀ (i : Nat) (a : R), rows[i]? = some a → Apart r.v a.v) : Own W base (rows ++ [r]) := by
  have key : ∀ (j : Nat) (a : R), (rows ++ [r])[j]? = some a → (rows[j]? = some a) ∨ (j = rows.length ∧ a = r) := by
    intro j a ha
    by_cases hj : j < rows.length
    · rw [List.getElem?_append_left hj] at ha
      exact .inl ha
    · by_cases hj2 : j = rows.length
      · subst hj2
        simp at ha
        exact .inr ⟨rfl, ha.symm⟩
      · rw [List.getElem?_eq_none (by simp; omega)] at ha
        cases ha
  refine ⟨fun j a ha => ?_, fun j l a b hjl ha hb => ?_⟩
  · rcases key j a ha with h1 | ⟨_, rfl⟩
    · exact h.own j a h1
    · exact ho
  · rcases key j a ha with h1 | ⟨rfl, rfl⟩ <;> rcases key l b hb with h2 | ⟨rfl, rfl⟩
    · exact h.sep j l a b hjl h1 h2
    · exact (hp j a h1).symm
    · exact hp l b h2
    · exact absurd rfl hjl

/-- a cell of a row stored -/
theorem Own.store {W : World} {base : Nat} {rows : List R} (h : Own W base rows) {i : Nat} {e : TypeId} {g n cap : Nat} {xs : List Value} (hi : rows[i]? = some ⟨e, .slice (some ⟨g, 0, none⟩) n cap, xs⟩) (hn : xs.length = n) (j : Nat) (u : Value) :
    Own (W.setCell ⟨g, j, none⟩ u) base (rows.set i ⟨e, .slice (some ⟨g, 0, none⟩) n cap, xs.set j u⟩) ∧ W.grownBy (W.setCell ⟨g, j, none⟩ u) (some g) := by
  have ho := h.own i _ hi
  simp only [OwnR] at ho
  subst hn
  obtain ⟨h1, h2⟩ := ho.stored j u
  refine ⟨?_, h2⟩
  refine h.upd hi (r := ⟨e, .slice (some ⟨g, 0, none⟩) xs.length cap, xs⟩) (v' := .slice (some ⟨g, 0, none⟩) xs.length cap) (xs' := xs.set j u) h2 (by simpa [OwnR] using h1) (.inr (.inl rfl))

end Go.Proofs.Ybulkckfg
