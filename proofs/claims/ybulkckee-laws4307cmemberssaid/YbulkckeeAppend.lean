import Derived.Test.YbulkckeeHolds
import Derived.Laws.AppendOwn
import Derived.Laws.OwnMore
import Derived.Laws.IdiomStrings
import Derived.Laws.BytesArg
import Derived.OwnWalk
import Derived.WalkSmall
namespace Go.Proofs.Ybulkckee
open Go.ChangeShapes Go.WideShapes Go.ChangeAt Go.RowKit

section
variable {P : Program}

/-- 'append' onto a row of the call's own, AND THE OLD SLICE STILL READS AS IT DID (in place or moved). -/
theorem run_append_keep (w : World) (base : Nat) (t ty e : TypeId) (i : TypeInfo) (z : Value) (size bytes : Nat) (ht : P.underlying t = some (.slice e)) (hi : P.info? e = some i) (hz : i.zero = some z)
    (hsize : i.size = size) (hby : i.bytes = bytes) (hzs : z.cells.size = size) (hsz : 0 < size)
    (v : Value) (n : Nat) (xs : List Value) (hown : w.ownsRow base e size v n xs)
    (a : Addr) (m c : Nat) (news : List Value) (hl : news.length = m * size) (hnews : ∀ j u, news[j]? = some u → w.cell? (a.add j) = some u) (h1 : ∀ u ∈ news, u.oneCell' = true)
    (h63 : n + m ≤ maxLen) (hbytes : (n + m) * bytes ≤ 140737488355328) (hbase : base ≤ w.heap.size) :
    ∃ v' w', (Builtin.append_ #[t, t] ty #[v, .slice (some a) m c]).run P w = .ok v' w' ∧ w'.ownsRow base e size v' (n + m) (xs ++ news) ∧ w.grownBy w' v.ownBlock ∧ w'.ownsRow base e size v n xs := by
  obtain ⟨v', w', hr, ho, hg, _⟩ := run_append_own (P := P) w base t ty e i z size bytes ht hi hz hsize hby hzs hsz v n xs hown a m c news hl hnews h1 h63 hbytes hbase
  refine ⟨v', w', hr, ho, hg, ?_⟩
  subst hsize
  rcases hown.2 with ⟨rfl, rfl⟩ | ⟨g, cap, cur, rfl, hbg, hgg, hnc, hcm, hcs, htake⟩
  · have hx : xs = [] := List.eq_nil_of_length_eq_zero (by simpa using hown.1)
    subst hx
    exact World.ownsRow_nil w' base e _
  · by_cases hroom : n + m ≤ cap
    · have hfit : n * i.size + news.length ≤ cur.size := by rw [hl, hcs, ← Nat.add_mul]; exact Nat.mul_le_mul_right _ hroom
      have hr2 := run_append_room (P := P) w t ty e i ht hi g n cap cur hgg a m c news hl hnews h1 hroom hfit
      rw [hr] at hr2
      injection hr2 with _ hw
      subst hw
      refine ⟨hown.1, .inr ⟨g, cap, _, rfl, hbg, setRow_heap w g cur _ e _ hgg, hnc, hcm, ?_, ?_⟩⟩
      · simp only [List.size_toArray, List.length_append, List.length_take, List.length_drop, Array.length_toList]
        omega
      · rw [htake]
        simp only [List.append_assoc]
        rw [← hown.1]
        exact List.take_left
    · have holds : ∀ j u, xs[j]? = some u → w.cell? ((⟨g, 0, none⟩ : Addr).add j) = some u := hown.cells (g := g) rfl
      have hsmall : n + m ≤ 9223372036854775807 := by simp only [maxLen] at h63; omega
      have hr2 := run_append_grow (P := P) w t ty e i z ht hi hz ⟨g, 0, none⟩ n cap xs hown.1 holds a m c news hl hnews (by omega) (by omega) (growslice_fits (by omega) (by rw [hby]; exact hbytes))
      rw [hr] at hr2
      injection hr2 with _ hw
      subst hw
      exact World.ownsRow.alloc (w := w.drew) hown _

/-- the same, the source a row of the call's own too (or nil) -/
theorem run_append_two (w : World) (base base2 : Nat) (t ty e : TypeId) (i : TypeInfo) (z : Value) (size bytes : Nat) (ht : P.underlying t = some (.slice e)) (hi : P.info? e = some i) (hz : i.zero = some z)
    (hsize : i.size = size) (hby : i.bytes = bytes) (hzs : z.cells.size = size) (hsz : 0 < size)
    (v : Value) (n : Nat) (xs : List Value) (hown : w.ownsRow base e size v n xs)
    (x : Value) (m : Nat) (news : List Value) (hsrc : w.ownsRow base2 e size x m news) (h1 : ∀ u ∈ news, u.oneCell' = true)
    (h63 : n + m ≤ maxLen) (hbytes : (n + m) * bytes ≤ 140737488355328) (hbase : base ≤ w.heap.size) :
    ∃ v' w', (Builtin.append_ #[t, t] ty #[v, x]).run P w = .ok v' w' ∧ w'.ownsRow base e size v' (n + m) (xs ++ news) ∧ w.grownBy w' v.ownBlock ∧ w'.ownsRow base e size v n xs := by
  have hc := fun g hg => hsrc.cells (g := g) hg
  rcases hsrc.2 with ⟨rfl, rfl⟩ | ⟨g, cap, cur, rfl, _, _, _, _, _, _⟩
  · have hx : news = [] := List.eq_nil_of_length_eq_zero (by simpa using hsrc.1)
    subst hx
    refine ⟨v, w, run_append_owned_none (P := P) w base t ty e i size ht hi v n xs hown, by simpa using hown, ⟨rfl, rfl, rfl, Nat.le_refl _, fun _ _ _ => rfl⟩, hown⟩
  · exact run_append_keep w base t ty e i z size bytes ht hi hz hsize hby hzs hsz v n xs hown ⟨g, 0, none⟩ m cap news hsrc.1 (hc g rfl) h1 h63 hbytes hbase

theorem wpList_append_two (w : World) {ops : Array Oper} {rest : List Oper} {o : Oper} {a : Act} {Q : Exit → Act → World → Prop} (hgd : o.guard = none) (s x : Operand) (t : TypeId)
    (ho : o.op = .call { callee := .builtin .append, args := #[s, x], argTypes := #[t, t] })
    (base base2 : Nat) (e : TypeId) (i : TypeInfo) (z : Value) (size bytes : Nat) (ht : P.underlying t = some (.slice e)) (hi : P.info? e = some i) (hz : i.zero = some z)
    (hsize : i.size = size) (hby : i.bytes = bytes) (hzs : z.cells.size = size) (hsz : 0 < size)
    (v : Value) (n : Nat) (xs : List Value) (hs : a.eval s = v) (hown : w.ownsRow base e size v n xs)
    (vx : Value) (m : Nat) (news : List Value) (hx : a.eval x = vx) (hsrc : w.ownsRow base2 e size vx m news) (h1 : ∀ u ∈ news, u.oneCell' = true)
    (h63 : n + m ≤ maxLen) (hbytes : (n + m) * bytes ≤ 140737488355328) (hbase : base ≤ w.heap.size)
    (h : ∀ v' w', w'.ownsRow base e size v' (n + m) (xs ++ news) → w.grownBy w' v.ownBlock → w'.ownsRow base e size v n xs → wpList P ops Q rest (a.put o.dst v') w') : wpList P ops Q (o :: rest) a w := by
  refine wpList_plain hgd fun K hK => ?_
  obtain ⟨v', w', hr, h2, h3, h4⟩ := run_append_two (P := P) w base base2 t o.type e i z size bytes ht hi hz hsize hby hzs hsz v n xs hown vx m news hsrc h1 h63 hbytes hbase
  unfold Oper.wp execOp
  simp only [ho, resolve, invoke, builtin, Sem.run_bind, Sem.run_pure, Result.andThen_ok, List.map_toArray, List.map_cons, List.map_nil, hs, hx, hr]
  exact hK _ _ (h v' w' h2 h3 h4)
end

/-- bytes as cells -/
def bc (l : List UInt8) : List Value := l.map fun b => Value.int .u8 (b.toNat : Int)
theorem bc_length (l : List UInt8) : (bc l).length = l.length := by simp [bc]
theorem bc_append (l m : List UInt8) : bc l ++ bc m = bc (l ++ m) := by simp [bc]
theorem bc_one (l : List UInt8) : ∀ u ∈ bc l, u.oneCell' = true := by
  intro u hu
  obtain ⟨_, _, rfl⟩ := List.mem_map.1 hu
  rfl

theorem run_conv {w : World} {base : Nat} {v : Value} {l : List UInt8} (h : w.ownsRow base 5 1 v l.length (bc l)) :
    (convert 26 9 v).run Yba.prog w = .ok (.string ⟨l.toArray⟩) w := by
  have hc := fun g hg => h.cells (g := g) hg
  rcases h.2 with ⟨rfl, h0⟩ | ⟨g, cap, cur, rfl, _⟩
  · have : l = [] := List.eq_nil_of_length_eq_zero h0
    subst this
    exact run_convert_bytes_nil w 26 5 Yba.underlying26 Yba.underlying5 0 0 9 Yba.underlying9
  · refine run_convert_bytes_back w 26 9 5 ⟨g, 0, none⟩ cap l Yba.underlying26 Yba.underlying5 Yba.underlying9 fun j hj => ?_
    exact hc g rfl j _ (by simp [bc, hj])

theorem info5 : (Yba.prog.info? 5).map (fun i => (i.zero, i.size, i.bytes)) = some (some (.int .u8 0), 1, 1) := by kernel_rfl

/-- 'append' on []byte at this program's numbers, both rows the call's own -/
theorem wp_app (w : World) {ops : Array Oper} {rest : List Oper} {o : Oper} {a : Act} {Q : Exit → Act → World → Prop} (hgd : o.guard = none) (s x : Operand)
    (ho : o.op = .call { callee := .builtin .append, args := #[s, x], argTypes := #[26, 26] }) (base base2 : Nat)
    (v : Value) (l : List UInt8) (hs : a.eval s = v) (hown : w.ownsRow base 5 1 v l.length (bc l))
    (vx : Value) (l2 : List UInt8) (hx : a.eval x = vx) (hsrc : w.ownsRow base2 5 1 vx l2.length (bc l2))
    (hb : l.length + l2.length ≤ 100000) (hbase : base ≤ w.heap.size)
    (h : ∀ v' w', w'.ownsRow base 5 1 v' (l ++ l2).length (bc (l ++ l2)) → w.grownBy w' v.ownBlock → w'.ownsRow base 5 1 v l.length (bc l) → wpList Yba.prog ops Q rest (a.put o.dst v') w') :
    wpList Yba.prog ops Q (o :: rest) a w := by
  obtain ⟨i, hi, hz, hsz, hby⟩ := info_parts info5
  refine wpList_append_two w hgd s x 26 ho base base2 5 i (.int .u8 0) 1 1 Yba.underlying26 hi hz hsz hby rfl (by decide) v l.length (bc l) hs hown vx l2.length (bc l2) hx hsrc (bc_one l2)
    (by unfold maxLen; omega) (by omega) hbase fun v' w' h1 h2 h3 => h v' w' ?_ h2 h3
  rw [List.length_append, ← bc_append]
  exact h1

/-- a literal '[]byte{p}' -/
theorem lit_own (w : World) (base : Nat) (hb : base ≤ w.heap.size) (p : UInt8) :
    (w.alloc (.cells #[.int .u8 (p.toNat : Int)] 5)).ownsRow base 5 1 (.slice (some ⟨w.heap.size, 0, none⟩) 1 1) [p].length (bc [p]) :=
  World.ownsRow_lit w #[.int .u8 (p.toNat : Int)] 1 hb (by decide) rfl

end Go.Proofs.Ybulkckee
