import Derived.Test.YbulkckfgInsert
namespace Go.Proofs.Ybulkckfg
open Go.ChangeShapes Go.WideShapes Go.ChangeAt Go.RowKit

section
variable {P : Program}
/-- 'make([]T, 0, n)' as a step of a region that draws -/
theorem step_make_R {cb : Bool} (hcb : cb = true) {o : Oper} {a : Act} {w : World} {K : Act → World → Prop} {Q : Exit → Act → World → Prop} {E : Prop} (l c : Operand) (t : TypeId) (hop : o.op = Op.makeSlice t l c)
    (base : Nat) (e : TypeId) (bytes : Nat) (z : Value) (ht : P.underlying t = some (.slice e)) (hinfo : (P.info? e).map (fun i => (i.zero, i.size, i.bytes)) = some (some z, 1, bytes))
    (kl kc : IntKind) (C : Int) (n : Nat) (hl : a.eval l = .int kl 0) (hc : a.eval c = .int kc C) (hC : C = (n : Int)) (b2 : bytes * n ≤ 281474976710656) (b3 : n ≤ maxLen) (b4 : base ≤ w.heap.size)
    (h : ∀ w', OwnR w' base e (.slice (some ⟨w.heap.size, 0, none⟩) 0 n) [] → w.grownBy w' none → K (a.put o.dst (.slice (some ⟨w.heap.size, 0, none⟩) 0 n)) w') :
    if cb = true then Oper.wp P o a w K Q else E := by
  rw [if_pos hcb]
  obtain ⟨i, hi, hz, hsz, hby⟩ := info_parts hinfo
  obtain ⟨w', hrun, r1, r2⟩ := run_make_own (P := P) w base t e i z 1 ht hi hz hsz kl kc n (by rw [hby]; exact b2) b3 b4
  subst hC
  unfold Oper.wp
  simp [execOp, hop, hl, hc, hrun, Result.andThen]
  exact h w' r1 r2
end

/-- two rows change places -/
theorem Own.swap {W : World} {base : Nat} {x a b : R} {l : List R} (h : Own W base (x :: a :: (l ++ [b]))) : Own W base (x :: b :: (l ++ [a])) := by
  have key : ∀ (i : Nat) (r : R), (x :: b :: (l ++ [a]))[i]? = some r → (x :: a :: (l ++ [b]))[if i = 1 then l.length + 2 else if i = l.length + 2 then 1 else i]? = some r := by
    intro i r hi
    by_cases h1 : i = 1
    · subst h1
      simp at hi ⊢
      exact hi
    · by_cases h2 : i = l.length + 2
      · subst h2
        simp at hi ⊢
        exact hi
      · rw [if_neg h1, if_neg h2]
        match i, h1, h2 with
        | 0, _, _ => simpa using hi
        | j + 2, _, h2 =>
          have hj : j < l.length := by
            have := (List.getElem?_eq_some_iff.1 hi).1
            simp at this
            omega
          simp only [List.getElem?_cons_succ] at hi ⊢
          rw [List.getElem?_append_left hj] at hi ⊢
          exact hi
  refine ⟨fun i r hi => h.own _ r (key i r hi), fun i j r s hij hi hj => h.sep _ _ r s ?_ (key i r hi) (key j s hj)⟩
  intro e
  by_cases a1 : i = 1 <;> by_cases a2 : i = l.length + 2 <;> by_cases b1 : j = 1 <;> by_cases b2 : j = l.length + 2 <;> simp [a1, a2, b1, b2] at e <;> omega

/-- a row less -/
theorem Own.less {W : World} {base : Nat} {l : List R} {b : R} (h : Own W base (l ++ [b])) : Own W base l :=
  ⟨fun i r hi => h.own i r (by rw [List.getElem?_append_left (List.getElem?_eq_some_iff.1 hi).1]; exact hi), fun i j r s hij hi hj => h.sep i j r s hij (by rw [List.getElem?_append_left (List.getElem?_eq_some_iff.1 hi).1]; exact hi) (by rw [List.getElem?_append_left (List.getElem?_eq_some_iff.1 hj).1]; exact hj)⟩

section
variable {w W W1 W3 : World} {blk : Array Value} {vch : Value} {hs : List Value} {vsl : Value} {sls : List Nat} {crs : List R}

theorem Mid.less {b : R} (h : Mid w W blk vch hs vsl sls (crs ++ [b])) : Mid w W blk vch hs vsl sls crs :=
  ⟨h.blk, by have := h.own; rw [← List.cons_append, ← List.cons_append] at this; exact this.less, h.bel, h.sz⟩

/-- a row of the call's own that is new -/
theorem Mid.push {b : R} (h : Mid w W blk vch hs vsl sls crs) (hg : W.grownBy W1 none) (ho : OwnR W1 (w.heap.size + 1) b.e b.v b.xs) (hv : b.v.ownBlock = some W.heap.size) : Mid w W1 blk vch hs vsl sls (crs ++ [b]) := by
  have h1 := h.grown hg
  refine ⟨h1.blk, ?_, h1.bel, h1.sz⟩
  have := h1.own.push b ho (fun i a ha => .inr fun e => by
    rw [hv] at e
    have := ((h.own.own i a ha).lt _ e.symm).2
    omega)
  simpa using this

/-- a chunk more, empty -/
theorem Mid.more {v' : Value} {ch : Nat} {o : Obj} (h : Mid w W blk vch hs vsl sls crs) (hg1 : W.grownBy W1 none) (ho1 : OwnR W1 (w.heap.size + 1) 5 (.slice (some ⟨W.heap.size, 0, none⟩) 0 ch) [])
    (hg2 : (W1.alloc o).grownBy W3 vch.ownBlock) (ho3 : OwnR W3 (w.heap.size + 1) 26 v' (hs ++ [.slice (some ⟨W.heap.size, 0, none⟩) 0 ch])) (hp : Place (W1.alloc o) vch v') :
    Mid w W3 blk v' (hs ++ [.slice (some ⟨W.heap.size, 0, none⟩) 0 ch]) vsl sls (crs ++ [⟨5, .slice (some ⟨W.heap.size, 0, none⟩) 0 ch, bc []⟩]) :=
  ((h.push (b := ⟨5, .slice (some ⟨W.heap.size, 0, none⟩) 0 ch, bc []⟩) hg1 ho1 rfl).alloc o).updCh hg2 ho3 hp

theorem nums_zero (M : Nat) : List.replicate M (Value.int .u64 0) = nums (List.replicate M 0) := by simp [nums]

/-- a new table, the old one kept aside -/
theorem Mid.table {M : Nat} (h : Mid w W blk vch hs vsl sls crs) (hg1 : W.grownBy W1 none) (ho1 : OwnR W1 (w.heap.size + 1) 24 (.slice (some ⟨W.heap.size, 0, none⟩) M M) (List.replicate M (.int .u64 0))) :
    Mid w W1 blk vch hs (.slice (some ⟨W.heap.size, 0, none⟩) M M) (List.replicate M 0) (crs ++ [⟨24, vsl, nums sls⟩]) := by
  have h1 := h.push (b := ⟨24, .slice (some ⟨W.heap.size, 0, none⟩) M M, nums (List.replicate M 0)⟩) hg1 (by rw [← nums_zero]; exact ho1) rfl
  exact ⟨h1.blk, h1.own.swap, h1.bel, h1.sz⟩
end

/-- the key set with a chunk more -/
theorem KS.more {w W W' : World} {vch vsl v' h : Value} {n bys : Nat} {hs : List Value} {ls : List (List UInt8)} {sls sv : List Nat} {H : Nat → Nat} {KU : Nat → List UInt8} (hk : KS w W vch vsl n bys hs ls sls sv H KU)
    (hM : Mid w W' #[v', vsl, .int .i64 n, .int .i64 bys] v' (hs ++ [h]) vsl sls (crows hs ls ++ [⟨5, h, bc []⟩])) : KS w W' v' vsl n bys (hs ++ [h]) (ls ++ [[]]) sls sv H KU :=
  ⟨by rw [crows_snoc _ _ _ _ hk.hl]; exact hM, by simp [hk.hl], hk.svl, fun i v hi => (hk.ent i v hi).snoc [], hk.tab, hk.pow⟩

/-- the key set under a new table -/
theorem KS.retab {w W W' : World} {vch vsl vsl' : Value} {n bys m : Nat} {hs : List Value} {ls : List (List UInt8)} {sls sls' sv : List Nat} {H : Nat → Nat} {KU : Nat → List UInt8} (hk : KS w W vch vsl n bys hs ls sls sv H KU)
    (hM : Mid w W' #[vch, vsl', .int .i64 n, .int .i64 bys] vch hs vsl' sls' (crows hs ls)) (ht : Tab sls' (SV sv H) n) (hm : sls'.length = 2 ^ m) (hm2 : m ≤ 20) (h2 : 2 * n ≤ sls'.length) : KS w W' vch vsl' n bys hs ls sls' sv H KU :=
  ⟨hM, hk.hl, hk.svl, hk.ent, ht, .inr ⟨m, hm, hm2, h2⟩⟩
end Go.Proofs.Ybulkckfg
