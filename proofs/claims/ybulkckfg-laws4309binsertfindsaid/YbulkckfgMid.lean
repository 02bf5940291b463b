import Derived.Test.YbulkckfgKeyAt2
namespace Go.Proofs.Ybulkckfg
open Go.ChangeShapes Go.WideShapes Go.ChangeAt Go.RowKit

theorem OwnR.form2 {w : World} {base : Nat} {e : TypeId} {v : Value} {xs : List Value} (h : OwnR w base e v xs) : ∃ a cap, v = .slice a xs.length cap := by
  rcases h.form with ⟨rfl, rfl⟩ | ⟨g, cap, rfl, _⟩
  · exact ⟨none, 0, rfl⟩
  · exact ⟨some ⟨g, 0, none⟩, cap, rfl⟩

def nums (l : List Nat) : List Value := l.map fun n : Nat => Value.int .u64 (n : Int)
theorem nums_length (l : List Nat) : (nums l).length = l.length := by simp [nums]
theorem nums_snoc (l : List Nat) (n : Nat) : nums l ++ [.int .u64 (n : Int)] = nums (l ++ [n]) := by simp [nums]
theorem nums_one (l : List Nat) : ∀ u ∈ nums l, u.oneCell' = true := by
  intro u hu
  obtain ⟨_, _, rfl⟩ := List.mem_map.1 hu
  rfl

/-- The key set in mid-walk: the struct's block (at 'b', of cells 'blk'), the row of chunk headers, the row of slots, the chunks' rows. -/
structure Mid (w W : World) (blk : Array Value) (vch : Value) (hs : List Value) (vsl : Value) (sls : List Nat) (crs : List R) : Prop where
  blk : W.heap[w.heap.size]? = some (.cells blk 30)
  own : Own W (w.heap.size + 1) (⟨26, vch, hs⟩ :: ⟨24, vsl, nums sls⟩ :: crs)
  bel : Below w.heap.size w W
  sz : w.heap.size + 1 ≤ W.heap.size

section
variable {w W W' : World} {blk : Array Value} {vch : Value} {hs : List Value} {vsl : Value} {sls : List Nat} {crs : List R}

theorem Mid.ch (h : Mid w W blk vch hs vsl sls crs) : OwnR W (w.heap.size + 1) 26 vch hs := h.own.own 0 _ rfl
theorem Mid.sl (h : Mid w W blk vch hs vsl sls crs) : OwnR W (w.heap.size + 1) 24 vsl (nums sls) := h.own.own 1 _ rfl
theorem Mid.row (h : Mid w W blk vch hs vsl sls crs) {j : Nat} {r : R} (hj : crs[j]? = some r) : OwnR W (w.heap.size + 1) r.e r.v r.xs := h.own.own (j + 2) _ (by simpa using hj)
theorem Mid.cell (h : Mid w W blk vch hs vsl sls crs) (j : Nat) : W.cell? ⟨w.heap.size, j, none⟩ = blk[j]? := cell_of_row W _ j blk 30 (0, 0) h.blk
theorem Mid.frozen (h : Mid w W blk vch hs vsl sls crs) (j : Nat) : W.frozen? ⟨w.heap.size, j, none⟩ = false := frozen_of_row W _ j blk 30 h.blk

theorem Mid.kept_blk (h : Mid w W blk vch hs vsl sls crs) {row : Option Nat} (hg : W.grownBy W' row) (hr : ∀ k, row = some k → w.heap.size + 1 ≤ k) :
    W'.heap[w.heap.size]? = some (.cells blk 30) ∧ Below w.heap.size w W' ∧ w.heap.size + 1 ≤ W'.heap.size := by
  have hs := h.sz
  refine ⟨?_, h.bel.grown hg (by omega) (fun k hk => by have := hr k hk; omega), by have := hg.size; omega⟩
  rw [hg.block _ (by omega) (fun e => by have := hr _ e.symm; omega)]
  exact h.blk

theorem Mid.grown (h : Mid w W blk vch hs vsl sls crs) (hg : W.grownBy W' none) : Mid w W' blk vch hs vsl sls crs := by
  obtain ⟨h1, h2, h3⟩ := h.kept_blk hg (fun k hk => by cases hk)
  exact ⟨h1, h.own.grown hg, h2, h3⟩
theorem Mid.alloc (h : Mid w W blk vch hs vsl sls crs) (o : Obj) : Mid w (W.alloc o) blk vch hs vsl sls crs := h.grown (World.grownBy_alloc W o none)
theorem Mid.drewN (h : Mid w W blk vch hs vsl sls crs) (n : Nat) : Mid w (W.drewN n) blk vch hs vsl sls crs := ⟨h.blk, h.own.drewN n, below_drewN h.bel n, h.sz⟩

/-- a store into the struct's block -/
theorem Mid.field (h : Mid w W blk vch hs vsl sls crs) (j : Nat) (u : Value) : Mid w (W.setCell ⟨w.heap.size, j, none⟩ u) (blk.setIfInBounds j u) vch hs vsl sls crs := by
  have hg : W.grownBy (W.setCell ⟨w.heap.size, j, none⟩ u) (some w.heap.size) := ⟨rfl, rfl, rfl, by simp [World.setCell], fun k _ hk => heap_setCell_other W ⟨w.heap.size, j, none⟩ k u (fun e => hk (by simp [e]))⟩
  exact ⟨heap_setCell_same W _ j blk 30 u h.blk, h.own.low hg (by omega), h.bel.setCell (Nat.le_refl _) u, by simpa [World.setCell] using h.sz⟩

/-- the row of headers turned -/
theorem Mid.updCh (h : Mid w W blk vch hs vsl sls crs) (hg : W.grownBy W' vch.ownBlock) {v' : Value} {xs' : List Value} (ho : OwnR W' (w.heap.size + 1) 26 v' xs') (hp : Place W vch v') : Mid w W' blk v' xs' vsl sls crs := by
  obtain ⟨h1, h2, h3⟩ := h.kept_blk hg (fun k hk => (h.ch.lt k hk).1)
  exact ⟨h1, h.own.upd (i := 0) (r := ⟨26, vch, hs⟩) rfl hg ho hp, h2, h3⟩
/-- the row of slots turned -/
theorem Mid.updSl (h : Mid w W blk vch hs vsl sls crs) (hg : W.grownBy W' vsl.ownBlock) {v' : Value} {sls' : List Nat} (ho : OwnR W' (w.heap.size + 1) 24 v' (nums sls')) (hp : Place W vsl v') : Mid w W' blk vch hs v' sls' crs := by
  obtain ⟨h1, h2, h3⟩ := h.kept_blk hg (fun k hk => (h.sl.lt k hk).1)
  exact ⟨h1, h.own.upd (i := 1) (r := ⟨24, vsl, nums sls⟩) rfl hg ho hp, h2, h3⟩
/-- a chunk turned -/
theorem Mid.updRow (h : Mid w W blk vch hs vsl sls crs) {j : Nat} {r : R} (hj : crs[j]? = some r) (hg : W.grownBy W' r.v.ownBlock) {v' : Value} {xs' : List Value} (ho : OwnR W' (w.heap.size + 1) r.e v' xs') (hp : Place W r.v v') :
    Mid w W' blk vch hs vsl sls (crs.set j ⟨r.e, v', xs'⟩) := by
  obtain ⟨h1, h2, h3⟩ := h.kept_blk hg (fun k hk => ((h.row hj).lt k hk).1)
  exact ⟨h1, by simpa using h.own.upd (i := j + 2) (r := r) (by simpa using hj) hg ho hp, h2, h3⟩
/-- the last chunk turned -/
theorem Mid.updLast {crs0 : List R} {v : Value} {l : List UInt8} (h : Mid w W blk vch hs vsl sls (crs0 ++ [⟨5, v, bc l⟩])) (hg : W.grownBy W' v.ownBlock) {v' : Value} {l' : List UInt8} (ho : OwnR W' (w.heap.size + 1) 5 v' (bc l')) (hp : Place W v v') :
    Mid w W' blk vch hs vsl sls (crs0 ++ [⟨5, v', bc l'⟩]) := by
  have := h.updRow (j := crs0.length) (r := ⟨5, v, bc l⟩) (by simp) hg ho hp
  simpa using this
/-- a chunk more, nil -/
theorem Mid.pushNil (h : Mid w W blk vch hs vsl sls crs) : Mid w W blk vch hs vsl sls (crs ++ [⟨5, .slice none 0 0, bc []⟩]) :=
  ⟨h.blk, by
    have := h.own.push ⟨5, .slice none 0 0, bc []⟩ (OwnR.nil W _ 5) (fun i a _ => .inl rfl)
    simpa using this, h.bel, h.sz⟩
/-- a header stored -/
theorem Mid.storeCh {g n cap : Nat} (h : Mid w W blk (.slice (some ⟨g, 0, none⟩) n cap) hs vsl sls crs) (hn : hs.length = n) (j : Nat) (u : Value) :
    Mid w (W.setCell ⟨g, j, none⟩ u) blk (.slice (some ⟨g, 0, none⟩) n cap) (hs.set j u) vsl sls crs := by
  obtain ⟨h1, h2⟩ := h.own.store (i := 0) (e := 26) (g := g) (n := n) (cap := cap) (xs := hs) rfl hn j u
  obtain ⟨h3, h4, h5⟩ := h.kept_blk h2 (fun k hk => by cases hk; exact (h.ch.lt g rfl).1)
  exact ⟨h3, by simpa using h1, h4, h5⟩
end

/-- the chunks' rows out of headers and contents -/
def crows (hs : List Value) (ls : List (List UInt8)) : List R := List.zipWith (fun h l => (⟨5, h, bc l⟩ : R)) hs ls
theorem crows_snoc (hs : List Value) (ls : List (List UInt8)) (h : Value) (l : List UInt8) (he : hs.length = ls.length) : crows (hs ++ [h]) (ls ++ [l]) = crows hs ls ++ [⟨5, h, bc l⟩] := by
  unfold crows
  rw [List.zipWith_append he]
  rfl
theorem crows_length (hs : List Value) (ls : List (List UInt8)) (he : hs.length = ls.length) : (crows hs ls).length = ls.length := by
  unfold crows; simp [he]
theorem crows_at (hs : List Value) (ls : List (List UInt8)) (c : Nat) (h : Value) (l : List UInt8) (h1 : hs[c]? = some h) (h2 : ls[c]? = some l) : (crows hs ls)[c]? = some ⟨5, h, bc l⟩ := by
  unfold crows
  rw [List.getElem?_zipWith, h1, h2]

/-- a chunk that holds something, opened for reading -/
theorem key_open {w W : World} {blk : Array Value} {vch : Value} {hs : List Value} {vsl : Value} {sls : List Nat} {ls : List (List UInt8)} (hM : Mid w W blk vch hs vsl sls (crows hs ls)) (hl : hs.length = ls.length)
    {c : Nat} {l : List UInt8} (hc : ls[c]? = some l) (hne : l ≠ []) :
    ∃ gch capch g cap, vch = .slice (some ⟨gch, 0, none⟩) hs.length capch ∧ c < hs.length ∧ W.cell? ⟨gch, c, none⟩ = some (.slice (some ⟨g, 0, none⟩) l.length cap) ∧ l.length ≤ cap ∧ cap ≤ maxLen ∧
      (∀ j (hj : j < l.length), W.cell? ⟨g, j, none⟩ = some (.int .u8 (l[j].toNat : Int))) := by
  have hclt : c < ls.length := (List.getElem?_eq_some_iff.1 hc).1
  have hch : hs[c]? = some hs[c] := List.getElem?_eq_getElem (by omega)
  have hrow := hM.row (crows_at hs ls c hs[c] l hch hc)
  simp only at hrow
  rcases hM.ch.form with ⟨_, h0⟩ | ⟨gch, capch, hv, _, _, _, _, hcells⟩
  · rw [h0] at hl; simp at hl; omega
  · have hr2 := hrow
    rcases hrow.2 with ⟨_, h0⟩ | ⟨g, cap, cur, hv2, _, _, hnc, hcm, _, _⟩
    · rw [bc_length] at h0
      exact absurd (List.eq_nil_of_length_eq_zero h0) hne
    · rw [bc_length] at hv2 hnc
      refine ⟨gch, capch, g, cap, hv, by omega, ?_, hnc, hcm, fun j hj => ?_⟩
      · rw [hcells c (by omega), hch, hv2]
      · have := hr2.cells (g := g) (by rw [hv2]; rfl) j _ (bc_at l j hj)
        rwa [addr_add, Nat.zero_add] at this

end Go.Proofs.Ybulkckfg
