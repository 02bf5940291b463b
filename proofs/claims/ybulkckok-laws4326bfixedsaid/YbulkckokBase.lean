import Derived.Test.YbulkckokLay
namespace Go.Proofs.Ybulkckok
open Go.ChangeShapes Go.WideShapes Go.ChangeAt Go.RowKit Plain

theorem info5 : (Yba.prog.info? 5).map (fun i => (i.zero, i.size, i.bytes)) = some (some (.int .u8 0), 1, 1) := by kernel_rfl
theorem info24 : (Yba.prog.info? 24).map (fun i => (i.zero, i.size, i.bytes)) = some (some (.slice none 0 0), 1, 24) := by kernel_rfl

/-- what stands once the layout is drawn -/
structure Laid (w W : World) (sz f la n : Nat) : Prop where
  ok : Ok sz f la n
  lay : W.heap[w.heap.size]? = some (.cells #[.int .i64 sz, .int .i64 f, .int .i64 la] 36)
  bel : Below w.heap.size w W
  roomy : w.heap.size + 1 ≤ W.heap.size

theorem laid_store {w W : World} {z : Array Value} {sz f la n : Nat} {a b c : Value} (hB : W.heap[w.heap.size]? = some (.cells #[a, b, c] 36)) (hG : (w.alloc (.cells z 36)).grownBy W none) (hok : Ok sz f la n) :
    Laid w (((W.setCell ⟨w.heap.size, 0, none⟩ (.int .i64 sz)).setCell ⟨w.heap.size, 1, none⟩ (.int .i64 f)).setCell ⟨w.heap.size, 2, none⟩ (.int .i64 la)) sz f la n := by
  have hlt : w.heap.size < W.heap.size := (Array.getElem?_eq_some_iff.1 hB).1
  refine ⟨hok, ?_, ?_, by simp; omega⟩
  · have h1 := heap_setCell_same W w.heap.size 0 _ 36 (.int .i64 sz) hB
    have h2 := heap_setCell_same _ w.heap.size 1 _ 36 (.int .i64 f) h1
    have h3 := heap_setCell_same _ w.heap.size 2 _ 36 (.int .i64 la) h2
    rw [h3]
    rfl
  · have h0 : Below w.heap.size w W := ((Below.refl _ _).alloc (Nat.le_refl _) _).grown hG (by simp) (fun k hk => by cases hk)
    exact ((h0.setCell (Nat.le_refl _) _).setCell (Nat.le_refl _) _).setCell (Nat.le_refl _) _

/-- the world of the filling loop: the layout, the chunks' headers and the chunks -/
structure Base (w W : World) (sz f la : Nat) (vch : Value) (hs : List Value) (ls : List (List UInt8)) : Prop where
  lay : W.heap[w.heap.size]? = some (.cells #[.int .i64 sz, .int .i64 f, .int .i64 la] 36)
  bel : Below w.heap.size w W
  roomy : w.heap.size + 1 ≤ W.heap.size
  own : Own W (w.heap.size + 1) (⟨24, vch, hs⟩ :: crows hs ls)
  hl : hs.length = ls.length

theorem Base.start {w W : World} {sz f la n : Nat} (h : Laid w W sz f la n) : Base w W sz f la (.slice none 0 0) [] [] :=
  ⟨h.lay, h.bel, h.roomy, ⟨fun i r hi => by
    cases i with
    | zero => simp at hi; subst hi; exact OwnR.nil _ _ _
    | succ i => simp [crows] at hi, fun i j a b hij ha hb => by
      cases i <;> cases j <;> simp_all [crows]⟩, rfl⟩

theorem Base.cells {w W : World} {sz f la : Nat} {vch : Value} {hs : List Value} {ls : List (List UInt8)} (h : Base w W sz f la vch hs ls) :
    W.cell? ⟨w.heap.size, 0, none⟩ = some (.int .i64 sz) ∧ W.cell? ⟨w.heap.size, 1, none⟩ = some (.int .i64 f) ∧ W.cell? ⟨w.heap.size, 2, none⟩ = some (.int .i64 la) :=
  ⟨by rw [cell_of_row W _ 0 _ _ _ h.lay]; rfl, by rw [cell_of_row W _ 1 _ _ _ h.lay]; rfl, by rw [cell_of_row W _ 2 _ _ _ h.lay]; rfl⟩

theorem Base.ch {w W : World} {sz f la : Nat} {vch : Value} {hs : List Value} {ls : List (List UInt8)} (h : Base w W sz f la vch hs ls) : OwnR W (w.heap.size + 1) 24 vch hs := h.own.own 0 ⟨24, vch, hs⟩ rfl

/-- a world that grew, no row of ours turned -/
theorem Base.grown {w W W' : World} {sz f la : Nat} {vch : Value} {hs : List Value} {ls : List (List UInt8)} (h : Base w W sz f la vch hs ls) (hg : W.grownBy W' none) : Base w W' sz f la vch hs ls :=
  ⟨(hg.block _ (by have := h.roomy; omega) (by simp)).trans h.lay, h.bel.grown hg (by have := h.roomy; omega) (fun k hk => by cases hk), Nat.le_trans h.roomy hg.size, h.own.grown hg, h.hl⟩

theorem bc_zero (M : Nat) : List.replicate M (Value.int .u8 0) = bc (List.replicate M 0) := by simp [bc]

/-- a chunk more -/
theorem Base.more {w W W1 W3 : World} {sz f la M : Nat} {vch v' : Value} {hs : List Value} {ls : List (List UInt8)} {o : Obj} (h : Base w W sz f la vch hs ls) (hg1 : W.grownBy W1 none)
    (ho1 : OwnR W1 (w.heap.size + 1) 5 (.slice (some ⟨W.heap.size, 0, none⟩) M M) (List.replicate M (.int .u8 0)))
    (hg2 : (W1.alloc o).grownBy W3 vch.ownBlock) (ho3 : OwnR W3 (w.heap.size + 1) 24 v' (hs ++ [.slice (some ⟨W.heap.size, 0, none⟩) M M])) (hp : Place (W1.alloc o) vch v') :
    Base w W3 sz f la v' (hs ++ [.slice (some ⟨W.heap.size, 0, none⟩) M M]) (ls ++ [List.replicate M 0]) := by
  have hb1 := (h.grown hg1).grown (World.grownBy_alloc W1 o none)
  have hpush := ((h.own.grown hg1).push ⟨5, .slice (some ⟨W.heap.size, 0, none⟩) M M, bc (List.replicate M 0)⟩ (by rw [← bc_zero]; exact ho1) (fun i a ha => .inr fun e => by
    have := ((h.own.own i a ha).lt W.heap.size e.symm).2
    omega)).alloc o
  have hup := hpush.upd (i := 0) (r := ⟨24, vch, hs⟩) rfl hg2 ho3 hp
  have hvb : ∀ k, vch.ownBlock = some k → w.heap.size + 1 ≤ k := fun k hk => (h.ch.lt k hk).1
  refine ⟨(hg2.block _ (by have := hb1.roomy; omega) (fun e => by have := hvb _ e.symm; omega)).trans hb1.lay, hb1.bel.grown hg2 (by have := hb1.roomy; omega) (fun k hk => by have := hvb k hk; omega), Nat.le_trans hb1.roomy hg2.size, ?_, by simp [h.hl]⟩
  rw [crows_snoc _ _ _ _ h.hl]
  exact hup

/-- a byte of the last chunk stored -/
theorem Base.store {w W : World} {sz f la g n cap : Nat} {vch : Value} {hs : List Value} {ls : List (List UInt8)} {m : List UInt8} (h : Base w W sz f la vch (hs ++ [.slice (some ⟨g, 0, none⟩) n cap]) (ls ++ [m])) (hm : m.length = n) (k : Nat) (b : UInt8) :
    Base w (W.setCell ⟨g, k, none⟩ (.int .u8 (b.toNat : Int))) sz f la vch (hs ++ [.slice (some ⟨g, 0, none⟩) n cap]) (ls ++ [m.set k b]) := by
  have hl : hs.length = ls.length := by have := h.hl; simpa using this
  have ho := h.own
  rw [crows_snoc _ _ _ _ hl] at ho
  have hi : ((⟨24, vch, hs ++ [.slice (some ⟨g, 0, none⟩) n cap]⟩ : R) :: (crows hs ls ++ [⟨5, .slice (some ⟨g, 0, none⟩) n cap, bc m⟩]))[(crows hs ls).length + 1]? = some ⟨5, .slice (some ⟨g, 0, none⟩) n cap, bc m⟩ := by simp
  have hgb := (ho.own _ _ hi).lt g rfl
  obtain ⟨h1, h2⟩ := ho.store hi (by rw [bc_length]; exact hm) k (.int .u8 (b.toNat : Int))
  refine ⟨(h2.block _ (by have := h.roomy; omega) (fun e => by have := Option.some.inj e; omega)).trans h.lay, h.bel.setCell (by show _ ≤ g; omega) _, Nat.le_trans h.roomy h2.size, ?_, by simpa using hl⟩
  rw [crows_snoc _ _ _ _ hl]
  have hbc : (bc m).set k (.int .u8 (b.toNat : Int)) = bc (m.set k b) := by simp [bc, List.map_set]
  rw [hbc] at h1
  simpa using h1

/-- chunk c's header and bytes -/
theorem Base.chunk {w W : World} {sz f la c : Nat} {vch : Value} {hs : List Value} {ls : List (List UInt8)} {l : List UInt8} (h : Base w W sz f la vch hs ls) (hc : ls[c]? = some l) (hne : l ≠ []) :
    ∃ gch capch g cap, vch = .slice (some ⟨gch, 0, none⟩) hs.length capch ∧ hs[c]? = some (.slice (some ⟨g, 0, none⟩) l.length cap) ∧ W.cell? ⟨gch, c, none⟩ = some (.slice (some ⟨g, 0, none⟩) l.length cap) ∧ l.length ≤ cap ∧ cap ≤ 9223372036854775807 ∧ w.heap.size + 1 ≤ g ∧ g < W.heap.size ∧
      (∀ k, W.frozen? ⟨g, k, none⟩ = false) ∧ ∀ k (hk : k < l.length), W.cell? ⟨g, k, none⟩ = some (.int .u8 (l[k].toNat : Int)) := by
  have hcl : c < ls.length := (List.getElem?_eq_some_iff.1 hc).1
  have hch : c < hs.length := by rw [h.hl]; exact hcl
  have hrow := crows_at hs ls c hs[c] l (List.getElem?_eq_getElem hch) hc
  have ho := h.own.own (c + 1) ⟨5, hs[c], bc l⟩ (by simpa using hrow)
  rcases h.ch.form with ⟨_, h0⟩ | ⟨gch, capch, hv, _, _, _, _, hcs⟩
  · subst h0; simp at hch
  · rcases ho.form with ⟨_, h0⟩ | ⟨g, cap, hv2, hb, hlt, hle, hfr, hbs⟩
    · exact absurd (List.map_eq_nil_iff.1 h0) hne
    · simp only [bc_length] at hv2 hle hbs
      have hcap : cap ≤ 9223372036854775807 := by
        rw [hv2] at ho
        rcases ho.2 with ⟨h0, _⟩ | ⟨g', cap', cur, h1, _, _, _, hcm, _⟩
        · cases h0
        · simp only [Value.slice.injEq] at h1
          obtain ⟨_, _, rfl⟩ := h1
          exact hcm
      refine ⟨gch, capch, g, cap, hv, by rw [List.getElem?_eq_getElem hch, hv2], by rw [hcs c hch, List.getElem?_eq_getElem hch, hv2], hle, hcap, hb, hlt, hfr, fun k hk => ?_⟩
      rw [hbs k hk, bc_at l k hk]

theorem start_ge (f la c : Nat) : c ≤ Plain.start f la c := by
  induction c with
  | zero => exact Nat.zero_le _
  | succ c ih =>
    have := per_pos f la c
    simp only [Plain.start]
    omega
theorem per_le (f la c : Nat) (h : la ≤ 10) : per f la c ≤ 1024 := by
  have : per f la c ≤ 2 ^ 10 := Nat.pow_le_pow_right (by decide) (by omega)
  simpa using this
end Go.Proofs.Ybulkckok
