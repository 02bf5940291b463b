/-
  The plain law of the fixed layout: no Go in sight.
-/
import Derived.Lib.BitFns
namespace Go.Proofs.Ybulkckok.Plain

/-- how many strings chunk c holds -/
def per (f la c : Nat) : Nat := 2 ^ min (f + c) la
/-- the number of chunk c's first string -/
def start (f la : Nat) : Nat → Nat
  | 0 => 0
  | c + 1 => start f la c + per f la c

theorem per_pos (f la c : Nat) : 0 < per f la c := Nat.two_pow_pos _
theorem start_mono (f la c c' : Nat) (h : c ≤ c') : start f la c ≤ start f la c' := by
  induction c' with
  | zero => have : c = 0 := by omega
            subst this; exact Nat.le_refl _
  | succ n ih =>
    by_cases hc : c = n + 1
    · subst hc; exact Nat.le_refl _
    · have := ih (by omega)
      simp only [start]; omega
theorem start_next (f la c c' : Nat) (h : c < c') : start f la c + per f la c ≤ start f la c' := by
  have := start_mono f la (c + 1) c' h
  simpa only [start] using this
/-- a string's place is one -/
theorem place_one (f la c r c' r' : Nat) (h1 : r < per f la c) (h2 : r' < per f la c') (h : start f la c + r = start f la c' + r') : c = c' ∧ r = r' := by
  by_cases hc : c < c'
  · have := start_next f la c c' hc; omega
  · by_cases hc2 : c' < c
    · have := start_next f la c' c hc2; omega
    · have : c = c' := by omega
      subst this
      exact ⟨rfl, by omega⟩

/-- where 'at' finds string i -/
def atC (f la i : Nat) : Nat := if i < 2 ^ la - 2 ^ f then Lib.bitLen (i / 2 ^ f + 1) - 1 else la - f + (i - (2 ^ la - 2 ^ f)) / 2 ^ la
def atR (f la i : Nat) : Nat := if i < 2 ^ la - 2 ^ f then i - (2 ^ (Lib.bitLen (i / 2 ^ f + 1) - 1) - 1) * 2 ^ f else (i - (2 ^ la - 2 ^ f)) % 2 ^ la

def ok1 (f la i : Nat) : Bool := start f la (atC f la i) + atR f la i == i && decide (atR f la i < per f la (atC f la i)) && decide ((2 ^ (Lib.bitLen (i / 2 ^ f + 1) - 1) - 1) * 2 ^ f ≤ i) && decide (1 ≤ Lib.bitLen (i / 2 ^ f + 1)) && decide (Lib.bitLen (i / 2 ^ f + 1) ≤ 10)
def okN (f la n : Nat) : Bool := (List.range n).all (ok1 f la)

theorem ok_small : ∀ f : Fin 4, ∀ d : Fin 4, okN f.val (f.val + d.val) 300 = true := by decide +kernel
theorem ok_big0 : okN 2 10 64 = true := by decide +kernel
theorem ok_big1 : okN 1 9 64 = true := by decide +kernel
theorem ok_big2 : okN 0 8 64 = true := by decide +kernel
theorem ok_big3 : okN 0 7 64 = true := by decide +kernel

/-- the layouts that the law draws -/
structure Ok (sz f la n : Nat) : Prop where
  s1 : 1 ≤ sz
  s2 : sz ≤ 8192
  fl : f ≤ la
  l10 : la ≤ 10
  n300 : n ≤ 300
  ok : ∀ i, i < n → ok1 f la i = true

theorem Ok.place {sz f la n : Nat} (h : Ok sz f la n) (i : Nat) (hi : i < n) : start f la (atC f la i) + atR f la i = i ∧ atR f la i < per f la (atC f la i) ∧ (2 ^ (Lib.bitLen (i / 2 ^ f + 1) - 1) - 1) * 2 ^ f ≤ i ∧ 1 ≤ Lib.bitLen (i / 2 ^ f + 1) ∧ Lib.bitLen (i / 2 ^ f + 1) ≤ 10 := by
  have := h.ok i hi
  simp only [ok1, Bool.and_eq_true, beq_iff_eq, decide_eq_true_eq] at this
  obtain ⟨⟨⟨⟨h1, h2⟩, h3⟩, h4⟩, h5⟩ := this
  exact ⟨h1, h2, h3, h4, h5⟩

theorem ok_of {f la N n : Nat} (h : okN f la N = true) (hn : n ≤ N) : ∀ i, i < n → ok1 f la i = true := by
  intro i hi
  exact List.all_eq_true.1 h i (List.mem_range.2 (by omega))

theorem Ok.small (s f d n : Nat) (hs : s < 8) (hf : f < 4) (hd : d < 4) (hn : n ≤ 300) : Ok (1 + s) f (f + d) n :=
  ⟨by omega, by omega, by omega, by omega, hn, ok_of (ok_small ⟨f, hf⟩ ⟨d, hd⟩) hn⟩

/-! the string written byte by byte -/
def wr (l : List UInt8) (off : Nat) (g : Nat → UInt8) : Nat → List UInt8
  | 0 => l
  | p + 1 => (wr l off g p).set (off + p) (g p)
theorem wr_length (l : List UInt8) (off : Nat) (g : Nat → UInt8) (p : Nat) : (wr l off g p).length = l.length := by
  induction p with
  | zero => rfl
  | succ p ih => simp [wr, ih]
theorem wr_at (l : List UInt8) (off : Nat) (g : Nat → UInt8) (p k : Nat) (hk : k < l.length) : (wr l off g p)[k]? = if off ≤ k ∧ k < off + p then some (g (k - off)) else l[k]? := by
  induction p with
  | zero => simp [wr]; omega
  | succ p ih =>
    simp only [wr, List.getElem?_set, wr_length]
    by_cases h : off + p = k
    · subst h
      simp [hk]
    · simp only [h, if_false, ih]
      by_cases h2 : off ≤ k ∧ k < off + p
      · rw [if_pos h2, if_pos (by omega)]
      · rw [if_neg h2, if_neg (by omega)]

/-- WHAT THE CHUNKS HOLD once j strings are laid: chunk c has its length, and each laid string its bytes. -/
structure Fill (sz f la : Nat) (B : Nat → Nat → UInt8) (ls : List (List UInt8)) (j : Nat) : Prop where
  len : ∀ (c : Nat) (l : List UInt8), ls[c]? = some l → l.length = per f la c * sz
  has : ∀ (c r p : Nat) (l : List UInt8), ls[c]? = some l → r < per f la c → start f la c + r < j → p < sz → l[r * sz + p]? = some (B (start f la c + r) p)

theorem Fill.snoc {sz f la : Nat} {B : Nat → Nat → UInt8} {ls : List (List UInt8)} {j : Nat} (h : Fill sz f la B ls j) (hj : start f la ls.length = j) (l : List UInt8) (hl : l.length = per f la ls.length * sz) : Fill sz f la B (ls ++ [l]) j := by
  refine ⟨fun c m hm => ?_, fun c r p m hm hr hlt hp => ?_⟩
  · by_cases hc : c < ls.length
    · rw [List.getElem?_append_left hc] at hm; exact h.len c m hm
    · have hc2 : c = ls.length := by have := (List.getElem?_eq_some_iff.1 hm).1; simp at this; omega
      subst hc2
      have : m = l := by simpa using hm.symm
      subst this; exact hl
  · by_cases hc : c < ls.length
    · rw [List.getElem?_append_left hc] at hm; exact h.has c r p m hm hr hlt hp
    · have hc2 : c = ls.length := by have := (List.getElem?_eq_some_iff.1 hm).1; simp at this; omega
      subst hc2
      omega

theorem Fill.write {sz f la : Nat} {B : Nat → Nat → UInt8} {ls : List (List UInt8)} {l : List UInt8} {j r0 : Nat} (h : Fill sz f la B (ls ++ [l]) j) (hj : start f la ls.length + r0 = j) (hr0 : r0 < per f la ls.length) :
    Fill sz f la B (ls ++ [wr l (r0 * sz) (B j) sz]) (j + 1) := by
  have hl : l.length = per f la ls.length * sz := h.len ls.length l (by simp)
  refine ⟨fun c m hm => ?_, fun c r p m hm hr hlt hp => ?_⟩
  · by_cases hc : c < ls.length
    · rw [List.getElem?_append_left hc] at hm
      exact h.len c m (by rw [List.getElem?_append_left hc]; exact hm)
    · have hc2 : c = ls.length := by have := (List.getElem?_eq_some_iff.1 hm).1; simp at this; omega
      subst hc2
      have : m = wr l (r0 * sz) (B j) sz := by simpa using hm.symm
      subst this; rw [wr_length]; exact hl
  · by_cases hc : c < ls.length
    · rw [List.getElem?_append_left hc] at hm
      have := start_next f la c ls.length hc
      exact h.has c r p m (by rw [List.getElem?_append_left hc]; exact hm) hr (by omega) hp
    · have hc2 : c = ls.length := by have := (List.getElem?_eq_some_iff.1 hm).1; simp at this; omega
      subst hc2
      have : m = wr l (r0 * sz) (B j) sz := by simpa using hm.symm
      subst this
      have hb : r * sz + p < l.length := by
        rw [hl]
        calc r * sz + p < r * sz + sz := by omega
          _ = (r + 1) * sz := by rw [Nat.add_mul, Nat.one_mul]
          _ ≤ per f la ls.length * sz := Nat.mul_le_mul_right _ hr
      rw [wr_at l (r0 * sz) (B j) sz _ hb]
      by_cases he : r = r0
      · subst he
        rw [if_pos (by omega), hj]
        congr 2
        omega
      · have hne : ¬ (r0 * sz ≤ r * sz + p ∧ r * sz + p < r0 * sz + sz) := by
          intro ⟨a, b⟩
          rcases Nat.lt_or_gt_of_ne he with hlt2 | hgt
          · have : (r + 1) * sz ≤ r0 * sz := Nat.mul_le_mul_right _ hlt2
            rw [Nat.add_mul, Nat.one_mul] at this
            omega
          · have : (r0 + 1) * sz ≤ r * sz := Nat.mul_le_mul_right _ hgt
            rw [Nat.add_mul, Nat.one_mul] at this
            omega
        rw [if_neg hne]
        exact h.has ls.length r p l (by simp) hr (by omega) hp
end Go.Proofs.Ybulkckok.Plain
