/-
  Opening a '[][]byte' and a '[]bool' that came in.
-/
import Derived.Test.YbulkckfgOwn
import Derived.Deep.Matrix
import Derived.SizedLaws
namespace Go.Proofs.Ybulkckfg
open Go.ChangeShapes Go.WideShapes Go.ChangeAt Go.RowKit Go.Deep

theorem weightsAll_mem {H : Type} {P : Program} {e : TypeId} {n : Nat} : ∀ {l : List (DataW H)} {d : DataW H}, d ∈ l → n ∈ d.weights P e → n ∈ DataW.weightsAll P e l
  | [], _, h, _ => by cases h
  | x :: r, d, h, hn => by
    unfold DataW.weightsAll
    rcases List.mem_cons.1 h with rfl | h
    · exact List.mem_append.2 (.inl hn)
    · exact List.mem_append.2 (.inr (weightsAll_mem h hn))

theorem inner_sized {H : Type} {P : Program} {ts : List TypeId} {ds : List (DataW H)} (h : (DataW.weightsEach P ts ds).all (· ≤ reachBytes) = true) {j : Nat} {t e q : TypeId} {elems spare es sp : List (DataW H)}
    (ht : ts[j]? = some t) (hd : ds[j]? = some (.slice elems spare)) (hu : P.underlying t = some (.slice e)) (hm : DataW.slice es sp ∈ elems) (hu2 : P.underlying e = some (.slice q)) :
    (es.length + sp.length) * P.bytesOf q ≤ reachBytes := by
  have := List.all_eq_true.1 h _ (DataW.weights_mem_each ht hd ((es.length + sp.length) * P.bytesOf q) (by
    unfold DataW.weights
    rw [hu]
    refine List.mem_cons.2 (.inr (List.mem_append.2 (.inl (weightsAll_mem hm ?_))))
    unfold DataW.weights
    rw [hu2]
    exact List.mem_cons.2 (.inl rfl)))
  simpa using this

/-- the bytes of a row of numbers -/
def bytesOf (zs : List Int) (n : Nat) : List UInt8 := (zs.take n).map fun z => UInt8.ofNat z.toNat
theorem bytesOf_length (zs : List Int) (n : Nat) (h : n ≤ zs.length) : (bytesOf zs n).length = n := by simp [bytesOf, h]

theorem gives_of_row {w : World} {A : Option Addr} {L C : Nat} {zs : List Int} (hL : L ≤ C) (hz : zs.length = C) (hw : ∀ n ∈ zs, (Lit.int .u8 n).wf = true) (hn : A = none → C = 0)
    (hc : ∀ a', A = some a' → ∀ c, c < C → w.cell? (a'.add c) = some (.int .u8 (zs.getD c 0))) : Gives w (.slice A (bytesOf zs L).length C) (bc (bytesOf zs L)) := by
  refine ⟨A, C, by rw [bc_length], hn, fun j u hu => ?_⟩
  have hj : j < L := by
    have := (List.getElem?_eq_some_iff.1 hu).1
    rwa [bc_length, bytesOf_length zs L (by omega)] at this
  have hjz : j < zs.length := by omega
  have hval : (bc (bytesOf zs L))[j]? = some (.int .u8 (zs.getD j 0)) := by
    have hb := bounds_u8 (hw zs[j] (List.getElem_mem hjz))
    have h1 : (UInt8.ofNat zs[j].toNat).toNat = zs[j].toNat % 256 := by simp
    simp only [bc, bytesOf, List.map_map, List.getElem?_map, List.getElem?_take, hj, if_true, List.getElem?_eq_getElem hjz, Option.map_some, Function.comp, List.getD_eq_getElem?_getD, Option.getD_some]
    rw [h1]
    congr 2
    omega
  rw [hval] at hu
  cases A with
  | none => have := hn rfl; omega
  | some a' => exact ⟨a', rfl, by rw [hc a' rfl j (by omega)]; exact hu⟩

section
variable {H : Type} {enc : TypeId × Value → H} {W : World}

/-- What is known of the keys: none, or N of them. -/
def KeysOk (W : World) (v : Value) : Prop :=
  (∃ a cap, v = .slice a 0 cap) ∨
  ∃ (N kb ko cap : Nat) (KL : Nat → List UInt8) (ka : Nat → Option Addr) (kc : Nat → Nat), v = .slice (some ⟨kb, ko, none⟩) N cap ∧ N ≤ 140737488355328 ∧
    (∀ i, i < N → W.cell? ⟨kb, ko + i, none⟩ = some (.slice (ka i) (KL i).length (kc i)) ∧ Gives W (.slice (ka i) (KL i).length (kc i)) (bc (KL i))) ∧ ∀ i, i < N → (KL i).length ≤ 140737488355328

theorem cells26 : Yba.prog.cellsOf 26 = 1 := by kernel_rfl
theorem cells5 : Yba.prog.cellsOf 5 = 1 := by kernel_rfl
theorem bytes5 : Yba.prog.bytesOf 5 = 1 := by kernel_rfl
theorem bytes26 : Yba.prog.bytesOf 26 = 24 := by kernel_rfl

theorem keys_open {base : Nat} {a0 : Option Addr} {len cap : Nat} {d : DataW H} {p : List MemPlace} {ts : List TypeId} {ds : List (DataW H)} {j : Nat}
    (h : DataW.Trod enc Yba.prog W base (fun _ => true) true 22 (.slice a0 len cap) d p)
    (hs : (DataW.weightsEach Yba.prog ts ds).all (· ≤ reachBytes) = true) (ht : ts[j]? = some 22) (hd : ds[j]? = some d) : KeysOk W (.slice a0 len cap) := by
  obtain ⟨fuel, hf⟩ := h
  rcases open_int_rows Yba.underlying22 Yba.underlying26 Yba.underlying5 cells26 cells5 hf with ⟨hcs, _⟩ | ⟨a, len', cap', A, L, C, Z, hcs, _, hl, hm, hx, hr⟩
  · simp [Value.cells] at hcs
    obtain ⟨rfl, rfl, rfl⟩ := hcs
    exact .inl ⟨none, 0, rfl⟩
  · simp [Value.cells] at hcs
    obtain ⟨rfl, rfl, rfl⟩ := hcs
    by_cases h0 : len = 0
    · subst h0
      exact .inl ⟨some a, cap, rfl⟩
    · right
      obtain ⟨kb, ko, spot⟩ := a
      have hsp := (hr 0 (by omega)).1
      have hspot : spot = none := by simpa [Addr.add] using World.cell?_spot hsp
      subst hspot
      have hd2 : d = .slice ((List.range len).map fun r => intRow .u8 (A r) (L r) (Z r)) ((List.range (cap - len)).map fun j => intRow .u8 (A (len + j)) (L (len + j)) (Z (len + j))) := by
        have := congrArg Prod.fst hx
        simpa using this
      rw [hd2] at hd
      have hrb := reachBytes_lt
      have hout := sized_slice hs ht hd Yba.underlying22
      rw [bytes26] at hout
      simp at hout
      refine ⟨len, kb, ko, cap, fun r => bytesOf (Z r) (L r), A, C, rfl, by omega, fun i hi => ?_, fun i hi => ?_⟩
      · obtain ⟨h1, h2, h3, h4, h5, h6, h7⟩ := hr i (by omega)
        rw [addr_add] at h1
        refine ⟨by rw [bytesOf_length (Z i) (L i) (by omega)]; exact h1, gives_of_row h2 h4 h5 h6 fun a' ha c hc => (h7 a' ha).2 c hc⟩
      · obtain ⟨h1, h2, h3, h4, h5, h6, h7⟩ := hr i (by omega)
        rw [bytesOf_length (Z i) (L i) (by omega)]
        cases hA : A i with
        | none => have := h6 hA; omega
        | some a' =>
          have hmem : (DataW.slice (lits .u8 ((Z i).take (L i))) (lits .u8 ((Z i).drop (L i))) : DataW H) ∈ ((List.range len).map fun r => intRow .u8 (A r) (L r) (Z r)) := by
            refine List.mem_map.2 ⟨i, List.mem_range.2 hi, ?_⟩
            simp [intRow, hA]
          have := inner_sized hs ht hd Yba.underlying22 hmem Yba.underlying26
          rw [bytes5] at this
          simp [lits] at this
          omega
end
end Go.Proofs.Ybulkckfg
