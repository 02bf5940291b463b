import Derived.Test.YbulkckfgKeyAt
namespace Go.Proofs.Ybulkckfg
open Go.ChangeShapes Go.WideShapes Go.ChangeAt Go.RowKit

theorem conv {w : World} {v : Value} {l : List UInt8} (h : Gives w v (bc l)) : (convert 26 9 v).run Yba.prog w = .ok (.string ⟨l.toArray⟩) w := by
  obtain ⟨a, cap, rfl, hn, hc⟩ := h
  rw [bc_length]
  cases a with
  | none =>
    have hl : l = [] := by
      cases l with
      | nil => rfl
      | cons u r => obtain ⟨ad, had, _⟩ := hc 0 _ (by simp [bc]; rfl); cases had
    subst hl
    exact run_convert_bytes_nil w 26 5 Yba.underlying26 Yba.underlying5 0 cap 9 Yba.underlying9
  | some ad =>
    refine run_convert_bytes_back w 26 9 5 ad cap l Yba.underlying26 Yba.underlying5 Yba.underlying9 fun j hj => ?_
    obtain ⟨ad', h1, h2⟩ := hc j _ (bc_at l j hj)
    cases h1
    exact h2

theorem equal_calls (v1 v2 : Value) (l1 l2 : List UInt8) (w : World) (h1 : Gives w v1 (bc l1)) (h2 : Gives w v2 (bc l2)) :
    Calls Yba.prog 10 #[v1, v2] w fun e w' => e = .returned (.bool (l1 == l2)) ∧ w' = w := by
  have c1 := conv h1
  have c2 := conv h2
  go_enter Yba.func10, Yba.ntmps10
  go_wp2
  go_ret
  exact ⟨rfl, rfl⟩

set_option maxHeartbeats 1000000 in
theorem entry_calls (b gc nc capc g n cap c pos : Nat) (sl : Int) (w : World) (_h0 : 0 ≤ sl) (_h1 : sl ≤ 18446744073709551615)
    (hch : w.cell? ⟨b, 0, none⟩ = some (.slice (some ⟨gc, 0, none⟩) nc capc)) (hc : c < nc) (hcell : w.cell? ⟨gc, c, none⟩ = some (.slice (some ⟨g, 0, none⟩) n cap)) (hp : pos < n) (hn : n ≤ cap)
    (e1 : IntKind.u64.wrap (sl / 68719476736 - 1) = (c : Int)) (e2 : bits .and .u64 (sl / 65536) 1048575 = (pos : Int)) :
    Calls Yba.prog 16 #[.pointer (some ⟨b, 0, none⟩), .int .u64 sl] w fun e w' => e = .returned (.slice (some ⟨g, pos, none⟩) (n - pos) (cap - pos)) ∧ w' = w := by
  have hne : ¬ cap = pos := by omega
  go_enter Yba.func16, Yba.ntmps16
  go_wp2
  go_ret
  exact ⟨rfl, rfl⟩

set_option maxRecDepth 100000 in
set_option maxHeartbeats 400000 in
theorem keyAt_calls (b gc nc capc g cap c pos : Nat) (l hd K rest : List UInt8) (sl : Int) (w : World) (h0 : 0 ≤ sl) (h1 : sl ≤ 18446744073709551615)
    (hch : w.cell? ⟨b, 0, none⟩ = some (.slice (some ⟨gc, 0, none⟩) nc capc)) (hc : c < nc) (hcell : w.cell? ⟨gc, c, none⟩ = some (.slice (some ⟨g, 0, none⟩) l.length cap)) (hn : l.length ≤ cap) (hcap : cap ≤ maxLen)
    (hg : ∀ j (hj : j < l.length), w.cell? ⟨g, j, none⟩ = some (.int .u8 (l[j].toNat : Int)))
    (hhd : hd.length = 8) (hl : l.drop pos = hd ++ (uv K.length ++ (K ++ rest))) (hK : K.length ≤ 1000000)
    (e1 : IntKind.u64.wrap (sl / 68719476736 - 1) = (c : Int)) (e2 : bits .and .u64 (sl / 65536) 1048575 = (pos : Int)) :
    Calls Yba.prog 9 #[.pointer (some ⟨b, 0, none⟩), .int .u64 sl] w fun e w' => (∃ a cap', e = .returned (.slice a K.length cap') ∧ Gives w (.slice a K.length cap') (bc K)) ∧ w' = w := by
  have hup := uv_pos K.length
  have hlen := congrArg List.length hl
  simp only [List.length_drop, List.length_append, hhd] at hlen
  have HL : Hid (l.drop (pos + 8) = uv K.length ++ (K ++ rest)) := by
    show _ = _
    rw [← List.drop_drop, hl, ← hhd, List.drop_left]
  have hLl : (l.drop (pos + 8)).length = l.length - pos - 8 := by simp; omega
  have HK : ∀ j u, (bc K)[j]? = some u → w.cell? ⟨g, pos + 8 + (uv K.length).length + j, none⟩ = some u := by
    intro j u hu
    have hj : j < K.length := by
      have := (List.getElem?_eq_some_iff.1 hu).1
      rwa [bc_length] at this
    rw [bc_at K j hj] at hu
    rw [hg _ (by omega), ← hu]
    have : l[pos + 8 + (uv K.length).length + j]? = some K[j] := by
      have h2 : (l.drop (pos + 8))[(uv K.length).length + j]? = some K[j] := by
        rw [HL.out, List.getElem?_append_right (by omega), Nat.add_sub_cancel_left, List.getElem?_append_left hj, List.getElem?_eq_getElem hj]
      rw [List.getElem?_drop] at h2
      rw [show pos + 8 + (uv K.length).length + j = pos + 8 + ((uv K.length).length + j) from by omega]
      exact h2
    rw [List.getElem?_eq_getElem (by omega)] at this
    rw [Option.some.inj this]
  have HU := hide (uvarint g (pos + 8) (cap - pos - 8) K.length (K ++ rest) (l.drop (pos + 8)) w HL.out hK (by rw [hLl]; unfold maxLen at *; omega) fun j hj => by
    have hj2 : pos + 8 + j < l.length := by rw [hLl] at hj; omega
    rw [hg _ hj2]
    simp [List.getElem_drop])
  rw [hLl] at HU
  clear hl hg hLl
  generalize (uv K.length).length = u at *
  have hne : ¬ cap - pos = 8 := by omega
  have hle : pos + 8 + u + K.length ≤ l.length := by omega
  clear hlen hhd HL
  go_enter Yba.func9, Yba.ntmps9
  go_wp2_with fail
  refine (entry_calls b gc nc capc g l.length cap c pos sl w h0 h1 hch hc hcell (by omega) hn e1 e2).mono ?_
  rintro e W ⟨rfl, hW⟩
  subst hW
  go_wp2_with fail
  refine HU.out.mono ?_
  rintro e W2 ⟨rfl, hW2⟩
  subst hW2
  clear HU
  by_cases hcu : cap - pos - 8 = u
  · have hK0 : K = [] := List.eq_nil_of_length_eq_zero (by omega)
    go_wp2
    go_ret
    refine ⟨⟨some ⟨g, pos + 8, none⟩, 0, by rw [hK0]; rfl, some ⟨g, pos + 8, none⟩, 0, by rw [hK0]; rfl, (fun h => by cases h), fun j u hu => ?_⟩, rfl⟩
    rw [hK0] at hu
    simp [bc] at hu
  · go_wp2
    go_ret
    refine ⟨⟨some ⟨g, pos + 8 + u, none⟩, cap - pos - 8 - u, rfl, some ⟨g, pos + 8 + u, none⟩, cap - pos - 8 - u, by rw [bc_length], (fun h => by cases h), fun j x hx => ⟨_, rfl, ?_⟩⟩, rfl⟩
    rw [addr_add]
    exact HK j x hx
end Go.Proofs.Ybulkckfg
