import Derived.Test.YbulkckesFmtClass
namespace Go.Proofs.YbulkckesFmt
open Go.ChangeShapes Go.WideShapes Go.ChangeAt Go.RowKit
open Go.Extern.Stop Go.Stop Go.Extern

theorem below_two {w X : World} {A B : Obj} (h : ((w.alloc A).alloc B).grownBy X (some w.heap.size)) : Below w.heap.size w X :=
  (((Below.refl _ _).alloc (Nat.le_refl _) A).alloc (by simp) B).grown h (by simp; omega) (fun k hk => by simp at hk; omega)

set_option maxHeartbeats 1000000 in
theorem law_o (F : Interp) (line sel : Int) (t k c ra : ByteArray) (w : World) (hF : F.answers w.tape) (hs : t.size ≤ 4096) (h0 : 0 ≤ sel) (h1 : sel ≤ 255) (hsel : (sel % 4 == 0) = false)
    (h : (t.toList == [88]) = false) :
    Calls Ybaf.prog 3 #[.int .i64 line, .string t, .string k, .string c, .string ra, .int .u8 sel] w fun e w' => e = .returned (.bool true) ∧ Below w.heap.size w w' := by
  have hd1 : decide ((4096 : Int) < (t.size : Int)) = false := decide_eq_false (by omega)
  have hmap : ∀ (w : World) (r : Option Nat), (binOp .eql 29 (.map r) (.map none)).run Ybaf.prog w = .ok (.bool r.isNone) w := fun w r => run_eql_map_nil w _ _ _ r Ybaf.underlying29
  go_enter Ybaf.func3, Ybaf.ntmps3
  go_wp2_with fail
  refine (class_o F ⟨#[]⟩ t line (w.heap.size + 1) w.heap.size _ (by exact hF) h (by go_simp) (by go_simp) (by go_simp) (by go_simp)).mono ?_
  rintro e W ⟨rfl, hg⟩
  have hbl := below_two hg
  have hb : W.heap[w.heap.size + 1]? = _ := (hg.block (w.heap.size + 1) (by simp) (by simp)).trans (heap_alloc2_new w _ _)
  have c1 := cell_of_row W _ 1 _ _ _ hb
  have c2 := cell_of_row W _ 2 _ _ _ hb
  have c3 := cell_of_row W _ 3 _ _ _ hb
  have c4 := cell_of_row W _ 4 _ _ _ hb
  have c5 := cell_of_row W _ 5 _ _ _ hb
  have c6 := cell_of_row W _ 6 _ _ _ hb
  have c7 := cell_of_row W _ 7 _ _ _ hb
  simp at c1 c2 c3 c4 c5 c6 c7
  clear hg hb
  go_wp2
  go_ret
  exact ⟨rfl, hbl⟩

set_option maxHeartbeats 1000000 in
theorem law_x (line sel : Int) (t k c ra : ByteArray) (w : World) (hs : t.size ≤ 4096) (h0 : 0 ≤ sel) (h1 : sel ≤ 255) (hsel : (sel % 4 == 0) = false)
    (h : (t.toList == [88]) = true) :
    Calls Ybaf.prog 3 #[.int .i64 line, .string t, .string k, .string c, .string ra, .int .u8 sel] w fun e w' => e = .returned (.bool true) ∧ Below w.heap.size w w' := by
  have hd1 : decide ((4096 : Int) < (t.size : Int)) = false := decide_eq_false (by omega)
  have hmap : ∀ (w : World) (r : Option Nat), (binOp .eql 29 (.map r) (.map none)).run Ybaf.prog w = .ok (.bool r.isNone) w := fun w r => run_eql_map_nil w _ _ _ r Ybaf.underlying29
  have hbl := fun A B => (((Below.refl w.heap.size w).alloc (Nat.le_refl _) A).alloc (by simp) B)
  go_enter Ybaf.func3, Ybaf.ntmps3
  go_wp2_with fail
  refine (class_x t line (w.heap.size + 1) _ h).mono ?_
  rintro e W ⟨rfl, hW⟩
  subst hW
  go_wp2
  go_ret
  exact ⟨rfl, hbl _ _⟩

set_option maxHeartbeats 1000000 in
theorem law_s (line sel : Int) (t k c ra : ByteArray) (w : World) (hs : t.size ≤ 4096) (h0 : 0 ≤ sel) (h1 : sel ≤ 255) (hsel : (sel % 4 == 0) = true) :
    Calls Ybaf.prog 3 #[.int .i64 line, .string t, .string k, .string c, .string ra, .int .u8 sel] w fun e w' => e = .returned (.bool true) ∧ Below w.heap.size w w' := by
  have hd1 : decide ((4096 : Int) < (t.size : Int)) = false := decide_eq_false (by omega)
  have hmap : ∀ (w : World) (r : Option Nat), (binOp .eql 29 (.map r) (.map none)).run Ybaf.prog w = .ok (.bool r.isNone) w := fun w r => run_eql_map_nil w _ _ _ r Ybaf.underlying29
  have hbl := fun A B => (((Below.refl w.heap.size w).alloc (Nat.le_refl _) A).alloc (by simp) B)
  go_enter Ybaf.func3, Ybaf.ntmps3
  go_wp2_with fail
  refine (class_x ⟨#[88]⟩ line (w.heap.size + 1) _ (by simp [ByteArray.toList_eq])).mono ?_
  rintro e W ⟨rfl, hW⟩
  subst hW
  go_wp2
  go_ret
  exact ⟨rfl, hbl _ _⟩

theorem law_big (line sel : Int) (t k c ra : ByteArray) (w : World) (hs : ¬ t.size ≤ 4096) :
    Calls Ybaf.prog 3 #[.int .i64 line, .string t, .string k, .string c, .string ra, .int .u8 sel] w fun e w' => e = .returned (.bool true) ∧ Below w.heap.size w w' := by
  have hd1 : decide ((4096 : Int) < (t.size : Int)) = true := decide_eq_true (by omega)
  go_enter Ybaf.func3, Ybaf.ntmps3
  go_wp2
  go_ret
  exact ⟨rfl, Below.refl _ _⟩
end Go.Proofs.YbulkckesFmt
