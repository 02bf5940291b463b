import Derived.Test.YbulkckesFmtReport
namespace Go.Proofs.YbulkckesFmt
open Go.ChangeShapes Go.WideShapes Go.ChangeAt Go.RowKit
open Go.Extern.Stop Go.Stop Go.Extern

theorem cleared_x (t : ByteArray) (w : World) (h : (t.toList == [88]) = true) :
    Calls Ybaf.prog 5 #[.string t] w fun e w' => e = .returned (.string ⟨#[]⟩) ∧ w' = w := by
  go_enter Ybaf.func5, Ybaf.ntmps5
  go_wp2
  go_ret
  exact ⟨rfl, rfl⟩

theorem cleared_o (t : ByteArray) (w : World) (h : (t.toList == [88]) = false) :
    Calls Ybaf.prog 5 #[.string t] w fun e w' => e = .returned (.string t) ∧ w' = w := by
  go_enter Ybaf.func5, Ybaf.ntmps5
  go_wp2
  go_ret
  exact ⟨rfl, rfl⟩

def IsBool (e : Ending) : Prop := ∃ b, e = .returned (.bool b)

theorem isClass_calls (t : ByteArray) (w : World) :
    Calls Ybaf.prog 6 #[.string t] w fun e w' => IsBool e ∧ w' = w := by
  go_enter Ybaf.func6, Ybaf.ntmps6
  go_wp2
  all_goals (go_ret; exact ⟨⟨_, rfl⟩, rfl⟩)

theorem class_x (t : ByteArray) (line : Int) (b : Nat) (w : World) (h : (t.toList == [88]) = true) :
    Calls Ybaf.prog 4 #[.pointer (some ⟨b, 0, none⟩), .int .i64 line, .string t] w fun e w' => e = .returned (.string ⟨#[]⟩) ∧ w' = w := by
  go_enter Ybaf.func4, Ybaf.ntmps4
  go_wp2_with (go_at_call 5; refine (cleared_x t _ h).mono ?_; rintro e w' ⟨rfl, rfl⟩)
  go_ret
  exact ⟨rfl, rfl⟩

theorem grown_trans {w X W : World} {row : Option Nat} (h0 : w.grownBy X row) (h : X.grownBy W row) : w.grownBy W row :=
  ⟨h.os.trans h0.os, h.tape.trans h0.tape, h.output.trans h0.output, Nat.le_trans h0.size h.size, fun k hk hne => (h.block k (Nat.lt_of_lt_of_le hk h0.size) hne).trans (h0.block k hk hne)⟩

set_option maxHeartbeats 400000 in
theorem class_o (F : Interp) (f t : ByteArray) (line : Int) (b r : Nat) (w : World) (hF : F.answers w.tape) (h : (t.toList == [88]) = false)
    (hr : w.cell? ⟨b, 0, none⟩ = some (.pointer (some ⟨r, 0, none⟩)))
    (hfile : w.cell? ⟨r, 0, none⟩ = some (.string f)) (hdiag : w.cell? ⟨r, 5, none⟩ = some (.slice none 0 0)) (hfr : w.frozen? ⟨r, 5, none⟩ = false) :
    Calls Ybaf.prog 4 #[.pointer (some ⟨b, 0, none⟩), .int .i64 line, .string t] w fun e w' => e = .returned (.string t) ∧ w.grownBy w' (some r) := by
  have hrs := World.block_lt_of_cell? w _ hdiag
  have HG := World.grownBy.refl w (some r)
  go_enter Ybaf.func4, Ybaf.ntmps4
  go_wp2_with (go_at_call 5; refine (cleared_o t _ h).mono ?_; rintro e w' ⟨rfl, rfl⟩)
  all_goals try (refine (isClass_calls t _).mono ?_; rintro e w' ⟨⟨bb, rfl⟩, rfl⟩; go_wp2_with fail)
  · go_ret
    exact ⟨rfl, HG⟩
  · show Calls Ybaf.prog 7 #[_, _, _, .string fmtB, _] _ _
    refine (report_calls F f t line r w'.heap.size _ (by exact hF) (by go_simp) (by go_simp) (by go_simp) (by simp)).mono ?_
    rintro e w2 ⟨rfl, hg2⟩
    go_wp2
    go_ret
    exact ⟨rfl, grown_trans (World.grownBy_alloc _ _ _) hg2⟩
  · go_ret
    exact ⟨rfl, HG⟩

end Go.Proofs.YbulkckesFmt
