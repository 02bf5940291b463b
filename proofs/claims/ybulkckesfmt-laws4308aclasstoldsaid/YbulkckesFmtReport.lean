import Derived.Test.YbulkckesFmtCards
import Derived.WalkKit
import Derived.WalkSpells
import Derived.ProofKit
import Derived.OpenShut
import Derived.ShutString
import Derived.Stop.CallBack
import Derived.Stop.IfaceNil
import Derived.Deep.RegionLawGrows
import Derived.Deep.QuietTactic
import Derived.BigQuiet
import Derived.Outline
namespace Go.Proofs.YbulkckesFmt
open Go.ChangeShapes Go.WideShapes Go.ChangeAt Go.RowKit
open Go.Extern.Stop Go.Stop Go.Extern

/-! the closed facts on the stopped front -/
theorem call8 (args : Array Value) (w : World) : (callFunc 8 args).run Ybaf.prog w = (FmtCalls.sprintf #[9, 38] #[9] args).run Ybaf.prog w :=
  run_callFunc_next Ybaf.func8 (by kernel_rfl) (by kernel_rfl) (by kernel_rfl) args w
theorem guardOk (name : String) (w : World) : (FmtStop.guard name).run Ybaf.prog w = .ok () w := by kernel_rfl
theorem nextTurns : Extern.next FmtCalls.turnsRow = some (FmtCalls.begun #[] #[]) := by kernel_rfl

/-- 'CLASS %q is not a class (want A to G); kept as written' -/
def fmtB : ByteArray := ⟨#[67, 76, 65, 83, 83, 32, 37, 113, 32, 105, 115, 32, 110, 111, 116, 32, 97, 32, 99, 108, 97, 115, 115, 32, 40, 119, 97, 110, 116, 32, 65, 32, 116, 111, 32, 71, 41, 59, 32, 107, 101, 112, 116, 32, 97, 115, 32, 119, 114, 105, 116, 116, 101, 110]⟩
theorem fmt0 : FmtStop.printed? fmtB 1 = some [(0, 113, false)] := by kernel_rfl
def shape9 : List UInt8 := [12, 6, 0, 0, 0, 0, 0, 0, 0, 115, 116, 114, 105, 110, 103]
theorem act9_113 (name : String) (x : Value) (w : World) : (FmtCalls.act name false 113 false (.iface 9 x)).run Ybaf.prog w = .ok (.closed false) w := by kernel_rfl
theorem op9_113 (name : String) (x : ByteArray) (w : World) : (FmtStop.operand name false 113 false (.iface 9 (.string x))).run Ybaf.prog w = .ok (shape9, FmtStop.pack x.data.toList) w := by kernel_rfl
theorem info41 : (Ybaf.prog.info? 41).map (fun i => (i.zero, i.size, i.bytes)) = some (some (.agg #[.string ByteArray.empty, .int .i64 0, .int .i64 0, .string ByteArray.empty]), 4, 48) := by kernel_rfl

set_option maxHeartbeats 400000 in
/-- fmt.Sprintf at this format and one string: SOME text; one draw. -/
theorem rows_sprintf (F : Interp) (t : ByteArray) (g : Nat) (w : World) (R : Value → World → Prop) (hF : F.answers w.tape) (hop : w.cell? ⟨g, 0, none⟩ = some (.iface 9 (.string t)))
    (h : ∀ s, R (.string s) w.drew) : Rows Ybaf.prog FmtCalls.turnsRow (FmtCalls.save 0 0 (.slice (some ⟨g, 0, none⟩) 1 1) fmtB [] [(0, 113, false)]) w R := by
  have hF' := answers_open hF
  have k2 := guardOk
  have k4 := act9_113
  have k5 := op9_113
  apply rows_value nextTurns
  case hr =>
    go_simp
    exact ⟨rfl, rfl⟩
  case h => exact h _

set_option maxHeartbeats 400000 in
theorem step_sprintf {c : Bool} (hc : c = true) {o : Oper} {a : Act} {W : World} {K : Act → World → Prop} {Q : Exit → Act → World → Prop} {E : Prop}
    (s x : Operand) (ho : o.op = Op.call { callee := Callee.value (Operand.func 8), args := #[s, x], argTypes := #[9, 38] })
    (F : Interp) (t : ByteArray) (g : Nat) (hs : a.eval s = .string fmtB) (hx : a.eval x = .slice (some ⟨g, 0, none⟩) 1 1)
    (hF : F.answers W.tape) (hop : W.cell? ⟨g, 0, none⟩ = some (.iface 9 (.string t)))
    (hK : ∀ s0, K (a.put o.dst (.string s0)) W.drew) :
    if c = true then Oper.wp Ybaf.prog o a W K Q else E := by
  rw [if_pos hc]
  have k1 := call8
  have k2 := guardOk
  have k3 := fmt0
  have k4 := rows_sprintf F t g W (fun v w' => K (a.put o.dst v) w') hF hop hK
  unfold Oper.wp execOp
  have he : a.eval (Operand.func 8) = .func (Fn.func 8) #[] #[] := rfl
  simp only [ho, resolve, invoke, he, Sem.run_bind, List.map_toArray, List.map_cons, List.map_nil, hs, hx]
  go_simp
  exact k4

theorem one4 (f s : ByteArray) (x y : Int) : ∀ u ∈ (#[Value.string f, .int .i64 x, .int .i64 y, .string s]).toList, u.oneCell' = true := by
  intro u hu
  simp at hu
  rcases hu with rfl | rfl | rfl | rfl <;> rfl

/-- the append of one diagnostic onto a nil slice, as a step of a region that draws -/
theorem step_diag {c : Bool} (hc : c = true) {o : Oper} {a : Act} {W : World} {K : Act → World → Prop} {Q : Exit → Act → World → Prop} {E : Prop}
    (hg : o.guard = none) (s x : Operand) (ho : o.op = Op.call { callee := Callee.builtin Builtin.append, args := #[s, x], argTypes := #[25, 25] })
    (hs : a.eval s = .slice none 0 0) (b : Nat) (hx : a.eval x = .slice (some ⟨b, 0, none⟩) 1 1) (cs : Array Value) (hlen : cs.size = 4)
    (hcell : W.heap[b]? = some (.cells cs 41)) (h1 : ∀ u ∈ cs.toList, u.oneCell' = true)
    (hK : ∀ g2 cap W', W.grownBy W' none → K (a.put o.dst (.slice (some ⟨g2, 0, none⟩) 1 cap)) W') :
    if c = true then Oper.wp Ybaf.prog o a W K Q else E := by
  rw [if_pos hc]
  have hw : Region.wanted o (yielded #[] a.tmps) = true := by simp [Region.wanted, hg]
  rw [← if_pos (c := Region.wanted o (yielded #[] a.tmps) = true) (t := Oper.wp Ybaf.prog o a W K Q) (e := E) hw]
  obtain ⟨i, hi, hz, hsz, hby⟩ := info_parts info41
  refine step_append_grows hg s x 25 ho 41 i _ 4 48 Ybaf.underlying25 hi hz hsz hby rfl (by decide) none 0 0 [] hs (by simp) rfl (by simp) ⟨b, 0, none⟩ 1 1 cs.toList hx (by simpa using hlen) ?_ h1 (by decide) (by decide) (by decide) ?_
  · intro j u hu
    have hadd : (⟨b, 0, none⟩ : Addr).add j = ⟨b, j, none⟩ := by unfold Addr.add; split <;> simp_all
    rw [hadd, cell_of_row W b j cs 41 (0, 0) hcell]
    simpa using hu
  · intro v' w' hown hgr
    rcases hown.2 with ⟨rfl, h0⟩ | ⟨g2, cap, cur, rfl, _⟩
    · simp at h0
    · exact hK g2 cap w' hgr

theorem grown_close {w X W2 : World} (h0 : w.grownBy X none) (h : X.grownBy W2 none) (r o : Nat) (v : Value) : w.grownBy (W2.setCell ⟨r, o, none⟩ v) (some r) := by
  refine ⟨h.os.trans h0.os, h.tape.trans h0.tape, h.output.trans h0.output, Nat.le_trans h0.size (by simpa [World.setCell] using h.size), fun k hk hne => ?_⟩
  rw [Below.heap_setCell _ _ _ _ (fun e => hne (by simp [e])), h.block k (Nat.lt_of_lt_of_le hk h0.size) (by simp), h0.block k hk (by simp)]
theorem grown_drew2 {w : World} (o : Obj) : w.grownBy ((w.alloc o).drew.drew) none := ⟨rfl, rfl, rfl, by simp, fun k hk _ => Below.heap_alloc w o k hk⟩

set_option maxRecDepth 100000 in
set_option maxHeartbeats 500000 in
theorem report_calls (F : Interp) (f t : ByteArray) (line : Int) (r g : Nat) (w : World) (hF : F.answers w.tape)
    (hfile : w.cell? ⟨r, 0, none⟩ = some (.string f)) (hdiag : w.cell? ⟨r, 5, none⟩ = some (.slice none 0 0)) (hfr : w.frozen? ⟨r, 5, none⟩ = false)
    (hop : w.cell? ⟨g, 0, none⟩ = some (.iface 9 (.string t))) :
    Calls Ybaf.prog 7 #[.pointer (some ⟨r, 0, none⟩), .int .i64 line, .int .i64 1, .string fmtB, .slice (some ⟨g, 0, none⟩) 1 1] w fun e w' => e = .returned (.tuple #[]) ∧ w.grownBy w' (some r) := by
  have k1 := call8
  have k2 := guardOk
  have k3 := fmt0
  have hrs := World.block_lt_of_cell? w _ hdiag
  go_enter Ybaf.func7, Ybaf.ntmps7
  go_wp2
  go_region_law ((try simp only [Act.put, List.getElem_toArray, List.getElem_cons_succ, List.getElem_cons_zero, List.setIfInBounds_toArray, List.set_cons_zero, List.set_cons_succ]); first | (refine step_sprintf (by rfl) (.tmp 21) (.tmp 22) rfl F t g (by rfl) (by rfl) (by exact hF) (by go_simp) ?_; intro s0) | (refine step_diag (by rfl) rfl (.tmp 14) (.tmp 25) rfl (by rfl) w.heap.size (by rfl) #[.string f, .int .i64 line, .int .i64 1, .string s0] rfl (by exact heap_alloc_new w _) (by exact one4 _ _ _ _) ?_; intro g2 cap2 W2 hgr2; have hc5 : W2.cell? ⟨r, 5, none⟩ = some (.slice none 0 0) := hgr2.cell (by go_simp) (by simp); have hf5 : W2.frozen? ⟨r, 5, none⟩ = false := by rw [World.frozen?_of_block (hgr2.block r (by simp; omega) (by simp))]; go_simp))
  all_goals
    go_end0
    exact ⟨rfl, grown_close (grown_drew2 _) hgr2 r 5 _⟩
end Go.Proofs.YbulkckesFmt
