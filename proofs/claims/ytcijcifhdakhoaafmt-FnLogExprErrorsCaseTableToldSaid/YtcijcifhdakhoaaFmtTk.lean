/-
  The line and column tracker: its cells in the parser's row. No condition.
-/
import Derived.Test.YtcijcifhdakhoaaFmtExLaw
import Derived.Test.YtcijcifhdakhoaaFmtLg
namespace Go.Proofs.YtcijcifhdakhoaaFmt.Ex
open Go.RowKit Go.Proofs.YtcijcifhdakhoaaFmt.Ints

structure TF (F0 F : Nat → Value) (s : ByteArray) (o ls le : Nat) (ln : Int) (hs he : Bool) : Prop where
  str : F 67 = .string s
  p0 : F 68 = .string ⟨#[]⟩
  p1 : F 69 = .string ⟨#[]⟩
  o : F 70 = .int .i32 (o : Nat)
  ln : F 71 = .int .i32 ln
  ls : F 72 = .int .i32 (ls : Nat)
  le : F 73 = .int .i32 (le : Nat)
  hs : F 74 = .bool hs
  he : F 75 = .bool he
  src : F 76 = .bool true
  far : ∀ k, (k < 67 ∨ 76 < k) → F k = F0 k
/-- The parser's row at P: as F0 but for the tracker's cells. -/
structure Tk (P : Nat) (F0 : Nat → Value) (s : ByteArray) (o ls le : Nat) (ln : Int) (hs he : Bool) (w : World) : Prop where
  ex : ∃ F, w.rowIs P 165 353 F ∧ TF F0 F s o ls le ln hs he
section
variable {P : Nat} {F0 : Nat → Value} {s : ByteArray} {o ls le : Nat} {ln : Int} {hs he : Bool} {w w' : World}
theorem Tk.lt (h : Tk P F0 s o ls le ln hs he w) : P < w.heap.size := by obtain ⟨F, hr, _⟩ := h.ex; exact hr.lt
theorem Tk.frozen (h : Tk P F0 s o ls le ln hs he w) (j : Nat) : w.frozen? ⟨P, j, none⟩ = false := by obtain ⟨F, hr, _⟩ := h.ex; exact hr.frozen j
theorem Tk.of (h : Tk P F0 s o ls le ln hs he w) (e : w'.heap[P]? = w.heap[P]?) : Tk P F0 s o ls le ln hs he w' := by obtain ⟨F, hr, ht⟩ := h.ex; exact ⟨F, hr.of_block e, ht⟩
theorem Tk.far (h : Tk P F0 s o ls le ln hs he w) {k : Nat} (hk : k < 67 ∨ 76 < k) (hk2 : k < 353) : w.cell? ⟨P, k, none⟩ = some (F0 k) := by obtain ⟨F, hr, ht⟩ := h.ex; rw [← ht.far k hk]; exact hr.cell hk2
theorem Tk.c67 (h : Tk P F0 s o ls le ln hs he w) : w.cell? ⟨P, 67, none⟩ = some (.string s) := by obtain ⟨F, hr, ht⟩ := h.ex; rw [← ht.str]; exact hr.cell (by decide)
theorem Tk.c68 (h : Tk P F0 s o ls le ln hs he w) : w.cell? ⟨P, 68, none⟩ = some (.string ⟨#[]⟩) := by obtain ⟨F, hr, ht⟩ := h.ex; rw [← ht.p0]; exact hr.cell (by decide)
theorem Tk.c69 (h : Tk P F0 s o ls le ln hs he w) : w.cell? ⟨P, 69, none⟩ = some (.string ⟨#[]⟩) := by obtain ⟨F, hr, ht⟩ := h.ex; rw [← ht.p1]; exact hr.cell (by decide)
theorem Tk.c70 (h : Tk P F0 s o ls le ln hs he w) : w.cell? ⟨P, 70, none⟩ = some (.int .i32 (o : Nat)) := by obtain ⟨F, hr, ht⟩ := h.ex; rw [← ht.o]; exact hr.cell (by decide)
theorem Tk.c71 (h : Tk P F0 s o ls le ln hs he w) : w.cell? ⟨P, 71, none⟩ = some (.int .i32 ln) := by obtain ⟨F, hr, ht⟩ := h.ex; rw [← ht.ln]; exact hr.cell (by decide)
theorem Tk.c72 (h : Tk P F0 s o ls le ln hs he w) : w.cell? ⟨P, 72, none⟩ = some (.int .i32 (ls : Nat)) := by obtain ⟨F, hr, ht⟩ := h.ex; rw [← ht.ls]; exact hr.cell (by decide)
theorem Tk.c73 (h : Tk P F0 s o ls le ln hs he w) : w.cell? ⟨P, 73, none⟩ = some (.int .i32 (le : Nat)) := by obtain ⟨F, hr, ht⟩ := h.ex; rw [← ht.le]; exact hr.cell (by decide)
theorem Tk.c74 (h : Tk P F0 s o ls le ln hs he w) : w.cell? ⟨P, 74, none⟩ = some (.bool hs) := by obtain ⟨F, hr, ht⟩ := h.ex; rw [← ht.hs]; exact hr.cell (by decide)
theorem Tk.c75 (h : Tk P F0 s o ls le ln hs he w) : w.cell? ⟨P, 75, none⟩ = some (.bool he) := by obtain ⟨F, hr, ht⟩ := h.ex; rw [← ht.he]; exact hr.cell (by decide)
theorem Tk.c76 (h : Tk P F0 s o ls le ln hs he w) : w.cell? ⟨P, 76, none⟩ = some (.bool true) := by obtain ⟨F, hr, ht⟩ := h.ex; rw [← ht.src]; exact hr.cell (by decide)
theorem Tk.setO (h : Tk P F0 s o ls le ln hs he w) (o2 : Nat) : Tk P F0 s o2 ls le ln hs he (w.setCell ⟨P, 70, none⟩ (.int .i32 (o2 : Nat))) := by
  obtain ⟨F, hr, ht⟩ := h.ex
  refine ⟨_, hr.set 70 _, ⟨(if_neg (by decide)).trans ht.str, (if_neg (by decide)).trans ht.p0, (if_neg (by decide)).trans ht.p1, if_pos rfl, (if_neg (by decide)).trans ht.ln, (if_neg (by decide)).trans ht.ls, (if_neg (by decide)).trans ht.le, (if_neg (by decide)).trans ht.hs, (if_neg (by decide)).trans ht.he, (if_neg (by decide)).trans ht.src, fun k hk => (if_neg (by omega)).trans (ht.far k hk)⟩⟩
theorem Tk.setN (h : Tk P F0 s o ls le ln hs he w) (n2 : Int) : Tk P F0 s o ls le n2 hs he (w.setCell ⟨P, 71, none⟩ (.int .i32 n2)) := by
  obtain ⟨F, hr, ht⟩ := h.ex
  refine ⟨_, hr.set 71 _, ⟨(if_neg (by decide)).trans ht.str, (if_neg (by decide)).trans ht.p0, (if_neg (by decide)).trans ht.p1, (if_neg (by decide)).trans ht.o, if_pos rfl, (if_neg (by decide)).trans ht.ls, (if_neg (by decide)).trans ht.le, (if_neg (by decide)).trans ht.hs, (if_neg (by decide)).trans ht.he, (if_neg (by decide)).trans ht.src, fun k hk => (if_neg (by omega)).trans (ht.far k hk)⟩⟩
theorem Tk.setS (h : Tk P F0 s o ls le ln hs he w) (o2 : Nat) : Tk P F0 s o o2 le ln hs he (w.setCell ⟨P, 72, none⟩ (.int .i32 (o2 : Nat))) := by
  obtain ⟨F, hr, ht⟩ := h.ex
  refine ⟨_, hr.set 72 _, ⟨(if_neg (by decide)).trans ht.str, (if_neg (by decide)).trans ht.p0, (if_neg (by decide)).trans ht.p1, (if_neg (by decide)).trans ht.o, (if_neg (by decide)).trans ht.ln, if_pos rfl, (if_neg (by decide)).trans ht.le, (if_neg (by decide)).trans ht.hs, (if_neg (by decide)).trans ht.he, (if_neg (by decide)).trans ht.src, fun k hk => (if_neg (by omega)).trans (ht.far k hk)⟩⟩
theorem Tk.setE (h : Tk P F0 s o ls le ln hs he w) (o2 : Nat) : Tk P F0 s o ls o2 ln hs he (w.setCell ⟨P, 73, none⟩ (.int .i32 (o2 : Nat))) := by
  obtain ⟨F, hr, ht⟩ := h.ex
  refine ⟨_, hr.set 73 _, ⟨(if_neg (by decide)).trans ht.str, (if_neg (by decide)).trans ht.p0, (if_neg (by decide)).trans ht.p1, (if_neg (by decide)).trans ht.o, (if_neg (by decide)).trans ht.ln, (if_neg (by decide)).trans ht.ls, if_pos rfl, (if_neg (by decide)).trans ht.hs, (if_neg (by decide)).trans ht.he, (if_neg (by decide)).trans ht.src, fun k hk => (if_neg (by omega)).trans (ht.far k hk)⟩⟩
theorem Tk.setHs (h : Tk P F0 s o ls le ln hs he w) (b2 : Bool) : Tk P F0 s o ls le ln b2 he (w.setCell ⟨P, 74, none⟩ (.bool b2)) := by
  obtain ⟨F, hr, ht⟩ := h.ex
  refine ⟨_, hr.set 74 _, ⟨(if_neg (by decide)).trans ht.str, (if_neg (by decide)).trans ht.p0, (if_neg (by decide)).trans ht.p1, (if_neg (by decide)).trans ht.o, (if_neg (by decide)).trans ht.ln, (if_neg (by decide)).trans ht.ls, (if_neg (by decide)).trans ht.le, if_pos rfl, (if_neg (by decide)).trans ht.he, (if_neg (by decide)).trans ht.src, fun k hk => (if_neg (by omega)).trans (ht.far k hk)⟩⟩
theorem Tk.setHe (h : Tk P F0 s o ls le ln hs he w) (b2 : Bool) : Tk P F0 s o ls le ln hs b2 (w.setCell ⟨P, 75, none⟩ (.bool b2)) := by
  obtain ⟨F, hr, ht⟩ := h.ex
  refine ⟨_, hr.set 75 _, ⟨(if_neg (by decide)).trans ht.str, (if_neg (by decide)).trans ht.p0, (if_neg (by decide)).trans ht.p1, (if_neg (by decide)).trans ht.o, (if_neg (by decide)).trans ht.ln, (if_neg (by decide)).trans ht.ls, (if_neg (by decide)).trans ht.le, (if_neg (by decide)).trans ht.hs, if_pos rfl, (if_neg (by decide)).trans ht.src, fun k hk => (if_neg (by omega)).trans (ht.far k hk)⟩⟩
end
/-- Nothing but block P and new blocks has changed. -/
structure Op2 (P : Nat) (w w' : World) : Prop where
  bel : Below P w w'
  blk : ∀ b : Nat, b < w.heap.size → b ≠ P → w'.heap[b]? = w.heap[b]?
section
variable {P : Nat} {w w1 w2 : World}
theorem Op2.refl (P : Nat) (w : World) : Op2 P w w := ⟨Below.refl _ _, fun _ _ _ => rfl⟩
theorem Op2.trans (h : Op2 P w w1) (k : Op2 P w1 w2) : Op2 P w w2 := ⟨h.bel.trans k.bel, fun b hb hn => (k.blk b (Nat.lt_of_lt_of_le hb h.bel.size) hn).trans (h.blk b hb hn)⟩
theorem Op2.below (hb : Below w.heap.size w w1) (hP : P ≤ w.heap.size) : Op2 P w w1 := ⟨hb.mono hP, fun b hl _ => hb.block b hl⟩
theorem Op2.set (h : Op2 P w w1) (j : Nat) (v : Value) : Op2 P w (w1.setCell ⟨P, j, none⟩ v) := ⟨h.bel.setCell (Nat.le_refl _) _, fun b hb hn => (Go.Deep.blk_setCell_other _ _ _ _ hn).trans (h.blk b hb hn)⟩
theorem Op2.next (h : Op2 P w w1) (hP : P ≤ w.heap.size) (hb : Below w1.heap.size w1 w2) : Op2 P w w2 := h.trans (Op2.below hb (Nat.le_trans hP h.bel.size))
end
theorem tabs_op {g3 g4 P : Nat} {w w' : World} (h : Lib.Utf8Tabs g3 g4 w) (hb : Below P w w') (h3 : g3 < P) (h4 : g4 < P) : Lib.Utf8Tabs g3 g4 w' :=
  ⟨fun c hc => (hb.cell (p := ⟨g3, c, none⟩) h3).trans (h.1 c hc), fun i hi => ⟨(hb.cell (p := ⟨g4, 2 * i, none⟩) h4).trans (h.2 i hi).1, (hb.cell (p := ⟨g4, 2 * i + 1, none⟩) h4).trans (h.2 i hi).2⟩⟩
end Go.Proofs.YtcijcifhdakhoaaFmt.Ex
