/-
  b2SortInts and b2ErrorsWithLengths at no more than two lengths. Condition: as said.
-/
import Derived.Test.YtcijcifhdakhoaaFmtEx7
namespace Go.Proofs.YtcijcifhdakhoaaFmt.Ex
open Go.RowKit Go.Lib Go.Proofs.YtcijcifhdakhoaaFmt.Ints Go.Proofs.YtcijcifhdakhoaaFmt.Lg

def IntB (g : Nat) (c : Array Value) (w : World) : Prop := w.heap[g]? = some (.cells c 3 (0, 0))
theorem sortInts1 (a : Option Addr) (n c : Nat) (hn : n ≤ 1) (w : World) : Calls Tryf.prog 15 #[.slice a n c] w (Rets w) := by
  go_enter Tryf.func15, Tryf.ntmps15
  go_wp2_with fail
  refine wp_loop_rounds 1 ?_
  rw [rounds_succ]
  go_wp2_with fail
  go_end0
  exact ⟨rfl, rfl⟩
def SrtI (g : Nat) (a b : Int) (w : World) (y : Ending) (w' : World) : Prop := y = .returned (.tuple #[]) ∧ IntB g #[.int .i64 (min a b), .int .i64 (max a b)] w' ∧ Kg g g w w'
set_option maxRecDepth 100000 in
theorem sortInts2 (g : Nat) (a b : Int) (w : World) (h : IntB g #[.int .i64 a, .int .i64 b] w) : Calls Tryf.prog 15 #[.slice (some ⟨g, 0, none⟩) 2 2] w (SrtI g a b w) := by
  have c0 : w.cell? ⟨g, 0, none⟩ = some (.int .i64 a) := cell_of_row _ _ 0 _ _ _ h
  have c1 : w.cell? ⟨g, 1, none⟩ = some (.int .i64 b) := cell_of_row _ _ 1 _ _ _ h
  have f0 : w.frozen? ⟨g, 0, none⟩ = false := frozen_of_row _ _ 0 _ _ h
  have f1 : w.frozen? ⟨g, 1, none⟩ = false := frozen_of_row _ _ 1 _ _ h
  have h1 : IntB g #[.int .i64 b, .int .i64 b] (w.setCell ⟨g, 0, none⟩ (.int .i64 b)) := heap_setCell_same w g 0 _ _ _ h
  have h2 : IntB g #[.int .i64 b, .int .i64 a] ((w.setCell ⟨g, 0, none⟩ (.int .i64 b)).setCell ⟨g, 1, none⟩ (.int .i64 a)) := heap_setCell_same _ g 1 _ _ _ h1
  replace h := Lib.hid h
  replace h2 := Lib.hid h2
  clear h1
  by_cases hab : b < a
  · go_enter Tryf.func15, Tryf.ntmps15
    go_wp2_with fail
    refine wp_loop_rounds 2 ?_
    rw [rounds_succ]
    go_wp2_with fail
    refine wp_loop_rounds 2 ?_
    rw [rounds_succ]
    go_wp2_with fail
    go_region
    go_wp2_with fail
    rw [rounds_succ]
    go_wp2_with fail
    go_region
    go_wp2_with fail
    rw [rounds_succ]
    go_wp2_with fail
    go_end0
    refine ⟨rfl, ?_, ?_⟩
    · rw [Int.min_eq_right (by omega), Int.max_eq_left (by omega)]
      exact h2.out
    · exact ⟨by go_grown, fun b hb hn => ((Go.Deep.blk_setCell_other _ ⟨g, 1, none⟩ _ _ hn).trans (Go.Deep.blk_setCell_other _ ⟨g, 0, none⟩ _ _ hn))⟩
  · go_enter Tryf.func15, Tryf.ntmps15
    go_wp2_with fail
    refine wp_loop_rounds 2 ?_
    rw [rounds_succ]
    go_wp2_with fail
    refine wp_loop_rounds 2 ?_
    rw [rounds_succ]
    go_wp2_with fail
    go_region
    go_wp2_with fail
    rw [rounds_succ]
    go_wp2_with fail
    go_end0
    refine ⟨rfl, ?_, ?_⟩
    · rw [Int.min_eq_left (by omega), Int.max_eq_right (by omega)]
      exact h.out
    · exact ⟨by go_grown, fun b hb hn => rfl⟩
end Go.Proofs.YtcijcifhdakhoaaFmt.Ex
