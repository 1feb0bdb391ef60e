/-
  sort.Stable over the messages of a log with at most two of them; the log's Done. Condition: located errors.
-/
import Derived.Test.YtcijcifhdakhoaaFmtEx5b
import Derived.LoopN
namespace Go.Proofs.YtcijcifhdakhoaaFmt.Ex
open Go.RowKit Go.MuLone Go.Lib Go.Proofs.YtcijcifhdakhoaaFmt.Ints Go.Proofs.YtcijcifhdakhoaaFmt.Lg Go.Proofs.YtcijcifhdakhoaaFmt.Mu

def Rets (w : World) (y : Ending) (w' : World) : Prop := y = .returned (.tuple #[]) ∧ w' = w
theorem sort1 (d : Value) (n : Nat) (hn : n ≤ 1) (w : World) : Calls Tryf.prog 44 #[d, .int .i64 0, .int .i64 (n : Nat)] w (Rets w) := by
  go_enter Tryf.func44, Tryf.ntmps44
  go_wp2_with fail
  refine wp_loop_rounds 1 ?_
  rw [rounds_succ]
  go_wp2_with fail
  go_end0
  exact ⟨rfl, rfl⟩
/-- The two messages as they were, or exchanged. -/
def Srt (B g N q0 k0 q1 k1 : Nat) (x0 x1 : ByteArray) (w : World) (y : Ending) (w' : World) : Prop := y = .returned (.tuple #[]) ∧ (Two g N q0 k0 q1 k1 x0 x1 w' ∨ Two g N q1 k1 q0 k0 x1 x0 w') ∧ Kg B g w w'
set_option maxRecDepth 100000 in
theorem sort2 (B g N q0 k0 q1 k1' c : Nat) (x0 x1 : ByteArray) (w : World) (h : Two g N q0 k0 q1 k1' x0 x1 w) (hB : B ≤ g) :
    Calls Tryf.prog 44 #[.iface 179 (.slice (some ⟨g, 0, none⟩) 2 c), .int .i64 0, .int .i64 2] w (Srt B g N q0 k0 q1 k1' x0 x1 w) := by
  have hg : g < w.heap.size := lt_of_cell (a := ⟨g, 0, none⟩) (h.cell 0 (by omega))
  have cL := Lib.hid (msgsLess g N q0 k0 q1 k1' c x0 x1 w h)
  replace h := Lib.hid h
  go_enter Tryf.func44, Tryf.ntmps44
  go_wp2_with fail
  refine wp_loop_rounds 2 ?_
  rw [rounds_succ]
  go_wp2_with fail
  refine wp_loop_rounds 2 ?_
  rw [rounds_succ]
  go_wp2_with fail
  refine cL.out.mono ?_
  rintro y w1 ⟨b, rfl, hb1⟩
  have h1 := Lib.hid (h.out.below hb1)
  have k1 : Kg B g w w1 := ⟨hb1.mono (Nat.le_trans hB (Nat.le_of_lt hg)), fun b hb _ => hb1.block b hb⟩
  replace k1 := Lib.hid k1
  have z1 := hb1.size
  clear cL h hb1
  cases b with
  | false =>
    go_wp2_with fail
    rw [rounds_succ]
    go_wp2_with fail
    go_end0
    exact ⟨rfl, .inl h1.out, k1.out⟩
  | true =>
    have cS := Lib.hid (msgsSwap B g N q0 k0 q1 k1' c x0 x1 w1 h1.out hB)
    go_wp2_with fail
    refine cS.out.mono ?_
    rintro y w2 ⟨rfl, h2, k2⟩
    have hfin : Srt B g N q0 k0 q1 k1' x0 x1 w (.returned (.tuple #[])) w2 := ⟨rfl, .inr h2, k1.out.bel.trans k2.bel, fun b hb hn => (k2.blk b (Nat.lt_of_lt_of_le hb z1) hn).trans (k1.out.blk b hb hn)⟩
    replace hfin := Lib.hid hfin
    clear h2 k2 h1 k1 cS
    go_wp2_with fail
    rw [rounds_succ]
    go_wp2_with fail
    rw [rounds_succ]
    go_wp2_with fail
    go_end0
    exact hfin.out
/-- stable, where insertionSort of the whole is known. -/
theorem stab {Q : World → Ending → World → Prop} (d : Value) (n : Nat) (hn : n ≤ 2) (w : World) (hI : Calls Tryf.prog 44 #[d, .int .i64 0, .int .i64 (n : Nat)] w (fun y w' => y = .returned (.tuple #[]) ∧ Q w y w')) :
    Calls Tryf.prog 28 #[d, .int .i64 (n : Nat)] w (fun y w' => y = .returned (.tuple #[]) ∧ Q w y w') := by
  replace hI := Lib.hid hI
  go_enter Tryf.func28, Tryf.ntmps28
  go_wp2_with fail
  refine wp_loop_rounds 1 ?_
  rw [rounds_succ]
  go_wp2_with fail
  refine hI.out.mono ?_
  rintro y w1 ⟨rfl, hq⟩
  replace hq := Lib.hid hq
  clear hI
  go_wp2_with fail
  refine wp_loop_rounds 1 ?_
  rw [rounds_succ]
  go_wp2_with fail
  go_end0
  exact ⟨rfl, hq.out⟩
theorem Stab {Q : World → Ending → World → Prop} (o : Option Addr) (c n : Nat) (hn : n ≤ 2) (w : World) (hI : Calls Tryf.prog 44 #[.iface 179 (.slice o n c), .int .i64 0, .int .i64 (n : Nat)] w (fun y w' => y = .returned (.tuple #[]) ∧ Q w y w')) :
    Calls Tryf.prog 22 #[.iface 179 (.slice o n c)] w (fun y w' => y = .returned (.tuple #[]) ∧ Q w y w') := by
  have cS := Lib.hid (stab (Q := Q) _ n hn w hI)
  clear hI
  go_enter Tryf.func22, Tryf.ntmps22
  go_wp2_with (go_at_call 96; refine (msgsLen _ _ _ _).mono ?_; rintro y w1 ⟨rfl, rfl⟩)
  refine cS.out.mono ?_
  rintro y w1 ⟨rfl, hq⟩
  replace hq := Lib.hid hq
  clear cS
  go_wp2_with fail
  go_end0
  exact ⟨rfl, hq.out⟩
end Go.Proofs.YtcijcifhdakhoaaFmt.Ex
