/-
  b2ErrorsWithLengths at two lengths. Condition: located errors, the wanted lengths in some order.
-/
import Derived.Test.YtcijcifhdakhoaaFmtEx8
namespace Go.Proofs.YtcijcifhdakhoaaFmt.Ex
open Go.RowKit Go.Lib Go.Proofs.YtcijcifhdakhoaaFmt.Ints Go.Proofs.YtcijcifhdakhoaaFmt.Lg

def Tru (w : World) (y : Ending) (w' : World) : Prop := y = .returned (.bool true) ∧ Below w.heap.size w w'
theorem mk2 (w : World) : (Instr.makeSlice 36 (.int .i64 2) (.int .i64 2)).run Tryf.prog w = .ok (.slice (some ⟨w.heap.size, 0, none⟩) 2 2) (w.alloc (.cells #[.int .i64 0, .int .i64 0] 3)) := by kernel_rfl
theorem mk1 (w : World) : (Instr.makeSlice 36 (.int .i64 1) (.int .i64 1)).run Tryf.prog w = .ok (.slice (some ⟨w.heap.size, 0, none⟩) 1 1) (w.alloc (.cells #[.int .i64 0] 3)) := by kernel_rfl
theorem mk0 (w : World) : (Instr.makeSlice 36 (.int .i64 0) (.int .i64 0)).run Tryf.prog w = .ok (.slice (some ⟨w.heap.size, 0, none⟩) 0 0) (w.alloc (.cells #[] 3)) := by kernel_rfl
theorem loc_len {q k : Nat} {w : World} (h : IsLoc q k w) : w.cell? ⟨q, 7, none⟩ = some (.int .i64 (k : Nat)) := by
  obtain ⟨x, a, c, hq⟩ := h
  exact cell_of_row _ _ 7 _ _ _ hq
set_option maxRecDepth 100000 in
theorem errs2 (g N q0 q1 a b h c c2 : Nat) (x0 x1 : ByteArray) (u v : Nat) (w : World) (hT : Two g N q0 a q1 b x0 x1 w) (h0 : w.cell? ⟨h, 0, none⟩ = some (.int .i64 (u : Nat))) (h1 : w.cell? ⟨h, 1, none⟩ = some (.int .i64 (v : Nat))) (huv : (u = a ∧ v = b) ∨ (u = b ∧ v = a)) :
    Calls Tryf.prog 11 #[.slice (some ⟨g, 0, none⟩) 2 c, .slice (some ⟨h, 0, none⟩) 2 c2] w (Tru w) := by
  have m3 : w.cell? ⟨g, 3, none⟩ = some (.pointer (some ⟨q0, 0, none⟩)) := hT.cell 3 (by omega)
  have m6 : w.cell? ⟨g, 6, none⟩ = some (.int .u8 0) := hT.cell 6 (by omega)
  have m11 : w.cell? ⟨g, 11, none⟩ = some (.pointer (some ⟨q1, 0, none⟩)) := hT.cell 11 (by omega)
  have m14 : w.cell? ⟨g, 14, none⟩ = some (.int .u8 0) := hT.cell 14 (by omega)
  have p0 := loc_len hT.h0
  have p1 := loc_len hT.h1
  have lg : g < w.heap.size := lt_of_cell m3
  have l0 : q0 < w.heap.size := lt_of_cell p0
  have l1 : q1 < w.heap.size := lt_of_cell p1
  have lh : h < w.heap.size := lt_of_cell h0
  have lg' : g < w.heap.size + 1 := by omega
  have l0' : q0 < w.heap.size + 1 := by omega
  have l1' : q1 < w.heap.size + 1 := by omega
  have lh' : h < w.heap.size + 1 := by omega
  have ng : g ≠ w.heap.size := by omega
  have n0 : q0 ≠ w.heap.size := by omega
  have n1 : q1 ≠ w.heap.size := by omega
  have nh : h ≠ w.heap.size := by omega
  have hk2 := mk2
  replace huv := Lib.hid huv
  clear hT
  go_enter Tryf.func11, Tryf.ntmps11
  go_wp2_with fail
  refine wp_loop_rounds 3 ?_
  rw [rounds_succ]
  go_wp2_with fail
  rw [rounds_succ]
  go_wp2_with fail
  rw [rounds_succ]
  go_wp2_with fail
  refine wp_loop_rounds 3 ?_
  rw [rounds_succ]
  go_wp2_with fail
  rw [rounds_succ]
  go_wp2_with fail
  rw [rounds_succ]
  go_wp2_with fail
  obtain ⟨t0, t1⟩ := two_blocks w #[.int .i64 (a : Nat), .int .i64 (b : Nat)] #[.int .i64 (u : Nat), .int .i64 (v : Nat)] 3 3
  have d0 : IntB w.heap.size #[.int .i64 (a : Nat), .int .i64 (b : Nat)] ((w.alloc (.cells #[.int .i64 (a : Nat), .int .i64 (b : Nat)] 3)).alloc (.cells #[.int .i64 (u : Nat), .int .i64 (v : Nat)] 3)) := t0
  have d1 : IntB (w.heap.size + 1) #[.int .i64 (u : Nat), .int .i64 (v : Nat)] ((w.alloc (.cells #[.int .i64 (a : Nat), .int .i64 (b : Nat)] 3)).alloc (.cells #[.int .i64 (u : Nat), .int .i64 (v : Nat)] 3)) := t1
  have db : Below w.heap.size w ((w.alloc (.cells #[.int .i64 (a : Nat), .int .i64 (b : Nat)] 3)).alloc (.cells #[.int .i64 (u : Nat), .int .i64 (v : Nat)] 3)) := ((Below.refl _ _).alloc (Nat.le_refl _) _).alloc (by simp) _
  clear t0 t1 m3 m6 m11 m14 p0 p1 lg l0 l1 lh lg' l0' l1' lh' ng n0 n1 nh hk2 h0 h1
  generalize (w.alloc (.cells #[.int .i64 (a : Nat), .int .i64 (b : Nat)] 3)).alloc (.cells #[.int .i64 (u : Nat), .int .i64 (v : Nat)] 3) = wd at d0 d1 db ⊢
  refine (sortInts2 w.heap.size a b wd d0).mono ?_
  rintro y w1 ⟨rfl, s0, k1⟩
  have s1 : IntB (w.heap.size + 1) #[.int .i64 (u : Nat), .int .i64 (v : Nat)] w1 := (k1.blk _ (lt_of_blk d1) (by omega)).trans d1
  have cS := Lib.hid (sortInts2 (w.heap.size + 1) u v w1 s1)
  replace k1 := Lib.hid k1
  replace db := Lib.hid db
  replace s0 := Lib.hid s0
  clear d0 d1 s1
  go_wp2_with fail
  refine cS.out.mono ?_
  rintro y w2 ⟨rfl, e1, k2⟩
  have e0 : IntB w.heap.size _ w2 := (k2.blk _ (lt_of_blk s0.out) (by omega)).trans s0.out
  have emin : min (u : Int) (v : Int) = min (a : Int) (b : Int) := by
    rcases huv.out with ⟨rfl, rfl⟩ | ⟨rfl, rfl⟩
    · rfl
    · exact Int.min_comm _ _
  have emax : max (u : Int) (v : Int) = max (a : Int) (b : Int) := by
    rcases huv.out with ⟨rfl, rfl⟩ | ⟨rfl, rfl⟩
    · rfl
    · exact Int.max_comm _ _
  rw [emin, emax] at e1
  have bel : Below w.heap.size w w2 := (db.out.trans k1.out.bel).trans (k2.bel.mono (by omega))
  generalize min (a : Int) (b : Int) = lo at e0 e1 ⊢
  generalize max (a : Int) (b : Int) = hi at e0 e1 ⊢
  have c0 : w2.cell? ⟨w.heap.size, 0, none⟩ = some (.int .i64 lo) := cell_of_row _ _ 0 _ _ _ e0
  have c1 : w2.cell? ⟨w.heap.size, 1, none⟩ = some (.int .i64 hi) := cell_of_row _ _ 1 _ _ _ e0
  have c2 : w2.cell? ⟨w.heap.size + 1, 0, none⟩ = some (.int .i64 lo) := cell_of_row _ _ 0 _ _ _ e1
  have c3 : w2.cell? ⟨w.heap.size + 1, 1, none⟩ = some (.int .i64 hi) := cell_of_row _ _ 1 _ _ _ e1
  replace bel := Lib.hid bel
  clear e0 e1 k1 k2 s0 cS db huv emin emax
  go_wp2_with fail
  refine wp_loop_rounds 3 ?_
  rw [rounds_succ]
  go_wp2_with fail
  go_region
  go_wp2_with fail
  rw [rounds_succ]
  go_wp2_with fail
  go_region
  go_wp2_with fail
  rw [rounds_succ]
  go_wp2_with fail
  go_ret
  exact ⟨rfl, bel.out.drew.drew⟩
end Go.Proofs.YtcijcifhdakhoaaFmt.Ex
