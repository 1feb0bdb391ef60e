/-
  b2ErrorsWithLengths at no more than two lengths. Condition: located errors of just these lengths.
-/
import Derived.Test.YtcijcifhdakhoaaFmtEx9
namespace Go.Proofs.YtcijcifhdakhoaaFmt.Ex
open Go.RowKit Go.Lib Go.Proofs.YtcijcifhdakhoaaFmt.Ints Go.Proofs.YtcijcifhdakhoaaFmt.Lg

set_option maxRecDepth 100000 in
theorem errs0 (o o2 : Option Addr) (c c2 : Nat) (w : World) : Calls Tryf.prog 11 #[.slice o 0 c, .slice o2 0 c2] w (Tru w) := by
  have hk := mk0
  go_enter Tryf.func11, Tryf.ntmps11
  go_wp2_with fail
  refine wp_loop_rounds 1 ?_
  rw [rounds_succ]
  go_wp2_with fail
  refine wp_loop_rounds 1 ?_
  rw [rounds_succ]
  go_wp2_with fail
  have bel : Below w.heap.size w ((w.alloc (.cells #[] 3)).alloc (.cells #[] 3)) := ((Below.refl _ _).alloc (Nat.le_refl _) _).alloc (by simp) _
  replace bel := Lib.hid bel
  generalize (w.alloc (.cells #[] 3)).alloc (.cells #[] 3) = wd at bel ⊢
  refine (sortInts1 _ 0 _ (by omega) wd).mono ?_
  rintro y w1 ⟨rfl, rfl⟩
  go_wp2_with fail
  refine (sortInts1 _ 0 _ (by omega) _).mono ?_
  rintro y w1 ⟨rfl, rfl⟩
  go_wp2_with fail
  refine wp_loop_rounds 1 ?_
  rw [rounds_succ]
  go_wp2_with fail
  go_ret
  exact ⟨rfl, bel.out⟩
set_option maxRecDepth 100000 in
theorem errs1 (g q a h c c2 : Nat) (w : World) (hT : One g q a w) (h0 : w.cell? ⟨h, 0, none⟩ = some (.int .i64 (a : Nat))) :
    Calls Tryf.prog 11 #[.slice (some ⟨g, 0, none⟩) 1 c, .slice (some ⟨h, 0, none⟩) 1 c2] w (Tru w) := by
  obtain ⟨cs, hg, g3, g6⟩ := hT.row
  have m3 : w.cell? ⟨g, 3, none⟩ = some (.pointer (some ⟨q, 0, none⟩)) := (cell_of_row _ _ 3 _ _ _ hg).trans g3
  have m6 : w.cell? ⟨g, 6, none⟩ = some (.int .u8 0) := (cell_of_row _ _ 6 _ _ _ hg).trans g6
  have p0 := loc_len hT.h0
  have lg : g < w.heap.size := lt_of_cell m3
  have l0 : q < w.heap.size := lt_of_cell p0
  have lh : h < w.heap.size := lt_of_cell h0
  have lg' : g < w.heap.size + 1 := by omega
  have l0' : q < w.heap.size + 1 := by omega
  have lh' : h < w.heap.size + 1 := by omega
  have ng : g ≠ w.heap.size := by omega
  have n0 : q ≠ w.heap.size := by omega
  have nh : h ≠ w.heap.size := by omega
  have hk := mk1
  clear hT hg g3 g6
  go_enter Tryf.func11, Tryf.ntmps11
  go_wp2_with fail
  refine wp_loop_rounds 2 ?_
  rw [rounds_succ]
  go_wp2_with fail
  rw [rounds_succ]
  go_wp2_with fail
  refine wp_loop_rounds 2 ?_
  rw [rounds_succ]
  go_wp2_with fail
  rw [rounds_succ]
  go_wp2_with fail
  obtain ⟨t0, t1⟩ := two_blocks w #[.int .i64 (a : Nat)] #[.int .i64 (a : Nat)] 3 3
  have d0 : IntB w.heap.size #[.int .i64 (a : Nat)] ((w.alloc (.cells #[.int .i64 (a : Nat)] 3)).alloc (.cells #[.int .i64 (a : Nat)] 3)) := t0
  have d1 : IntB (w.heap.size + 1) #[.int .i64 (a : Nat)] ((w.alloc (.cells #[.int .i64 (a : Nat)] 3)).alloc (.cells #[.int .i64 (a : Nat)] 3)) := t1
  have db : Below w.heap.size w ((w.alloc (.cells #[.int .i64 (a : Nat)] 3)).alloc (.cells #[.int .i64 (a : Nat)] 3)) := ((Below.refl _ _).alloc (Nat.le_refl _) _).alloc (by simp) _
  clear t0 t1 m3 m6 p0 lg l0 lh lg' l0' lh' ng n0 nh hk h0
  generalize (w.alloc (.cells #[.int .i64 (a : Nat)] 3)).alloc (.cells #[.int .i64 (a : Nat)] 3) = wd at d0 d1 db ⊢
  have c0 : wd.cell? ⟨w.heap.size, 0, none⟩ = some (.int .i64 (a : Nat)) := cell_of_row _ _ 0 _ _ _ d0
  have c2 : wd.cell? ⟨w.heap.size + 1, 0, none⟩ = some (.int .i64 (a : Nat)) := cell_of_row _ _ 0 _ _ _ d1
  replace db := Lib.hid db
  clear d0 d1
  refine (sortInts1 _ 1 _ (by omega) wd).mono ?_
  rintro y w1 ⟨rfl, rfl⟩
  go_wp2_with fail
  refine (sortInts1 _ 1 _ (by omega) _).mono ?_
  rintro y w1 ⟨rfl, rfl⟩
  go_wp2_with fail
  refine wp_loop_rounds 2 ?_
  rw [rounds_succ]
  go_wp2_with fail
  go_region
  go_wp2_with fail
  rw [rounds_succ]
  go_wp2_with fail
  go_ret
  exact ⟨rfl, db.out.drew⟩
theorem errs {l : List Nat} {v : Value} {h c2 : Nat} {w : World} (hF : Fin l v w) (hw : ∀ i k, l[i]? = some k → w.cell? ⟨h, i, none⟩ = some (.int .i64 (k : Nat))) :
    Calls Tryf.prog 11 #[v, .slice (some ⟨h, 0, none⟩) l.length c2] w (Tru w) := by
  rcases hF with ⟨rfl, o, c, rfl⟩ | ⟨k, g, c, q, rfl, rfl, h1⟩ | ⟨k0, k1, g, c, N, q0, q1, x0, x1, e, rfl, h2⟩
  · exact errs0 _ _ _ _ _
  · exact errs1 g q k h c c2 w h1 (hw 0 k rfl)
  · rcases e with rfl | rfl
    · exact errs2 g N q0 q1 k0 k1 h c c2 x0 x1 k0 k1 w h2 (hw 0 k0 rfl) (hw 1 k1 rfl) (.inl ⟨rfl, rfl⟩)
    · exact errs2 g N q0 q1 k0 k1 h c c2 x0 x1 k1 k0 w h2 (hw 0 k1 rfl) (hw 1 k0 rfl) (.inr ⟨rfl, rfl⟩)
end Go.Proofs.YtcijcifhdakhoaaFmt.Ex
