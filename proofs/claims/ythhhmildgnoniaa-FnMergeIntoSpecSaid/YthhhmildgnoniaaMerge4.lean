/-
  sameRngB1, pickRngB1, sameDeferredB1: what they answer. Condition: at most 65536 elements.
-/
import Derived.Test.YthhhmildgnoniaaMerge3
namespace Go.Proofs.Ythhhmildgnoniaa.Merge
open Go.RowKit Go.ChangeShapes Go.WideShapes Go.ChangeAt Go.Proofs.Ythhhmildgnoniaa.Ints Go.Proofs.Ythhhmildgnoniaa.Pairs

theorem same (x y : Int) (w : World) : Calls Try.prog 16 #[.agg #[.int .i32 x, .int .i32 y], .agg #[.int .i32 x, .int .i32 y]] w fun e w' => e = .returned (.bool true) ∧ Below w.heap.size w w' := by
  go_enter Try.func16, Try.ntmps16
  go_wp2_with fail
  go_ret
  exact ⟨rfl, ((Below.refl _ _).alloc (Nat.le_refl _) _).alloc (by simp) _⟩
theorem pick (x y u v : Int) (w : World) : Calls Try.prog 17 #[.agg #[.int .i32 x, .int .i32 y], .agg #[.int .i32 u, .int .i32 v]] w fun e w' => e = .returned (.agg #[.int .i32 (pk y x u), .int .i32 (pk y y v)]) ∧ Below w.heap.size w w' := by
  rcases Classical.em (0 < y) with h | h
  · rw [pk_pos h, pk_pos h]
    go_enter Try.func17, Try.ntmps17
    go_wp2_with fail
    exact bodyPost_ret (v := .agg #[.int .i32 x, .int .i32 y]) (by simp [results, Try.results17, go_sem]) rfl ⟨rfl, (((Below.refl _ _).alloc (Nat.le_refl _) _).alloc (by simp) _).alloc (by simp; omega) _⟩
  · rw [pk_neg h, pk_neg h]
    go_enter Try.func17, Try.ntmps17
    go_wp2_with fail
    exact bodyPost_ret (v := .agg #[.int .i32 u, .int .i32 v]) (by simp [results, Try.results17, go_sem]) rfl ⟨rfl, (((Below.refl _ _).alloc (Nat.le_refl _) _).alloc (by simp) _).alloc (by simp; omega) _⟩
structure Two (w wa : World) (a0 a1 b0 b1 c0 c1 : Int) (v u : Value) : Prop where
  below : Below w.heap.size w wa
  size : w.heap.size + 2 ≤ wa.heap.size
  r0 : wa.rowIs w.heap.size 42 7 (seven a0 a1 b0 b1 c0 c1 v)
  r1 : wa.rowIs (w.heap.size + 1) 37 7 (seven a0 a1 b0 b1 c0 c1 u)
theorem two_start (w : World) (a0 a1 b0 b1 c0 c1 : Int) (v u : Value) :
    Two w ((w.alloc (.cells #[.int .i32 a0, .int .i32 a1, .int .i32 b0, .int .i32 b1, .int .i32 c0, .int .i32 c1, v] 42)).alloc (.cells #[.int .i32 a0, .int .i32 a1, .int .i32 b0, .int .i32 b1, .int .i32 c0, .int .i32 c1, u] 37)) a0 a1 b0 b1 c0 c1 v u := by
  refine ⟨((Below.refl _ _).alloc (Nat.le_refl _) _).alloc (by simp) _, by simp, seven_row ?_, seven_row ?_⟩
  · rw [at_below (by simp)]; exact at_alloc rfl
  · exact at_alloc (by simp)
theorem Two.next {w wa wb : World} {a0 a1 b0 b1 c0 c1 : Int} {v u : Value} (h : Two w wa a0 a1 b0 b1 c0 c1 v u) (hb : Below wa.heap.size wa wb) : Two w wb a0 a1 b0 b1 c0 c1 v u := by
  have hs := h.size
  exact ⟨h.below.trans (hb.mono (by omega)), Nat.le_trans h.size hb.size, h.r0.of_block (hb.block _ (by omega)), h.r1.of_block (hb.block _ (by omega))⟩
theorem eql_nil (t e : TypeId) (a : Option Addr) (l c : Nat) (h : Try.prog.underlying t = some (.slice e)) (b : Bool) (hb : a.isNone = b) (w : World) : (binOp .eql t (.slice a l c) (.slice none 0 0)).run Try.prog w = .ok (.bool b) w := by
  subst hb
  simp [binOp, run_equal_slice_nil w t e a l c h]
set_option maxRecDepth 100000 in
set_option maxHeartbeats 4000000 in
theorem sameD (a0 a1 b0 b1 c0 c1 : Int) (o o2 : Option Addr) (n c c2 : Nat) (S L : Nat → Int) (w : World) (hn : n ≤ 65536) (h : PairsAt w o n S L) (h2 : PairsAt w o2 n S L) (hnil : o2 = none ↔ o = none) :
    Calls Try.prog 18 #[.agg #[.int .i32 a0, .int .i32 a1, .int .i32 b0, .int .i32 b1, .int .i32 c0, .int .i32 c1, .slice o2 n c2], .agg #[.int .i32 a0, .int .i32 a1, .int .i32 b0, .int .i32 b1, .int .i32 c0, .int .i32 c1, .slice o n c]] w
      fun e w' => e = .returned (.bool true) ∧ Below w.heap.size w w' := by
  obtain ⟨bb, hb1, hb2⟩ : ∃ bb, o2.isNone = bb ∧ o.isNone = bb := ⟨_, rfl, by cases o <;> cases o2 <;> simp_all⟩
  have n1 := eql_nil 40 39 o2 n c2 Try.underlying40 bb hb1
  have n2 := eql_nil 35 34 o n c Try.underlying35 bb hb2
  clear hnil hb1 hb2
  go_enter Try.func18, Try.ntmps18
  go_wp2_with fail
  have T0 := two_start w a0 a1 b0 b1 c0 c1 (.slice o2 n c2) (.slice o n c)
  generalize ((w.alloc (.cells #[.int .i32 a0, .int .i32 a1, .int .i32 b0, .int .i32 b1, .int .i32 c0, .int .i32 c1, .slice o2 n c2] 42)).alloc (.cells #[.int .i32 a0, .int .i32 a1, .int .i32 b0, .int .i32 b1, .int .i32 c0, .int .i32 c1, .slice o n c] 37)) = w0 at T0 ⊢
  go_at_call 16
  refine (same _ _ _).mono ?_
  rintro e w1 ⟨rfl, b⟩
  have T1 := T0.next b
  clear b T0
  have g0 : w1.cell? ⟨w.heap.size, 0, none⟩ = some (.int .i32 a0) := T1.r0.cell (i := 0) (by omega)
  have g1 : w1.cell? ⟨w.heap.size, 1, none⟩ = some (.int .i32 a1) := T1.r0.cell (i := 1) (by omega)
  have g2 : w1.cell? ⟨w.heap.size, 2, none⟩ = some (.int .i32 b0) := T1.r0.cell (i := 2) (by omega)
  have g3 : w1.cell? ⟨w.heap.size, 3, none⟩ = some (.int .i32 b1) := T1.r0.cell (i := 3) (by omega)
  have g4 : w1.cell? ⟨w.heap.size, 4, none⟩ = some (.int .i32 c0) := T1.r0.cell (i := 4) (by omega)
  have g5 : w1.cell? ⟨w.heap.size, 5, none⟩ = some (.int .i32 c1) := T1.r0.cell (i := 5) (by omega)
  have g6 : w1.cell? ⟨w.heap.size, 6, none⟩ = some (.slice o2 n c2) := T1.r0.cell (i := 6) (by omega)
  have k0 : w1.cell? ⟨w.heap.size + 1, 0, none⟩ = some (.int .i32 a0) := T1.r1.cell (i := 0) (by omega)
  have k1 : w1.cell? ⟨w.heap.size + 1, 1, none⟩ = some (.int .i32 a1) := T1.r1.cell (i := 1) (by omega)
  have k2 : w1.cell? ⟨w.heap.size + 1, 2, none⟩ = some (.int .i32 b0) := T1.r1.cell (i := 2) (by omega)
  have k3 : w1.cell? ⟨w.heap.size + 1, 3, none⟩ = some (.int .i32 b1) := T1.r1.cell (i := 3) (by omega)
  have k4 : w1.cell? ⟨w.heap.size + 1, 4, none⟩ = some (.int .i32 c0) := T1.r1.cell (i := 4) (by omega)
  have k5 : w1.cell? ⟨w.heap.size + 1, 5, none⟩ = some (.int .i32 c1) := T1.r1.cell (i := 5) (by omega)
  have k6 : w1.cell? ⟨w.heap.size + 1, 6, none⟩ = some (.slice o n c) := T1.r1.cell (i := 6) (by omega)
  go_wp2_with fail
  clear g0 k0 g1 k1 g2 k2 g3 k3 g4 k4 g5 k5 g6 k6
  go_at_call 16
  refine (same _ _ _).mono ?_
  rintro e w2 ⟨rfl, b⟩
  have T2 := T1.next b
  clear b T1
  have g0 : w2.cell? ⟨w.heap.size, 0, none⟩ = some (.int .i32 a0) := T2.r0.cell (i := 0) (by omega)
  have g1 : w2.cell? ⟨w.heap.size, 1, none⟩ = some (.int .i32 a1) := T2.r0.cell (i := 1) (by omega)
  have g2 : w2.cell? ⟨w.heap.size, 2, none⟩ = some (.int .i32 b0) := T2.r0.cell (i := 2) (by omega)
  have g3 : w2.cell? ⟨w.heap.size, 3, none⟩ = some (.int .i32 b1) := T2.r0.cell (i := 3) (by omega)
  have g4 : w2.cell? ⟨w.heap.size, 4, none⟩ = some (.int .i32 c0) := T2.r0.cell (i := 4) (by omega)
  have g5 : w2.cell? ⟨w.heap.size, 5, none⟩ = some (.int .i32 c1) := T2.r0.cell (i := 5) (by omega)
  have g6 : w2.cell? ⟨w.heap.size, 6, none⟩ = some (.slice o2 n c2) := T2.r0.cell (i := 6) (by omega)
  have k0 : w2.cell? ⟨w.heap.size + 1, 0, none⟩ = some (.int .i32 a0) := T2.r1.cell (i := 0) (by omega)
  have k1 : w2.cell? ⟨w.heap.size + 1, 1, none⟩ = some (.int .i32 a1) := T2.r1.cell (i := 1) (by omega)
  have k2 : w2.cell? ⟨w.heap.size + 1, 2, none⟩ = some (.int .i32 b0) := T2.r1.cell (i := 2) (by omega)
  have k3 : w2.cell? ⟨w.heap.size + 1, 3, none⟩ = some (.int .i32 b1) := T2.r1.cell (i := 3) (by omega)
  have k4 : w2.cell? ⟨w.heap.size + 1, 4, none⟩ = some (.int .i32 c0) := T2.r1.cell (i := 4) (by omega)
  have k5 : w2.cell? ⟨w.heap.size + 1, 5, none⟩ = some (.int .i32 c1) := T2.r1.cell (i := 5) (by omega)
  have k6 : w2.cell? ⟨w.heap.size + 1, 6, none⟩ = some (.slice o n c) := T2.r1.cell (i := 6) (by omega)
  go_wp2_with fail
  clear g0 k0 g1 k1 g2 k2 g3 k3 g4 k4 g5 k5 g6 k6
  go_at_call 16
  refine (same _ _ _).mono ?_
  rintro e w3 ⟨rfl, b⟩
  have T3 := T2.next b
  clear b T2
  have g0 : w3.cell? ⟨w.heap.size, 0, none⟩ = some (.int .i32 a0) := T3.r0.cell (i := 0) (by omega)
  have g1 : w3.cell? ⟨w.heap.size, 1, none⟩ = some (.int .i32 a1) := T3.r0.cell (i := 1) (by omega)
  have g2 : w3.cell? ⟨w.heap.size, 2, none⟩ = some (.int .i32 b0) := T3.r0.cell (i := 2) (by omega)
  have g3 : w3.cell? ⟨w.heap.size, 3, none⟩ = some (.int .i32 b1) := T3.r0.cell (i := 3) (by omega)
  have g4 : w3.cell? ⟨w.heap.size, 4, none⟩ = some (.int .i32 c0) := T3.r0.cell (i := 4) (by omega)
  have g5 : w3.cell? ⟨w.heap.size, 5, none⟩ = some (.int .i32 c1) := T3.r0.cell (i := 5) (by omega)
  have g6 : w3.cell? ⟨w.heap.size, 6, none⟩ = some (.slice o2 n c2) := T3.r0.cell (i := 6) (by omega)
  have k0 : w3.cell? ⟨w.heap.size + 1, 0, none⟩ = some (.int .i32 a0) := T3.r1.cell (i := 0) (by omega)
  have k1 : w3.cell? ⟨w.heap.size + 1, 1, none⟩ = some (.int .i32 a1) := T3.r1.cell (i := 1) (by omega)
  have k2 : w3.cell? ⟨w.heap.size + 1, 2, none⟩ = some (.int .i32 b0) := T3.r1.cell (i := 2) (by omega)
  have k3 : w3.cell? ⟨w.heap.size + 1, 3, none⟩ = some (.int .i32 b1) := T3.r1.cell (i := 3) (by omega)
  have k4 : w3.cell? ⟨w.heap.size + 1, 4, none⟩ = some (.int .i32 c0) := T3.r1.cell (i := 4) (by omega)
  have k5 : w3.cell? ⟨w.heap.size + 1, 5, none⟩ = some (.int .i32 c1) := T3.r1.cell (i := 5) (by omega)
  have k6 : w3.cell? ⟨w.heap.size + 1, 6, none⟩ = some (.slice o n c) := T3.r1.cell (i := 6) (by omega)
  go_wp2_with fail
  clear g0 k0 g1 k1 g2 k2 g3 k3 g4 k4 g5 k5 g6 k6
  go_loopg [5] n (fun gk i wr => ∃ r : Nat, r ≤ n ∧ gk = n - r ∧ i = .int .i64 r ∧ Two w wr a0 a1 b0 b1 c0 c1 (.slice o2 n c2) (.slice o n c))
  case atStart => exact ⟨0, Nat.zero_le _, rfl, rfl, T3⟩
  case round =>
    clear T3
    obtain ⟨r, hr, rfl, rfl, T⟩ := hrel
    have g6 : wr.cell? ⟨w.heap.size, 6, none⟩ = some (.slice o2 n c2) := T.r0.cell (i := 6) (by omega)
    have k6 : wr.cell? ⟨w.heap.size + 1, 6, none⟩ = some (.slice o n c) := T.r1.cell (i := 6) (by omega)
    rcases Nat.lt_or_ge r n with hlt | hge
    · have h' := h.below T.below
      have h2' := h2.below T.below
      rcases h' with h0 | ⟨bq, off, e1, l1, q1⟩
      · omega
      rcases h2' with h0 | ⟨bp, off2, e2, l2, q2⟩
      · omega
      subst e1
      subst e2
      obtain ⟨s1, s2⟩ := q1 r hlt
      obtain ⟨s3, s4⟩ := q2 r hlt
      replace h := Lib.hid h
      replace h2 := Lib.hid h2
      clear q1 q2
      go_wp2_with fail
      go_still_tail 10, (by kernel_rfl)
      change wpList _ _ _ _ _ wr.drew
      replace T := T.next (Below.refl _ _).drew
      clear g6 k6 s1 s2 s3 s4
      generalize wr.drew = wy at T ⊢
      go_wp2_with fail
      go_at_call 16
      refine (same _ _ _).mono ?_
      rintro e wn ⟨rfl, b⟩
      have T' := T.next b
      clear b T
      go_wp2_with fail
      go_roundg (n - (r + 1))
      case measure => omega
      case rel => exact ⟨r + 1, by omega, rfl, rfl, T'⟩
    · have hrn : n = r := by omega
      subst hrn
      replace h := Lib.hid h
      replace h2 := Lib.hid h2
      go_wp2_with fail
      go_ret
      exact ⟨rfl, T.below⟩
end Go.Proofs.Ythhhmildgnoniaa.Merge
