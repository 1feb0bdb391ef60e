/-
  The walk of FnMergeIntoSpec: it returns true for every two structs. No condition.
-/
import Derived.Test.YthhhmildgnoniaaMerge4
import Derived.IntWalk
namespace Go.Proofs.Ythhhmildgnoniaa.fnMergeIntoSpec
open Go.RowKit Go.ChangeShapes Go.WideShapes Go.ChangeAt Go.Proofs.Ythhhmildgnoniaa.Ints Go.Proofs.Ythhhmildgnoniaa.Pairs Go.Proofs.Ythhhmildgnoniaa.Merge

def SomeBool (w : World) (e : Ending) (w' : World) : Prop := ∃ r : Bool, e = .returned (.bool r) ∧ Below w.heap.size w w'
set_option maxHeartbeats 1000000 in
theorem bytes (a0 a1 b0 b1 c0 c1 x0 x1 y0 y1 z0 z1 : Int) (fo to : Option Addr) (m n fc tc : Nat) (w : World) (hn : n ≤ maxLen) (hm : m ≤ maxLen) :
    Calls Try.prog 13 #[.agg #[.int .i32 a0, .int .i32 a1, .int .i32 b0, .int .i32 b1, .int .i32 c0, .int .i32 c1, .slice fo n fc], .agg #[.int .i32 x0, .int .i32 x1, .int .i32 y0, .int .i32 y1, .int .i32 z0, .int .i32 z1, .slice to m tc]] w (SomeBool w) := by
  unfold maxLen at hn hm
  go_enter Try.func13, Try.ntmps13
  go_wp2
  all_goals
    go_ret
    exact ⟨_, rfl, ((Below.refl _ _).alloc (Nat.le_refl _) _).alloc (by simp) _⟩
theorem cat_lt {f g : Nat → Int} {n i : Nat} (h : i < n) : cat f n g i = f i := by simp [cat, h]
theorem cat_ge {f g : Nat → Int} {n i : Nat} : cat f n g (n + i) = g i := by simp [cat, show ¬ n + i < n by omega]
/-- The two parameters' own blocks. -/
structure Par (w wa : World) (a0 a1 b0 b1 c0 c1 x0 x1 y0 y1 z0 z1 : Int) (v u : Value) : Prop where
  below : Below w.heap.size w wa
  size : w.heap.size + 2 ≤ wa.heap.size
  r0 : wa.rowIs w.heap.size 37 7 (seven a0 a1 b0 b1 c0 c1 v)
  r1 : wa.rowIs (w.heap.size + 1) 37 7 (seven x0 x1 y0 y1 z0 z1 u)
theorem par_start (w : World) (a0 a1 b0 b1 c0 c1 x0 x1 y0 y1 z0 z1 : Int) (v u : Value) :
    Par w ((w.alloc (.cells #[.int .i32 a0, .int .i32 a1, .int .i32 b0, .int .i32 b1, .int .i32 c0, .int .i32 c1, v] 37)).alloc (.cells #[.int .i32 x0, .int .i32 x1, .int .i32 y0, .int .i32 y1, .int .i32 z0, .int .i32 z1, u] 37)) a0 a1 b0 b1 c0 c1 x0 x1 y0 y1 z0 z1 v u := by
  refine ⟨((Below.refl _ _).alloc (Nat.le_refl _) _).alloc (by simp) _, by simp, seven_row ?_, seven_row ?_⟩
  · rw [at_below (by simp)]; exact at_alloc rfl
  · exact at_alloc (by simp)
theorem Par.next {w wa wb : World} {a0 a1 b0 b1 c0 c1 x0 x1 y0 y1 z0 z1 : Int} {v u : Value} (h : Par w wa a0 a1 b0 b1 c0 c1 x0 x1 y0 y1 z0 z1 v u) (hb : Below wa.heap.size wa wb) : Par w wb a0 a1 b0 b1 c0 c1 x0 x1 y0 y1 z0 z1 v u := by
  have hs := h.size
  exact ⟨h.below.trans (hb.mono (by omega)), Nat.le_trans h.size hb.size, h.r0.of_block (hb.block _ (by omega)), h.r1.of_block (hb.block _ (by omega))⟩

section
variable {w W w' w1 : World} {fa m n fc tc : Nat} {a0 a1 b0 b1 c0 c1 x0 x1 y0 y1 z0 z1 r0 r1 s0 s1 t0 t1 : Int} {fo to of2 ot2 : Option Addr} {fS fL tS tL kS kL : Nat → Int}
structure Aft (w W : World) (fa m n fc tc : Nat) (a0 a1 b0 b1 c0 c1 x0 x1 y0 y1 z0 z1 r0 r1 s0 s1 t0 t1 : Int) (fo to of2 ot2 : Option Addr) (fS fL tS tL kS kL : Nat → Int) : Prop where
  p : Par w W a0 a1 b0 b1 c0 c1 x0 x1 y0 y1 z0 z1 (.slice fo n fc) (.slice to m tc)
  f : W.rowIs fa 42 7 (seven a0 a1 b0 b1 c0 c1 (.slice of2 n n))
  t : W.rowIs (fa + 1) 42 7 (seven r0 r1 s0 s1 t0 t1 (.slice ot2 (m + n) (m + n)))
  l1 : PairsAt W of2 n fS fL
  l2 : PairsAt W ot2 (m + n) kS kL
  l3 : PairsAt W fo n fS fL
  l4 : PairsAt W to m tS tL
theorem Aft.next (h : Aft w W fa m n fc tc a0 a1 b0 b1 c0 c1 x0 x1 y0 y1 z0 z1 r0 r1 s0 s1 t0 t1 fo to of2 ot2 fS fL tS tL kS kL) (hb : Below W.heap.size W w') : Aft w w' fa m n fc tc a0 a1 b0 b1 c0 c1 x0 x1 y0 y1 z0 z1 r0 r1 s0 s1 t0 t1 fo to of2 ot2 fS fL tS tL kS kL :=
  ⟨h.p.next hb, h.f.of_block (hb.block _ h.f.lt), h.t.of_block (hb.block _ h.t.lt), h.l1.below hb, h.l2.below hb, h.l3.below hb, h.l4.below hb⟩
theorem cj0 (h : Aft w w' fa m n fc tc a0 a1 b0 b1 c0 c1 x0 x1 y0 y1 z0 z1 r0 r1 s0 s1 t0 t1 fo to of2 ot2 fS fL tS tL kS kL) : w'.cell? ⟨fa + 1, 0, none⟩ = some (.int .i32 r0) ∧ w'.cell? ⟨fa + 1, 1, none⟩ = some (.int .i32 r1) ∧ w'.cell? ⟨w.heap.size, 0, none⟩ = some (.int .i32 a0) ∧ w'.cell? ⟨w.heap.size, 1, none⟩ = some (.int .i32 a1) ∧ w'.cell? ⟨w.heap.size + 1, 0, none⟩ = some (.int .i32 x0) ∧ w'.cell? ⟨w.heap.size + 1, 1, none⟩ = some (.int .i32 x1) ∧ Aft w w' fa m n fc tc a0 a1 b0 b1 c0 c1 x0 x1 y0 y1 z0 z1 r0 r1 s0 s1 t0 t1 fo to of2 ot2 fS fL tS tL kS kL :=
  ⟨h.t.cell (i := 0) (by omega), h.t.cell (i := 1) (by omega), h.p.r0.cell (i := 0) (by omega), h.p.r0.cell (i := 1) (by omega), h.p.r1.cell (i := 0) (by omega), h.p.r1.cell (i := 1) (by omega), h⟩
theorem kj0 (h : w'.cell? ⟨fa + 1, 0, none⟩ = some (.int .i32 r0) ∧ w'.cell? ⟨fa + 1, 1, none⟩ = some (.int .i32 r1) ∧ w'.cell? ⟨w.heap.size, 0, none⟩ = some (.int .i32 a0) ∧ w'.cell? ⟨w.heap.size, 1, none⟩ = some (.int .i32 a1) ∧ w'.cell? ⟨w.heap.size + 1, 0, none⟩ = some (.int .i32 x0) ∧ w'.cell? ⟨w.heap.size + 1, 1, none⟩ = some (.int .i32 x1) ∧ Aft w w' fa m n fc tc a0 a1 b0 b1 c0 c1 x0 x1 y0 y1 z0 z1 r0 r1 s0 s1 t0 t1 fo to of2 ot2 fS fL tS tL kS kL) (hb : Below w'.heap.size w' w1) : w1.cell? ⟨fa + 1, 0, none⟩ = some (.int .i32 r0) ∧ w1.cell? ⟨fa + 1, 1, none⟩ = some (.int .i32 r1) ∧ w1.cell? ⟨w.heap.size, 0, none⟩ = some (.int .i32 a0) ∧ w1.cell? ⟨w.heap.size, 1, none⟩ = some (.int .i32 a1) ∧ w1.cell? ⟨w.heap.size + 1, 0, none⟩ = some (.int .i32 x0) ∧ w1.cell? ⟨w.heap.size + 1, 1, none⟩ = some (.int .i32 x1) ∧ Aft w w1 fa m n fc tc a0 a1 b0 b1 c0 c1 x0 x1 y0 y1 z0 z1 r0 r1 s0 s1 t0 t1 fo to of2 ot2 fS fL tS tL kS kL := cj0 (h.2.2.2.2.2.2.next hb)
theorem cj1 (h : Aft w w' fa m n fc tc a0 a1 b0 b1 c0 c1 x0 x1 y0 y1 z0 z1 r0 r1 s0 s1 t0 t1 fo to of2 ot2 fS fL tS tL kS kL) : w'.cell? ⟨fa + 1, 2, none⟩ = some (.int .i32 s0) ∧ w'.cell? ⟨fa + 1, 3, none⟩ = some (.int .i32 s1) ∧ w'.cell? ⟨w.heap.size, 2, none⟩ = some (.int .i32 b0) ∧ w'.cell? ⟨w.heap.size, 3, none⟩ = some (.int .i32 b1) ∧ w'.cell? ⟨w.heap.size + 1, 2, none⟩ = some (.int .i32 y0) ∧ w'.cell? ⟨w.heap.size + 1, 3, none⟩ = some (.int .i32 y1) ∧ Aft w w' fa m n fc tc a0 a1 b0 b1 c0 c1 x0 x1 y0 y1 z0 z1 r0 r1 s0 s1 t0 t1 fo to of2 ot2 fS fL tS tL kS kL :=
  ⟨h.t.cell (i := 2) (by omega), h.t.cell (i := 3) (by omega), h.p.r0.cell (i := 2) (by omega), h.p.r0.cell (i := 3) (by omega), h.p.r1.cell (i := 2) (by omega), h.p.r1.cell (i := 3) (by omega), h⟩
theorem kj1 (h : w'.cell? ⟨fa + 1, 2, none⟩ = some (.int .i32 s0) ∧ w'.cell? ⟨fa + 1, 3, none⟩ = some (.int .i32 s1) ∧ w'.cell? ⟨w.heap.size, 2, none⟩ = some (.int .i32 b0) ∧ w'.cell? ⟨w.heap.size, 3, none⟩ = some (.int .i32 b1) ∧ w'.cell? ⟨w.heap.size + 1, 2, none⟩ = some (.int .i32 y0) ∧ w'.cell? ⟨w.heap.size + 1, 3, none⟩ = some (.int .i32 y1) ∧ Aft w w' fa m n fc tc a0 a1 b0 b1 c0 c1 x0 x1 y0 y1 z0 z1 r0 r1 s0 s1 t0 t1 fo to of2 ot2 fS fL tS tL kS kL) (hb : Below w'.heap.size w' w1) : w1.cell? ⟨fa + 1, 2, none⟩ = some (.int .i32 s0) ∧ w1.cell? ⟨fa + 1, 3, none⟩ = some (.int .i32 s1) ∧ w1.cell? ⟨w.heap.size, 2, none⟩ = some (.int .i32 b0) ∧ w1.cell? ⟨w.heap.size, 3, none⟩ = some (.int .i32 b1) ∧ w1.cell? ⟨w.heap.size + 1, 2, none⟩ = some (.int .i32 y0) ∧ w1.cell? ⟨w.heap.size + 1, 3, none⟩ = some (.int .i32 y1) ∧ Aft w w1 fa m n fc tc a0 a1 b0 b1 c0 c1 x0 x1 y0 y1 z0 z1 r0 r1 s0 s1 t0 t1 fo to of2 ot2 fS fL tS tL kS kL := cj1 (h.2.2.2.2.2.2.next hb)
theorem cj2 (h : Aft w w' fa m n fc tc a0 a1 b0 b1 c0 c1 x0 x1 y0 y1 z0 z1 r0 r1 s0 s1 t0 t1 fo to of2 ot2 fS fL tS tL kS kL) : w'.cell? ⟨fa + 1, 4, none⟩ = some (.int .i32 t0) ∧ w'.cell? ⟨fa + 1, 5, none⟩ = some (.int .i32 t1) ∧ w'.cell? ⟨w.heap.size, 4, none⟩ = some (.int .i32 c0) ∧ w'.cell? ⟨w.heap.size, 5, none⟩ = some (.int .i32 c1) ∧ w'.cell? ⟨w.heap.size + 1, 4, none⟩ = some (.int .i32 z0) ∧ w'.cell? ⟨w.heap.size + 1, 5, none⟩ = some (.int .i32 z1) ∧ Aft w w' fa m n fc tc a0 a1 b0 b1 c0 c1 x0 x1 y0 y1 z0 z1 r0 r1 s0 s1 t0 t1 fo to of2 ot2 fS fL tS tL kS kL :=
  ⟨h.t.cell (i := 4) (by omega), h.t.cell (i := 5) (by omega), h.p.r0.cell (i := 4) (by omega), h.p.r0.cell (i := 5) (by omega), h.p.r1.cell (i := 4) (by omega), h.p.r1.cell (i := 5) (by omega), h⟩
theorem kj2 (h : w'.cell? ⟨fa + 1, 4, none⟩ = some (.int .i32 t0) ∧ w'.cell? ⟨fa + 1, 5, none⟩ = some (.int .i32 t1) ∧ w'.cell? ⟨w.heap.size, 4, none⟩ = some (.int .i32 c0) ∧ w'.cell? ⟨w.heap.size, 5, none⟩ = some (.int .i32 c1) ∧ w'.cell? ⟨w.heap.size + 1, 4, none⟩ = some (.int .i32 z0) ∧ w'.cell? ⟨w.heap.size + 1, 5, none⟩ = some (.int .i32 z1) ∧ Aft w w' fa m n fc tc a0 a1 b0 b1 c0 c1 x0 x1 y0 y1 z0 z1 r0 r1 s0 s1 t0 t1 fo to of2 ot2 fS fL tS tL kS kL) (hb : Below w'.heap.size w' w1) : w1.cell? ⟨fa + 1, 4, none⟩ = some (.int .i32 t0) ∧ w1.cell? ⟨fa + 1, 5, none⟩ = some (.int .i32 t1) ∧ w1.cell? ⟨w.heap.size, 4, none⟩ = some (.int .i32 c0) ∧ w1.cell? ⟨w.heap.size, 5, none⟩ = some (.int .i32 c1) ∧ w1.cell? ⟨w.heap.size + 1, 4, none⟩ = some (.int .i32 z0) ∧ w1.cell? ⟨w.heap.size + 1, 5, none⟩ = some (.int .i32 z1) ∧ Aft w w1 fa m n fc tc a0 a1 b0 b1 c0 c1 x0 x1 y0 y1 z0 z1 r0 r1 s0 s1 t0 t1 fo to of2 ot2 fS fL tS tL kS kL := cj2 (h.2.2.2.2.2.2.next hb)
end
set_option maxRecDepth 100000 in
set_option maxHeartbeats 8000000 in
theorem main (a0 a1 b0 b1 c0 c1 x0 x1 y0 y1 z0 z1 : Int) (fo to : Option Addr) (m n fc tc : Nat) (fS fL tS tL : Nat → Int) (w : World) (hn : n ≤ maxLen) (hm : m ≤ maxLen) (hf : PairsAt w fo n fS fL) (ht : PairsAt w to m tS tL) (zf : fo = none → n = 0 ∧ fc = 0) (zt : to = none → m = 0 ∧ tc = 0) :
    Calls Try.prog 4 #[.agg #[.int .i32 a0, .int .i32 a1, .int .i32 b0, .int .i32 b1, .int .i32 c0, .int .i32 c1, .slice fo n fc], .agg #[.int .i32 x0, .int .i32 x1, .int .i32 y0, .int .i32 y1, .int .i32 z0, .int .i32 z1, .slice to m tc]] w fun e w' => e = .returned (.bool true) ∧ Below w.heap.size w w' := by
  have hn' := hn
  have hm' := hm
  unfold maxLen at hn' hm'
  replace zf := Lib.hid zf
  replace zt := Lib.hid zt
  go_enter Try.func4, Try.ntmps4
  go_wp2_with fail
  have P0 := par_start w a0 a1 b0 b1 c0 c1 x0 x1 y0 y1 z0 z1 (.slice fo n fc) (.slice to m tc)
  generalize ((w.alloc (.cells #[.int .i32 a0, .int .i32 a1, .int .i32 b0, .int .i32 b1, .int .i32 c0, .int .i32 c1, .slice fo n fc] 37)).alloc (.cells #[.int .i32 x0, .int .i32 x1, .int .i32 y0, .int .i32 y1, .int .i32 z0, .int .i32 z1, .slice to m tc] 37)) = v0 at P0 ⊢
  go_at_call 13
  refine (bytes _ _ _ _ _ _ _ _ _ _ _ _ _ _ _ _ _ _ _ hn hm).mono ?_
  rintro e v1 ⟨r, rfl, bb⟩
  have P1 := P0.next bb
  clear P0 bb
  replace hn := Lib.hid hn
  replace hm := Lib.hid hm
  have k6 : v1.cell? ⟨w.heap.size, 6, none⟩ = some (.slice fo n fc) := P1.r0.cell (i := 6) (by omega)
  have l6 : v1.cell? ⟨w.heap.size + 1, 6, none⟩ = some (.slice to m tc) := P1.r1.cell (i := 6) (by omega)
  cases r with
  | false =>
    go_wp2_with fail
    go_ret
    exact ⟨rfl, P1.below⟩
  | true =>
    by_cases big : n ≤ 65536 ∧ m ≤ 65536
    · obtain ⟨g1, g2⟩ := big
      clear hn' hm' k6 l6
      have k0 : v1.cell? ⟨w.heap.size, 0, none⟩ = some (.int .i32 a0) := P1.r0.cell (i := 0) (by omega)
      have k1 : v1.cell? ⟨w.heap.size, 1, none⟩ = some (.int .i32 a1) := P1.r0.cell (i := 1) (by omega)
      have k2 : v1.cell? ⟨w.heap.size, 2, none⟩ = some (.int .i32 b0) := P1.r0.cell (i := 2) (by omega)
      have k3 : v1.cell? ⟨w.heap.size, 3, none⟩ = some (.int .i32 b1) := P1.r0.cell (i := 3) (by omega)
      have k4 : v1.cell? ⟨w.heap.size, 4, none⟩ = some (.int .i32 c0) := P1.r0.cell (i := 4) (by omega)
      have k5 : v1.cell? ⟨w.heap.size, 5, none⟩ = some (.int .i32 c1) := P1.r0.cell (i := 5) (by omega)
      have k6 : v1.cell? ⟨w.heap.size, 6, none⟩ = some (.slice fo n fc) := P1.r0.cell (i := 6) (by omega)
      have l0 : v1.cell? ⟨w.heap.size + 1, 0, none⟩ = some (.int .i32 x0) := P1.r1.cell (i := 0) (by omega)
      have l1 : v1.cell? ⟨w.heap.size + 1, 1, none⟩ = some (.int .i32 x1) := P1.r1.cell (i := 1) (by omega)
      have l2 : v1.cell? ⟨w.heap.size + 1, 2, none⟩ = some (.int .i32 y0) := P1.r1.cell (i := 2) (by omega)
      have l3 : v1.cell? ⟨w.heap.size + 1, 3, none⟩ = some (.int .i32 y1) := P1.r1.cell (i := 3) (by omega)
      have l4 : v1.cell? ⟨w.heap.size + 1, 4, none⟩ = some (.int .i32 z0) := P1.r1.cell (i := 4) (by omega)
      have l5 : v1.cell? ⟨w.heap.size + 1, 5, none⟩ = some (.int .i32 z1) := P1.r1.cell (i := 5) (by omega)
      have l6 : v1.cell? ⟨w.heap.size + 1, 6, none⟩ = some (.slice to m tc) := P1.r1.cell (i := 6) (by omega)
      go_wp2_with fail
      go_at_call 14
      refine (copyA a0 a1 b0 b1 c0 c1 fo n fc fS fL v1 (by omega) (hf.below P1.below) zf.out).mono ?_
      rintro e v2 ⟨of, rfl, R1, B1⟩
      have P2 := P1.next B1
      clear k0 l0 k1 l1 k2 l2 k3 l3 k4 l4 k5 l5 k6 l6
      clear P1
      have k0 : v2.cell? ⟨w.heap.size, 0, none⟩ = some (.int .i32 a0) := P2.r0.cell (i := 0) (by omega)
      have k1 : v2.cell? ⟨w.heap.size, 1, none⟩ = some (.int .i32 a1) := P2.r0.cell (i := 1) (by omega)
      have k2 : v2.cell? ⟨w.heap.size, 2, none⟩ = some (.int .i32 b0) := P2.r0.cell (i := 2) (by omega)
      have k3 : v2.cell? ⟨w.heap.size, 3, none⟩ = some (.int .i32 b1) := P2.r0.cell (i := 3) (by omega)
      have k4 : v2.cell? ⟨w.heap.size, 4, none⟩ = some (.int .i32 c0) := P2.r0.cell (i := 4) (by omega)
      have k5 : v2.cell? ⟨w.heap.size, 5, none⟩ = some (.int .i32 c1) := P2.r0.cell (i := 5) (by omega)
      have k6 : v2.cell? ⟨w.heap.size, 6, none⟩ = some (.slice fo n fc) := P2.r0.cell (i := 6) (by omega)
      have l0 : v2.cell? ⟨w.heap.size + 1, 0, none⟩ = some (.int .i32 x0) := P2.r1.cell (i := 0) (by omega)
      have l1 : v2.cell? ⟨w.heap.size + 1, 1, none⟩ = some (.int .i32 x1) := P2.r1.cell (i := 1) (by omega)
      have l2 : v2.cell? ⟨w.heap.size + 1, 2, none⟩ = some (.int .i32 y0) := P2.r1.cell (i := 2) (by omega)
      have l3 : v2.cell? ⟨w.heap.size + 1, 3, none⟩ = some (.int .i32 y1) := P2.r1.cell (i := 3) (by omega)
      have l4 : v2.cell? ⟨w.heap.size + 1, 4, none⟩ = some (.int .i32 z0) := P2.r1.cell (i := 4) (by omega)
      have l5 : v2.cell? ⟨w.heap.size + 1, 5, none⟩ = some (.int .i32 z1) := P2.r1.cell (i := 5) (by omega)
      have l6 : v2.cell? ⟨w.heap.size + 1, 6, none⟩ = some (.slice to m tc) := P2.r1.cell (i := 6) (by omega)
      have hl0 : w.heap.size < v2.heap.size := by have := P2.size; omega
      have hl1 : w.heap.size + 1 < v2.heap.size := by have := P2.size; omega
      go_wp2_with fail
      clear k0 l0 k1 l1 k2 l2 k3 l3 k4 l4 k5 l5 k6 l6
      clear hl0 hl1
      have F3 : (v2.alloc (.cells #[.int .i32 a0, .int .i32 a1, .int .i32 b0, .int .i32 b1, .int .i32 c0, .int .i32 c1, .slice of n n] 42)).rowIs v2.heap.size 42 7 (seven a0 a1 b0 b1 c0 c1 (.slice of n n)) := seven_row (at_alloc rfl)
      have bz : Below v2.heap.size v2 (v2.alloc (.cells #[.int .i32 a0, .int .i32 a1, .int .i32 b0, .int .i32 b1, .int .i32 c0, .int .i32 c1, .slice of n n] 42)) := (Below.refl _ _).alloc (Nat.le_refl _) _
      have P3 := P2.next bz
      replace R1 := R1.keep bz
      clear P2 bz B1
      generalize (v2.alloc (.cells #[.int .i32 a0, .int .i32 a1, .int .i32 b0, .int .i32 b1, .int .i32 c0, .int .i32 c1, .slice of n n] 42)) = v3 at F3 P3 R1 ⊢
      generalize v2.heap.size = fb at F3 ⊢
      go_at_call 14
      refine (copyA x0 x1 y0 y1 z0 z1 to m tc tS tL v3 (by omega) (ht.below P3.below) zt.out).mono ?_
      rintro e v4 ⟨ot, rfl, R2, B4⟩
      have P4 := P3.next B4
      have F4 := F3.of_block (B4.block _ F3.lt)
      replace R1 := R1.keep B4
      clear P3 F3 B4
      have hfl := F4.lt
      have f0 : v4.cell? ⟨fb, 0, none⟩ = some (.int .i32 a0) := F4.cell (i := 0) (by omega)
      have f1 : v4.cell? ⟨fb, 1, none⟩ = some (.int .i32 a1) := F4.cell (i := 1) (by omega)
      have f2 : v4.cell? ⟨fb, 2, none⟩ = some (.int .i32 b0) := F4.cell (i := 2) (by omega)
      have f3 : v4.cell? ⟨fb, 3, none⟩ = some (.int .i32 b1) := F4.cell (i := 3) (by omega)
      have f4 : v4.cell? ⟨fb, 4, none⟩ = some (.int .i32 c0) := F4.cell (i := 4) (by omega)
      have f5 : v4.cell? ⟨fb, 5, none⟩ = some (.int .i32 c1) := F4.cell (i := 5) (by omega)
      have f6 : v4.cell? ⟨fb, 6, none⟩ = some (.slice of n n) := F4.cell (i := 6) (by omega)
      go_wp2_with fail
      clear f0 f1 f2 f3 f4 f5 f6 hfl
      have T5 : (v4.alloc (.cells #[.int .i32 x0, .int .i32 x1, .int .i32 y0, .int .i32 y1, .int .i32 z0, .int .i32 z1, .slice ot m m] 42)).rowIs v4.heap.size 42 7 (seven x0 x1 y0 y1 z0 z1 (.slice ot m m)) := seven_row (at_alloc rfl)
      have bz : Below v4.heap.size v4 (v4.alloc (.cells #[.int .i32 x0, .int .i32 x1, .int .i32 y0, .int .i32 y1, .int .i32 z0, .int .i32 z1, .slice ot m m] 42)) := (Below.refl _ _).alloc (Nat.le_refl _) _
      have P5 := P4.next bz
      replace R1 := R1.keep bz
      replace R2 := R2.keep bz
      clear P4 F4 bz
      generalize (v4.alloc (.cells #[.int .i32 x0, .int .i32 x1, .int .i32 y0, .int .i32 y1, .int .i32 z0, .int .i32 z1, .slice ot m m] 42)) = v5 at P5 R1 R2 ⊢
      go_at_call 15
      refine (zzMerge a0 a1 b0 b1 c0 c1 x0 x1 y0 y1 z0 z1 of ot m n n m fS fL tS tL v5 g1 g2 R1.pairs R2.pairs R1.nil.2 R2.nil.2).mono ?_
      rintro e v6 ⟨of2, ot2, rfl, hp1, hp2, hni, B6⟩
      have P6 := P5.next B6
      replace hni := hni.trans R1.nil.1
      clear P5 B6 R1 R2 T5
      go_wp2_with fail
      have bz : Below v6.heap.size v6 ((v6.alloc (.cells #[.int .i32 a0, .int .i32 a1, .int .i32 b0, .int .i32 b1, .int .i32 c0, .int .i32 c1, .slice of2 n n] 42)).alloc (.cells #[.int .i32 (pk a1 a0 x0), .int .i32 (pk a1 a1 x1), .int .i32 (pk b1 b0 y0), .int .i32 (pk b1 b1 y1), .int .i32 (pk c1 c0 z0), .int .i32 (pk c1 c1 z1), .slice ot2 (m + n) (m + n)] 42)) := ((Below.refl _ _).alloc (Nat.le_refl _) _).alloc (by simp) _
      have P7 := P6.next bz
      have hA : ((v6.alloc (.cells #[.int .i32 a0, .int .i32 a1, .int .i32 b0, .int .i32 b1, .int .i32 c0, .int .i32 c1, .slice of2 n n] 42)).alloc (.cells #[.int .i32 (pk a1 a0 x0), .int .i32 (pk a1 a1 x1), .int .i32 (pk b1 b0 y0), .int .i32 (pk b1 b1 y1), .int .i32 (pk c1 c0 z0), .int .i32 (pk c1 c1 z1), .slice ot2 (m + n) (m + n)] 42)).rowIs v6.heap.size 42 7 (seven a0 a1 b0 b1 c0 c1 (.slice of2 n n)) := seven_row (by rw [at_below (by simp)]; exact at_alloc rfl)
      have hB : ((v6.alloc (.cells #[.int .i32 a0, .int .i32 a1, .int .i32 b0, .int .i32 b1, .int .i32 c0, .int .i32 c1, .slice of2 n n] 42)).alloc (.cells #[.int .i32 (pk a1 a0 x0), .int .i32 (pk a1 a1 x1), .int .i32 (pk b1 b0 y0), .int .i32 (pk b1 b1 y1), .int .i32 (pk c1 c0 z0), .int .i32 (pk c1 c1 z1), .slice ot2 (m + n) (m + n)] 42)).rowIs (v6.heap.size + 1) 42 7 (seven (pk a1 a0 x0) (pk a1 a1 x1) (pk b1 b0 y0) (pk b1 b1 y1) (pk c1 c0 z0) (pk c1 c1 z1) (.slice ot2 (m + n) (m + n))) := seven_row (at_alloc (by simp))
      have Q : Aft w _ v6.heap.size m n fc tc a0 a1 b0 b1 c0 c1 x0 x1 y0 y1 z0 z1 (pk a1 a0 x0) (pk a1 a1 x1) (pk b1 b0 y0) (pk b1 b1 y1) (pk c1 c0 z0) (pk c1 c1 z1) fo to of2 ot2 fS fL tS tL (cat tS m fS) (cat tL m fL) := ⟨P7, hA, hB, hp1.below bz, hp2.below bz, hf.below P7.below, ht.below P7.below⟩
      clear P6 P7 hA hB hp1 hp2 bz
      generalize ((v6.alloc (.cells #[.int .i32 a0, .int .i32 a1, .int .i32 b0, .int .i32 b1, .int .i32 c0, .int .i32 c1, .slice of2 n n] 42)).alloc (.cells #[.int .i32 (pk a1 a0 x0), .int .i32 (pk a1 a1 x1), .int .i32 (pk b1 b0 y0), .int .i32 (pk b1 b1 y1), .int .i32 (pk c1 c0 z0), .int .i32 (pk c1 c1 z1), .slice ot2 (m + n) (m + n)] 42)) = u0 at Q ⊢
      generalize v6.heap.size = fa at Q ⊢
      replace hf := Lib.hid hf
      replace ht := Lib.hid ht
      replace hni := Lib.hid hni
      have hS := cj0 (Q.next (Below.refl _ _).drew)
      go_region_held3 (fun w' => w'.cell? ⟨fa + 1, 0, none⟩ = some (.int .i32 (pk a1 a0 x0)) ∧ w'.cell? ⟨fa + 1, 1, none⟩ = some (.int .i32 (pk a1 a1 x1)) ∧ w'.cell? ⟨w.heap.size, 0, none⟩ = some (.int .i32 a0) ∧ w'.cell? ⟨w.heap.size, 1, none⟩ = some (.int .i32 a1) ∧ w'.cell? ⟨w.heap.size + 1, 0, none⟩ = some (.int .i32 x0) ∧ w'.cell? ⟨w.heap.size + 1, 1, none⟩ = some (.int .i32 x1) ∧ Aft w w' fa m n fc tc a0 a1 b0 b1 c0 c1 x0 x1 y0 y1 z0 z1 (pk a1 a0 x0) (pk a1 a1 x1) (pk b1 b0 y0) (pk b1 b1 y1) (pk c1 c0 z0) (pk c1 c1 z1) fo to of2 ot2 fS fL tS tL (cat tS m fS) (cat tL m fL)) (first | with_reducible exact hS | with_reducible exact kj0 (by assumption) (by assumption))
        (first | (go_at_call 17; refine (pick _ _ _ _ _).mono ?_; rintro e wp ⟨rfl, hbp⟩) | (go_at_call 16; refine (same _ _ _).mono ?_; rintro e wp ⟨rfl, hbp⟩))
      rename_i hH
      clear Q
      have Q := hH.2.2.2.2.2.2
      clear hH hS
      have k6 : wp.cell? ⟨w.heap.size, 6, none⟩ = some (.slice fo n fc) := Q.p.r0.cell (i := 6) (by omega)
      have l6 : wp.cell? ⟨w.heap.size + 1, 6, none⟩ = some (.slice to m tc) := Q.p.r1.cell (i := 6) (by omega)
      have t6 : wp.cell? ⟨fa + 1, 6, none⟩ = some (.slice ot2 (m + n) (m + n)) := Q.t.cell (i := 6) (by omega)
      go_wp2_with fail
      clear k6 l6 t6
      have hS := cj1 (Q.next (Below.refl _ _).drew)
      go_region_held3 (fun w' => w'.cell? ⟨fa + 1, 2, none⟩ = some (.int .i32 (pk b1 b0 y0)) ∧ w'.cell? ⟨fa + 1, 3, none⟩ = some (.int .i32 (pk b1 b1 y1)) ∧ w'.cell? ⟨w.heap.size, 2, none⟩ = some (.int .i32 b0) ∧ w'.cell? ⟨w.heap.size, 3, none⟩ = some (.int .i32 b1) ∧ w'.cell? ⟨w.heap.size + 1, 2, none⟩ = some (.int .i32 y0) ∧ w'.cell? ⟨w.heap.size + 1, 3, none⟩ = some (.int .i32 y1) ∧ Aft w w' fa m n fc tc a0 a1 b0 b1 c0 c1 x0 x1 y0 y1 z0 z1 (pk a1 a0 x0) (pk a1 a1 x1) (pk b1 b0 y0) (pk b1 b1 y1) (pk c1 c0 z0) (pk c1 c1 z1) fo to of2 ot2 fS fL tS tL (cat tS m fS) (cat tL m fL)) (first | with_reducible exact hS | with_reducible exact kj1 (by assumption) (by assumption))
        (first | (go_at_call 17; refine (pick _ _ _ _ _).mono ?_; rintro e wp ⟨rfl, hbp⟩) | (go_at_call 16; refine (same _ _ _).mono ?_; rintro e wp ⟨rfl, hbp⟩))
      rename_i hH
      clear Q
      have Q := hH.2.2.2.2.2.2
      clear hH hS
      have k6 : wp.cell? ⟨w.heap.size, 6, none⟩ = some (.slice fo n fc) := Q.p.r0.cell (i := 6) (by omega)
      have l6 : wp.cell? ⟨w.heap.size + 1, 6, none⟩ = some (.slice to m tc) := Q.p.r1.cell (i := 6) (by omega)
      have t6 : wp.cell? ⟨fa + 1, 6, none⟩ = some (.slice ot2 (m + n) (m + n)) := Q.t.cell (i := 6) (by omega)
      go_wp2_with fail
      clear k6 l6 t6
      have hS := cj2 (Q.next (Below.refl _ _).drew)
      go_region_held3 (fun w' => w'.cell? ⟨fa + 1, 4, none⟩ = some (.int .i32 (pk c1 c0 z0)) ∧ w'.cell? ⟨fa + 1, 5, none⟩ = some (.int .i32 (pk c1 c1 z1)) ∧ w'.cell? ⟨w.heap.size, 4, none⟩ = some (.int .i32 c0) ∧ w'.cell? ⟨w.heap.size, 5, none⟩ = some (.int .i32 c1) ∧ w'.cell? ⟨w.heap.size + 1, 4, none⟩ = some (.int .i32 z0) ∧ w'.cell? ⟨w.heap.size + 1, 5, none⟩ = some (.int .i32 z1) ∧ Aft w w' fa m n fc tc a0 a1 b0 b1 c0 c1 x0 x1 y0 y1 z0 z1 (pk a1 a0 x0) (pk a1 a1 x1) (pk b1 b0 y0) (pk b1 b1 y1) (pk c1 c0 z0) (pk c1 c1 z1) fo to of2 ot2 fS fL tS tL (cat tS m fS) (cat tL m fL)) (first | with_reducible exact hS | with_reducible exact kj2 (by assumption) (by assumption))
        (first | (go_at_call 17; refine (pick _ _ _ _ _).mono ?_; rintro e wp ⟨rfl, hbp⟩) | (go_at_call 16; refine (same _ _ _).mono ?_; rintro e wp ⟨rfl, hbp⟩))
      rename_i hH
      clear Q
      have Q := hH.2.2.2.2.2.2
      clear hH hS
      have k6 : wp.cell? ⟨w.heap.size, 6, none⟩ = some (.slice fo n fc) := Q.p.r0.cell (i := 6) (by omega)
      have l6 : wp.cell? ⟨w.heap.size + 1, 6, none⟩ = some (.slice to m tc) := Q.p.r1.cell (i := 6) (by omega)
      have t6 : wp.cell? ⟨fa + 1, 6, none⟩ = some (.slice ot2 (m + n) (m + n)) := Q.t.cell (i := 6) (by omega)
      go_wp2_with fail
      clear k6 l6 t6
      generalize wp = u1 at Q ⊢
      go_loopg [11] m (fun gk i wr => ∃ r : Nat, r ≤ m ∧ gk = m - r ∧ i = .int .i64 r ∧ Aft w wr fa m n fc tc a0 a1 b0 b1 c0 c1 x0 x1 y0 y1 z0 z1 (pk a1 a0 x0) (pk a1 a1 x1) (pk b1 b0 y0) (pk b1 b1 y1) (pk c1 c0 z0) (pk c1 c1 z1) fo to of2 ot2 fS fL tS tL (cat tS m fS) (cat tL m fL))
      case atStart => exact ⟨0, Nat.zero_le _, rfl, rfl, Q⟩
      case round =>
        clear Q
        obtain ⟨r, hr, rfl, rfl, Q⟩ := hrel
        have k6 : wr.cell? ⟨w.heap.size, 6, none⟩ = some (.slice fo n fc) := Q.p.r0.cell (i := 6) (by omega)
        have l6 : wr.cell? ⟨w.heap.size + 1, 6, none⟩ = some (.slice to m tc) := Q.p.r1.cell (i := 6) (by omega)
        have t6 : wr.cell? ⟨fa + 1, 6, none⟩ = some (.slice ot2 (m + n) (m + n)) := Q.t.cell (i := 6) (by omega)
        rcases Nat.lt_or_ge r m with hlt | hge
        · have hp := Q.l2
          have hq := Q.l4
          rcases hp with h0 | ⟨bq, off, e1, l1, q1⟩
          · omega
          rcases hq with h0 | ⟨bp, off2, e2, l2, q2⟩
          · omega
          subst e1
          subst e2
          obtain ⟨s1, s2⟩ := q1 r (by omega)
          obtain ⟨s3, s4⟩ := q2 r hlt
          rw [cat_lt hlt] at s1 s2
          have hlt2 : r < m + n := by omega
          have hlt3 : (r : Int) < (m : Int) + n := by omega
          clear q1 q2
          go_wp2_with fail
          go_still_tail 10, (by kernel_rfl)
          change wpList _ _ _ _ _ wr.drew
          replace Q := Q.next (Below.refl _ _).drew
          clear s1 s2 s3 s4 k6 l6 t6
          generalize wr.drew = wy at Q ⊢
          go_wp2_with fail
          go_at_call 16
          refine (same _ _ _).mono ?_
          rintro e wn ⟨rfl, b⟩
          replace Q := Q.next b
          clear b
          go_wp2_with fail
          go_roundg (m - (r + 1))
          case measure => omega
          case rel => exact ⟨r + 1, by omega, rfl, rfl, Q⟩
        · have hrn : m = r := by omega
          subst hrn
          go_wp2_with fail
          clear k6 l6 t6
          go_loopg [12] n (fun gk i wr => ∃ r : Nat, r ≤ n ∧ gk = n - r ∧ i = .int .i64 r ∧ Aft w wr fa m n fc tc a0 a1 b0 b1 c0 c1 x0 x1 y0 y1 z0 z1 (pk a1 a0 x0) (pk a1 a1 x1) (pk b1 b0 y0) (pk b1 b1 y1) (pk c1 c0 z0) (pk c1 c1 z1) fo to of2 ot2 fS fL tS tL (cat tS m fS) (cat tL m fL))
          case atStart => exact ⟨0, Nat.zero_le _, rfl, rfl, Q⟩
          case round =>
            clear Q
            obtain ⟨r, hr, rfl, rfl, Q⟩ := hrel
            have k6 : wr.cell? ⟨w.heap.size, 6, none⟩ = some (.slice fo n fc) := Q.p.r0.cell (i := 6) (by omega)
            have l6 : wr.cell? ⟨w.heap.size + 1, 6, none⟩ = some (.slice to m tc) := Q.p.r1.cell (i := 6) (by omega)
            have t6 : wr.cell? ⟨fa + 1, 6, none⟩ = some (.slice ot2 (m + n) (m + n)) := Q.t.cell (i := 6) (by omega)
            rcases Nat.lt_or_ge r n with hlt | hge
            · have hp := Q.l2
              have hq := Q.l3
              rcases hp with h0 | ⟨bq, off, e1, l1, q1⟩
              · omega
              rcases hq with h0 | ⟨bp, off2, e2, l2, q2⟩
              · omega
              subst e1
              subst e2
              obtain ⟨s1, s2⟩ := q1 (m + r) (by omega)
              obtain ⟨s3, s4⟩ := q2 r hlt
              rw [cat_ge] at s1 s2
              clear q1 q2
              have j1 : IntKind.i64.wrap ((m : Int) + r) = (m : Int) + r := IntWalk.i64_in _ (by omega)
              have j2 : (0 : Int) ≤ (m : Int) + r := by omega
              have j4 : (m : Int) + r < (m : Int) + n := by omega
              have j5 : m + r < m + n := by omega
              have j3 : ((m : Int) + r).toNat = m + r := by omega
              go_wp2_with fail
              go_still_tail 12, (by kernel_rfl)
              change wpList _ _ _ _ _ wr.drew
              replace Q := Q.next (Below.refl _ _).drew
              clear s1 s2 s3 s4 k6 l6 t6 j1 j2 j3 j4 j5
              generalize wr.drew = wy at Q ⊢
              go_wp2_with fail
              go_at_call 16
              refine (same _ _ _).mono ?_
              rintro e wn ⟨rfl, b⟩
              replace Q := Q.next b
              clear b
              go_wp2_with fail
              go_roundg (n - (r + 1))
              case measure => omega
              case rel => exact ⟨r + 1, by omega, rfl, rfl, Q⟩
            · have hrn : n = r := by omega
              subst hrn
              clear k6 l6 t6
              have f0 : wr.cell? ⟨fa, 0, none⟩ = some (.int .i32 a0) := Q.f.cell (i := 0) (by omega)
              have f1 : wr.cell? ⟨fa, 1, none⟩ = some (.int .i32 a1) := Q.f.cell (i := 1) (by omega)
              have f2 : wr.cell? ⟨fa, 2, none⟩ = some (.int .i32 b0) := Q.f.cell (i := 2) (by omega)
              have f3 : wr.cell? ⟨fa, 3, none⟩ = some (.int .i32 b1) := Q.f.cell (i := 3) (by omega)
              have f4 : wr.cell? ⟨fa, 4, none⟩ = some (.int .i32 c0) := Q.f.cell (i := 4) (by omega)
              have f5 : wr.cell? ⟨fa, 5, none⟩ = some (.int .i32 c1) := Q.f.cell (i := 5) (by omega)
              have f6 : wr.cell? ⟨fa, 6, none⟩ = some (.slice of2 n n) := Q.f.cell (i := 6) (by omega)
              have k0 : wr.cell? ⟨w.heap.size, 0, none⟩ = some (.int .i32 a0) := Q.p.r0.cell (i := 0) (by omega)
              have k1 : wr.cell? ⟨w.heap.size, 1, none⟩ = some (.int .i32 a1) := Q.p.r0.cell (i := 1) (by omega)
              have k2 : wr.cell? ⟨w.heap.size, 2, none⟩ = some (.int .i32 b0) := Q.p.r0.cell (i := 2) (by omega)
              have k3 : wr.cell? ⟨w.heap.size, 3, none⟩ = some (.int .i32 b1) := Q.p.r0.cell (i := 3) (by omega)
              have k4 : wr.cell? ⟨w.heap.size, 4, none⟩ = some (.int .i32 c0) := Q.p.r0.cell (i := 4) (by omega)
              have k5 : wr.cell? ⟨w.heap.size, 5, none⟩ = some (.int .i32 c1) := Q.p.r0.cell (i := 5) (by omega)
              have k6 : wr.cell? ⟨w.heap.size, 6, none⟩ = some (.slice fo n fc) := Q.p.r0.cell (i := 6) (by omega)
              go_wp2_with fail
              go_at_call 18
              refine (sameD a0 a1 b0 b1 c0 c1 fo of2 n fc n fS fL wr (by omega) Q.l3 Q.l1 hni.out).mono ?_
              rintro e wn ⟨rfl, b⟩
              go_wp2_with fail
              go_ret
              exact ⟨rfl, Q.p.below.trans (b.mono Q.p.below.size)⟩
    · go_wp2
      all_goals first | (exfalso; omega) | (go_ret; exact ⟨rfl, P1.below⟩)
theorem array7 {α : Type} {cs : Array α} (h : cs.size = 7) : ∃ c0 c1 c2 c3 c4 c5 c6, cs = #[c0, c1, c2, c3, c4, c5, c6] := by
  obtain ⟨l⟩ := cs
  match l, h with
  | [c0, c1, c2, c3, c4, c5, c6], _ => exact ⟨c0, c1, c2, c3, c4, c5, c6, rfl⟩
set_option maxRecDepth 100000 in
theorem pairI {H : Type} {enc : TypeId × Value → H} {W : World} {n : Nat} {x y : Value} {z : DataW H × List MemPlace} (h : DataW.trod enc Try.prog W 0 (fun _ => true) true n 34 [x, y] = some z) : ∃ a b : Int, x = .int .i32 a ∧ y = .int .i32 b := by
  obtain ⟨xs, k, _, _, _, hl, hf⟩ := DataW.trod_struct Try.underlying34 h
  match xs, hl with
  | [p, q], _ =>
    have c : Try.prog.cellsOf 21 = 1 := by kernel_rfl
    have h0 : DataW.trod enc Try.prog W 0 (fun _ => true) true k 21 (([x, y].drop 0).take (Try.prog.cellsOf 21)) = some p := hf 0 _ rfl
    have h1 : DataW.trod enc Try.prog W 0 (fun _ => true) true k 21 (([x, y].drop 1).take (Try.prog.cellsOf 21)) = some q := hf 1 _ rfl
    rw [c] at h0 h1
    obtain ⟨a, ha, _, _⟩ := DataW.trod_int Try.underlying21 h0
    obtain ⟨b, hb, _, _⟩ := DataW.trod_int Try.underlying21 h1
    exact ⟨a, b, by simpa using ha, by simpa using hb⟩
set_option maxRecDepth 100000 in
theorem openD {H : Type} {enc : TypeId × Value → H} {W : World} {base : Nat} {v : Value} {d : DataW H} {p : List MemPlace} (k0 : Value.okWide Try.prog W .any base 37 v) (h : DataW.Trod enc Try.prog W 0 (fun _ => true) true 37 v d p) :
    ∃ (a0 a1 b0 b1 c0 c1 : Int) (o : Option Addr) (n cap : Nat) (S L : Nat → Int), v = .agg #[.int .i32 a0, .int .i32 a1, .int .i32 b0, .int .i32 b1, .int .i32 c0, .int .i32 c1, .slice o n cap] ∧ n ≤ cap ∧ cap ≤ maxLen ∧ PairsAt W o n S L ∧ (o = none → n = 0 ∧ cap = 0) := by
  obtain ⟨cs, rfl, hsz⟩ := okWide_struct Try.underlying37 k0
  obtain ⟨c0, c1, c2, c3, c4, c5, c6, rfl⟩ := array7 (hsz.trans (by kernel_rfl))
  obtain ⟨fuel, hf⟩ := h
  obtain ⟨xs, k, _, _, _, hl, hg⟩ := DataW.trod_struct Try.underlying37 hf
  have e2 : Try.prog.cellsOf 34 = 2 := by kernel_rfl
  have e1 : Try.prog.cellsOf 35 = 1 := by kernel_rfl
  match xs, hl with
  | [p, q, r, s], _ =>
    have h0 : DataW.trod enc Try.prog W 0 (fun _ => true) true k 34 (([c0, c1, c2, c3, c4, c5, c6].drop 0).take (Try.prog.cellsOf 34)) = some p := hg 0 _ rfl
    have h1 : DataW.trod enc Try.prog W 0 (fun _ => true) true k 34 (([c0, c1, c2, c3, c4, c5, c6].drop 2).take (Try.prog.cellsOf 34)) = some q := hg 1 _ rfl
    have h2 : DataW.trod enc Try.prog W 0 (fun _ => true) true k 34 (([c0, c1, c2, c3, c4, c5, c6].drop 4).take (Try.prog.cellsOf 34)) = some r := hg 2 _ rfl
    have h3 : DataW.trod enc Try.prog W 0 (fun _ => true) true k 35 (([c0, c1, c2, c3, c4, c5, c6].drop 6).take (Try.prog.cellsOf 35)) = some s := hg 3 _ rfl
    rw [e2] at h0 h1 h2
    rw [e1] at h3
    obtain ⟨a0, a1, rfl, rfl⟩ := pairI h0
    obtain ⟨b0, b1, rfl, rfl⟩ := pairI h1
    obtain ⟨c0, c1, rfl, rfl⟩ := pairI h2
    obtain ⟨o, n, cap, S, L, rfl, hx⟩ := openPairs Try.underlying35 Try.underlying34 (by kernel_rfl) rfl rfl (by kernel_rfl) (by kernel_rfl) Try.underlying21 Try.underlying21 h3
    exact ⟨a0, a1, b0, b1, c0, c1, o, n, cap, S, L, rfl, hx⟩
set_option maxRecDepth 100000 in
theorem walk (W : World) {H : Type} {enc : TypeId × Value → H} {base : Nat} {p0 p1 : List MemPlace} (v0 : Value) (d0 : DataW H) (k0 : Value.okWide Try.prog W .any base 37 v0) (h0 : DataW.Trod enc Try.prog W 0 (fun _ => true) true 37 v0 d0 p0)
    (v1 : Value) (d1 : DataW H) (k1 : Value.okWide Try.prog W .any base 37 v1) (h1 : DataW.Trod enc Try.prog W 0 (fun _ => true) true 37 v1 d1 p1) :
    Calls Try.prog 4 #[v0, v1] W fun e w' => e = .returned (.bool true) ∧ Below W.heap.size W w' := by
  obtain ⟨a0, a1, b0, b1, c0, c1, fo, n, fc, fS, fL, rfl, n1, n2, n3, n4⟩ := openD k0 h0
  obtain ⟨x0, x1, y0, y1, z0, z1, to, m, tc, tS, tL, rfl, m1, m2, m3, m4⟩ := openD k1 h1
  exact main a0 a1 b0 b1 c0 c1 x0 x1 y0 y1 z0 z1 fo to m n fc tc fS fL tS tL W (Nat.le_trans n1 n2) (Nat.le_trans m1 m2) n3 m3 n4 m4
end Go.Proofs.Ythhhmildgnoniaa.fnMergeIntoSpec
