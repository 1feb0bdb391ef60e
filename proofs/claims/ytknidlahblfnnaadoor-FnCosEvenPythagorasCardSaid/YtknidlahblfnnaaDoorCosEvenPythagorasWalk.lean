/-
  The walk of FnCosEvenPythagoras: it returns true for every float. Condition: the three tables of package math hold what their initialisers lay.
-/
import Derived.Test.YtknidlahblfnnaaDoorCeK
namespace Go.Proofs.YtknidlahblfnnaaDoor.fnCosEvenPythagoras
open Go Go.RowKit Fl Small2 Mono Ieee Ce

theorem block_lt {w : World} {a : Addr} {v : Value} (h : w.cell? a = some v) : a.block < w.heap.size := by
  unfold World.cell? at h
  split at h
  · rename_i hb; exact (Array.getElem?_eq_some_iff.1 hb).1
  · cases h
theorem below (w w' : World) (G : Gl w) (hb : Below w.heap.size w w') : Gl w' := by
  have h1 : 1 < w.heap.size := block_lt G.s0
  have h2 : 2 < w.heap.size := block_lt G.c0
  have h3 : 3 < w.heap.size := block_lt (G.t 0 (by omega))
  refine ⟨(hb.cell (p := ⟨_, 0, none⟩) h1).trans G.s0, (hb.cell (p := ⟨_, 1, none⟩) h1).trans G.s1, (hb.cell (p := ⟨_, 2, none⟩) h1).trans G.s2, (hb.cell (p := ⟨_, 3, none⟩) h1).trans G.s3, (hb.cell (p := ⟨_, 4, none⟩) h1).trans G.s4, (hb.cell (p := ⟨_, 5, none⟩) h1).trans G.s5,
    (hb.cell (p := ⟨_, 0, none⟩) h2).trans G.c0, (hb.cell (p := ⟨_, 1, none⟩) h2).trans G.c1, (hb.cell (p := ⟨_, 2, none⟩) h2).trans G.c2, (hb.cell (p := ⟨_, 3, none⟩) h2).trans G.c3, (hb.cell (p := ⟨_, 4, none⟩) h2).trans G.c4, (hb.cell (p := ⟨_, 5, none⟩) h2).trans G.c5, fun i hi => (hb.cell (p := ⟨_, i, none⟩) h3).trans (G.t i hi)⟩
theorem glAlloc {w : World} (G : Gl w) (o : Obj) : Gl (w.alloc o) := below w _ G (Below.alloc (Below.refl _ _) (Nat.le_refl _) o)
theorem glDrew {w : World} (G : Gl w) (n : Nat) : Gl (w.drewN n) := below w _ G (below_drewN (Below.refl _ _) n)
theorem mathCos {x c : Nat} {w : World} (h : Calls Tryd.prog 17 #[.float .f64 x] w fun e w' => e = .returned (.float .f64 c) ∧ ∃ n, w.drewN n = w') :
    Calls Tryd.prog 13 #[.float .f64 x] w fun e w' => e = .returned (.float .f64 c) ∧ ∃ n, w.drewN n = w' := by
  go_enter Tryd.func13, Tryd.ntmps13
  go_wp2_with (go_at_call 17; refine h.mono ?_; rintro e w' ⟨rfl, n, rfl⟩)
  go_ret
  exact ⟨rfl, _, rfl⟩
theorem mathSin {x c : Nat} {w : World} (h : Calls Tryd.prog 19 #[.float .f64 x] w fun e w' => e = .returned (.float .f64 c) ∧ ∃ n, w.drewN n = w') :
    Calls Tryd.prog 15 #[.float .f64 x] w fun e w' => e = .returned (.float .f64 c) ∧ ∃ n, w.drewN n = w' := by
  go_enter Tryd.func15, Tryd.ntmps15
  go_wp2_with (go_at_call 19; refine h.mono ?_; rintro e w' ⟨rfl, n, rfl⟩)
  go_ret
  exact ⟨rfl, _, rfl⟩
/-- w lies above w0: nothing of w0 has changed. -/
structure Th (w0 w : World) : Prop where
  b : Below w0.heap.size w0 w
theorem Th.refl (w : World) : Th w w := ⟨Below.refl _ _⟩
theorem Th.alloc {w0 w : World} (h : Th w0 w) (o : Obj) : Th w0 (w.alloc o) := ⟨Below.alloc h.b h.b.size o⟩
theorem Th.drewN {w0 w : World} (h : Th w0 w) (n : Nat) : Th w0 (w.drewN n) := ⟨below_drewN h.b n⟩
theorem Th.trans {w0 w w' : World} (h : Th w0 w) (k : Th w w') : Th w0 w' := ⟨h.b.trans (k.b.mono h.b.size)⟩
theorem Th.gl {w0 w : World} (G : Gl w0) (h : Th w0 w) : Gl w := below w0 w G h.b
theorem fCos {x c : Nat} {w0 w : World} (h : ∀ w, Gl w → Calls Tryd.prog 17 #[.float .f64 x] w fun e w' => e = .returned (.float .f64 c) ∧ ∃ n, w.drewN n = w') (G : Gl w0) (T : Th w0 w) :
    Calls Tryd.prog 5 #[.agg #[.float .f64 x]] w fun e w' => e = .returned (.agg #[.float .f64 c]) ∧ Th w0 w' := by
  have H := mathCos (h _ (((T.alloc (.cells #[.float .f64 x] 24)).alloc (.cells #[.float .f64 0] 24)).gl G))
  go_enter Tryd.func5, Tryd.ntmps5
  go_wp2_with (first | (go_at_call 4; refine (F64.newF64 _ _).mono ?_; rintro e w' ⟨rfl, rfl⟩) | (go_at_call 13; refine H.mono ?_; rintro e w' ⟨rfl, n, rfl⟩))
  refine bodyPost_ret (v := .agg #[.float .f64 c]) (by simp [results, Tryd.results5, go_sem]) rfl ⟨rfl, T.trans ⟨?_⟩⟩
  repeat (first | exact Below.refl _ _ | refine Below.alloc ?_ (by simp; try omega) _ | refine Below.setCell ?_ (by simp; try omega) _ | refine below_drewN ?_ _)
theorem fSin {x c : Nat} {w0 w : World} (h : ∀ w, Gl w → Calls Tryd.prog 19 #[.float .f64 x] w fun e w' => e = .returned (.float .f64 c) ∧ ∃ n, w.drewN n = w') (G : Gl w0) (T : Th w0 w) :
    Calls Tryd.prog 11 #[.agg #[.float .f64 x]] w fun e w' => e = .returned (.agg #[.float .f64 c]) ∧ Th w0 w' := by
  have H := mathSin (h _ (((T.alloc (.cells #[.float .f64 x] 24)).alloc (.cells #[.float .f64 0] 24)).gl G))
  go_enter Tryd.func11, Tryd.ntmps11
  go_wp2_with (first | (go_at_call 4; refine (F64.newF64 _ _).mono ?_; rintro e w' ⟨rfl, rfl⟩) | (go_at_call 15; refine H.mono ?_; rintro e w' ⟨rfl, n, rfl⟩))
  refine bodyPost_ret (v := .agg #[.float .f64 c]) (by simp [results, Tryd.results11, go_sem]) rfl ⟨rfl, T.trans ⟨?_⟩⟩
  repeat (first | exact Below.refl _ _ | refine Below.alloc ?_ (by simp; try omega) _ | refine Below.setCell ?_ (by simp; try omega) _ | refine below_drewN ?_ _)
/-! ### the law's own small functions -/
theorem isFinite (x : Nat) (hf : Small2.fin x = true) (w : World) : Calls Tryd.prog 8 #[.float .f64 x] w fun e w' => e = .returned (.bool true) ∧ w = w' := by
  have g := fo_sub hf hf
  have r1 := fval_some g
  have r2 := fcnt_some g
  have hz : zero (fo .sub x x) = true := by
    have k := (sub_key hf hf (FR_of g)).1
    rw [Int.sub_self] at k
    have e : K (-1074) 0 = 0 := by
      have := K_neg (-1074) 0
      rw [Int.neg_zero] at this
      omega
    rw [zero_eq]
    exact decide_eq_true ((key_eq_zero _).1 (k.trans e))
  go_enter Tryd.func8, Tryd.ntmps8
  go_wp2
  go_ret
  exact ⟨rfl, rfl⟩
theorem isFiniteNot (x : Nat) (hf : Small2.fin x = false) (w : World) : Calls Tryd.prog 8 #[.float .f64 x] w fun e w' => e = .returned (.bool false) ∧ ∃ n, w.drewN n = w' := by
  have hz : ∀ w, zero (fval .sub x x w) = false := by
    intro w
    have hr := fval_FR .sub x x w
    have hnone : floatBits .sub .f64 x x = none := by
      show ((D.read x).sum (D.read x).opposite).map D.write = none
      cases hn : nan x with
      | true =>
        obtain ⟨s, t, e⟩ := nan_read hn
        rw [e]; rfl
      | false =>
        rw [(inf_read hf hn).1]
        cases Ie.sg x <;> rfl
    unfold FR at hr
    rw [hnone] at hr
    have hr : nan (fval .sub x x w) = true := hr
    rw [zero_eq]
    rw [nan_eq] at hr
    have := of_decide_eq_true hr
    exact decide_eq_false (by omega)
  go_enter Tryd.func8, Tryd.ntmps8
  go_wp2
  go_ret
  exact ⟨rfl, _, rfl⟩
/-- The sign of a value that is no NaN. -/
def sn (x : Nat) : Bool := if (D.order x 0 == some .lt) = true then true else if zero x = true then D.order (fo .quo one x) 0 == some .lt else false
theorem quo_zero (x : Nat) (hx : x < 2 ^ 64) (hz : zero x = true) : floatBits .quo .f64 4607182418800017408 x = some (fo .quo one x) := by
  rw [zero_eq] at hz
  have h0 := of_decide_eq_true hz
  have hw := Ie.word_of x hx
  rw [h0] at hw
  cases h : Ie.sg x <;> rw [h] at hw <;> rw [← hw] <;> decide +kernel
theorem signNeg (x : Nat) (hx : x < 2 ^ 64) (w : World) : Calls Tryd.prog 14 #[.float .f64 x] w fun e w' => e = .returned (.bool (sn x)) ∧ w = w' := by
  unfold sn
  cases h1 : (D.order x 0 == some .lt) with
  | true =>
    go_enter Tryd.func14, Tryd.ntmps14
    go_wp2
    go_ret
    exact ⟨rfl, rfl⟩
  | false =>
    cases h2 : zero x with
    | true =>
      have g := quo_zero x hx h2
      have r1 : ∀ w, fval .quo 4607182418800017408 x w = fo .quo one x := by intro w; unfold fval; rw [g]
      have r2 : fcnt .quo 4607182418800017408 x = 0 := by unfold fcnt; rw [g]
      go_enter Tryd.func14, Tryd.ntmps14
      go_wp2
      go_ret
      exact ⟨rfl, rfl⟩
    | false =>
      go_enter Tryd.func14, Tryd.ntmps14
      go_wp2
      go_ret
      exact ⟨rfl, rfl⟩
theorem sameF (x : Nat) (hx : x < 2 ^ 64) (hn : nan x = false) (w : World) : Calls Tryd.prog 10 #[.float .f64 x, .float .f64 x] w fun e w' => e = .returned (.bool true) ∧ w = w' := by
  go_enter Tryd.func10, Tryd.ntmps10
  go_wp2_with (first | (go_at_call 9; refine (isNaN _ _).mono ?_; rintro e w' ⟨rfl, rfl⟩) | (go_at_call 14; refine (signNeg _ hx _).mono ?_; rintro e w' ⟨rfl, rfl⟩))
  go_ret
  exact ⟨by simp, rfl⟩
theorem within {a : Nat} (ha : Small2.fin a = true) (hd : Ap (fo .sub a one) 0 (20 * E)) (w : World) :
    Calls Tryd.prog 12 #[.float .f64 a, .float .f64 4607182418800017408, .float .f64 4397347889687374747] w fun e w' => e = .returned (.bool true) ∧ w = w' := by
  obtain ⟨k1, k2, k3⟩ := within_tol hd
  have g := fo_sub ha fin_one
  have r1 : ∀ w, fval .sub a 4607182418800017408 w = fo .sub a one := fval_some g
  have r2 : fcnt .sub a 4607182418800017408 = 0 := fcnt_some g
  have g2 := fo_sub fin_zero fin_tol
  have q1 : ∀ w, fval .sub 0 4397347889687374747 w = fo .sub 0 tol := fval_some g2
  have q2 : fcnt .sub 0 4397347889687374747 = 0 := fcnt_some g2
  have t1 : (D.order (fo .sub a one) 4397347889687374747 == some .lt || D.order (fo .sub a one) 4397347889687374747 == some .eq) = true := by
    show (D.order (fo .sub a one) tol == some .lt || D.order (fo .sub a one) tol == some .eq) = true
    rw [le_key (fin_not_nan hd.1) (fin_not_nan fin_tol)]
    exact decide_eq_true k1
  have t2 : (D.order (fo .sub a one) (fo .sub 0 tol) == some .gt || D.order (fo .sub a one) (fo .sub 0 tol) == some .eq) = true := by
    rw [ge_key (fin_not_nan hd.1) (fin_not_nan k3)]
    exact decide_eq_true k2
  generalize fo .sub a one = d at *
  generalize fo .sub 0 tol = e at *
  go_enter Tryd.func12, Tryd.ntmps12
  go_wp2
  go_ret
  exact ⟨rfl, rfl⟩
theorem fneg1 {x : Nat} {w0 w : World} (T : Th w0 w) : Calls Tryd.prog 7 #[.agg #[.float .f64 x]] w fun e w' => e = .returned (.agg #[.float .f64 (fneg x)]) ∧ Th w0 w' :=
  (fNeg x w).mono fun e w' h => by
    obtain ⟨r, rfl, he, hb⟩ := h
    exact ⟨he, T.trans ⟨hb⟩⟩

theorem walkFin (x : Nat) (hx : x < 2 ^ 64) (hf : Small2.fin x = true) (w : World) (G : Gl w) :
    Calls Tryd.prog 3 #[.float .f64 x] w fun e w' => e = .returned (.bool true) ∧ Below w.heap.size w w' := by
  obtain ⟨c, s, hc, hg, hcos, hsin⟩ := both x hx hf
  obtain ⟨S, C, a1, a2, a3, a4, a5⟩ := hg.near
  obtain ⟨d1, d2, d3, d4⟩ := dist_ap a1 a2 a3 a4 a5
  have cn := fin_not_nan hg.fc
  have H : ∀ y, (y = x ∨ y = fneg x) → ∀ w, Gl w → Calls Tryd.prog 17 #[.float .f64 y] w fun e w' => e = .returned (.float .f64 c) ∧ ∃ n, w.drewN n = w' := by
    rintro y (rfl | rfl)
    · exact hcos y hx rfl
    · exact hcos _ (fneg_lt x hx) (rg_fneg x hx)
  have t1 : (D.order c 13830554455654793216 == some .lt) = false := by
    rw [lss_key cn (by decide +kernel)]
    have : Ie.key 13830554455654793216 = -Ie.key one := by decide +kernel
    have h := hg.lo
    exact decide_eq_false (by omega)
  have t2 : (D.order c 4607182418800017408 == some .gt) = false := by
    show (D.order c one == some .gt) = false
    rw [gtr_key cn (fin_not_nan fin_one)]
    have h := hg.hi
    exact decide_eq_false (by omega)
  have g1 := fo_mul a1.1 a1.1
  have g2 := fo_mul a2.1 a2.1
  have g3 := fo_add d1 d2
  have r1 := fval_some g1
  have r2 := fcnt_some g1
  have r3 := fval_some g2
  have r4 := fcnt_some g2
  have r5 := fval_some g3
  have r6 := fcnt_some g3
  have W := within d3 d4
  clear g1 g2 g3 d1 d2 d3 d4 a1 a2 a3 a4 a5 hg hcos
  go_enter Tryd.func3, Tryd.ntmps3
  go_wp2_with (first | (go_at_call 4; refine (F64.newF64 _ _).mono ?_; rintro e w' ⟨rfl, rfl⟩) | (go_at_call 6; refine (F64.value _ _).mono ?_; rintro e w' ⟨rfl, rfl⟩) | (go_at_call 5; refine (fCos (w0 := w) (H _ (by first | exact .inl rfl | exact .inr rfl)) G (by repeat (first | assumption | exact Th.refl _ | refine Th.alloc ?_ _ | refine Th.drewN ?_ _))).mono ?_; rintro e w' ⟨rfl, T'⟩) | (go_at_call 11; refine (fSin (w0 := w) hsin G (by repeat (first | assumption | exact Th.refl _ | refine Th.alloc ?_ _ | refine Th.drewN ?_ _))).mono ?_; rintro e w' ⟨rfl, T'⟩) | (go_at_call 7; refine (fneg1 (w0 := w) (by repeat (first | assumption | exact Th.refl _ | refine Th.alloc ?_ _ | refine Th.drewN ?_ _))).mono ?_; rintro e w' ⟨rfl, T'⟩) | (go_at_call 8; refine (isFinite _ hf _).mono ?_; rintro e w' ⟨rfl, rfl⟩) | (go_at_call 10; refine (sameF _ hc cn _).mono ?_; rintro e w' ⟨rfl, rfl⟩) | (go_at_call 12; refine (W _).mono ?_; rintro e w' ⟨rfl, rfl⟩))
  go_ret
  exact ⟨rfl, Th.b (by repeat (first | assumption | exact Th.refl _ | refine Th.alloc ?_ _ | refine Th.drewN ?_ _))⟩
theorem walkNot (x : Nat) (hx : x < 2 ^ 64) (hf : Small2.fin x = false) (w : World) (G : Gl w) :
    Calls Tryd.prog 3 #[.float .f64 x] w fun e w' => e = .returned (.bool true) ∧ Below w.heap.size w w' := by
  have H : ∀ y, (y = x ∨ y = fneg x) → ∀ w, Gl w → Calls Tryd.prog 17 #[.float .f64 y] w fun e w' => e = .returned (.float .f64 9221120237041090561) ∧ ∃ n, w.drewN n = w' := by
    rintro y (rfl | rfl) w _
    · exact (cosNot y hx hf w).mono fun e w' h => ⟨h.1, 0, by rw [World.drewN_zero]; exact h.2⟩
    · exact (cosNot _ (fneg_lt x hx) (by rw [fin_fneg x hx]; exact hf) w).mono fun e w' h => ⟨h.1, 0, by rw [World.drewN_zero]; exact h.2⟩
  have hnn : nan 9221120237041090561 = true := by decide +kernel
  go_enter Tryd.func3, Tryd.ntmps3
  go_wp2_with (first | (go_at_call 4; refine (F64.newF64 _ _).mono ?_; rintro e w' ⟨rfl, rfl⟩) | (go_at_call 6; refine (F64.value _ _).mono ?_; rintro e w' ⟨rfl, rfl⟩) | (go_at_call 5; refine (fCos (w0 := w) (H _ (by first | exact .inl rfl | exact .inr rfl)) G (by repeat (first | assumption | exact Th.refl _ | refine Th.alloc ?_ _ | refine Th.drewN ?_ _))).mono ?_; rintro e w' ⟨rfl, T'⟩) | (go_at_call 7; refine (fneg1 (w0 := w) (by repeat (first | assumption | exact Th.refl _ | refine Th.alloc ?_ _ | refine Th.drewN ?_ _))).mono ?_; rintro e w' ⟨rfl, T'⟩) | (go_at_call 8; refine (isFiniteNot _ hf _).mono ?_; rintro e w' ⟨rfl, n, rfl⟩) | (go_at_call 9; refine (isNaN _ _).mono ?_; rintro e w' ⟨rfl, rfl⟩))
  go_ret
  exact ⟨rfl, Th.b (by repeat (first | assumption | exact Th.refl _ | refine Th.alloc ?_ _ | refine Th.drewN ?_ _))⟩
theorem walk (w : World) (x : Nat) (w0 : (Lit.float .f64 x).wf = true) (G : Gl w) :
    Calls Tryd.prog 3 #[.float .f64 x] w fun e w' => e = .returned (.bool true) ∧ Below w.heap.size w w' := by
  have hx : x < 2 ^ 64 := by simpa [Lit.wf] using w0
  cases hf : Small2.fin x with
  | true => exact walkFin x hx hf w G
  | false => exact walkNot x hx hf w G
end Go.Proofs.YtknidlahblfnnaaDoor.fnCosEvenPythagoras
