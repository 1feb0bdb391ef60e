/-
  The walk of FnLerpMonotoneInT: it returns true for every four floats. No condition.
-/
import Derived.Test.YtnfmpgmkmlmnjaaMono
import Derived.Test.YtnfmpgmkmlmnjaaHeld4
namespace Go.Proofs.Ytnfmpgmkmlmnjaa.fnLerpMonotoneInT
open Go.RowKit Fl Small2 Mono Held4 FloorMath

theorem fin_sub (x : Nat) (w : World) : zero (fval .sub x x w) = fin x := by
  have h := sub_self (fval_FR .sub x x w)
  cases hf : fin x
  · rw [hf] at h
    have h : nan (fval .sub x x w) = true := by simpa using h
    exact Same.nan_not_zero h
  · rw [hf] at h
    have h : fval .sub x x w = 0 := by simpa using h
    rw [h]; decide
theorem lerpFinite (x : Nat) (w : World) : Calls Try.prog 36 #[.float .f64 x] w (Same.Says (fin x) w) := by
  have hs := fin_sub x
  go_enter Try.func36, Try.ntmps36
  go_wp2
  go_ret
  exact Same.says_of rfl _

/-- What Lerp may give. -/
def FL (a b t r : Nat) : Prop := ∃ d m, FR .sub b a d ∧ FR .mul d t m ∧ FR .add m a r

set_option maxHeartbeats 1000000 in
theorem lerp (a b t : Nat) (w : World) : Calls Try.prog 37 #[.agg #[.float .f64 a], .agg #[.float .f64 b], .agg #[.float .f64 t]] w (F64.GivesF (FL a b t) w) := by
  go_enter Try.func37, Try.ntmps37
  go_wp2
  have hS : ∃ W, W = (((w.alloc (Obj.cells #[Value.float FloatKind.f64 a] 27)).alloc (Obj.cells #[Value.float FloatKind.f64 b] 27)).alloc (Obj.cells #[Value.float FloatKind.f64 t] 27)).alloc (Obj.cells #[Value.float FloatKind.f64 0] 27) ∧
      (W.cell? ⟨w.heap.size, 0, none⟩ = some (.float .f64 a) ∧ W.cell? ⟨w.heap.size + 1, 0, none⟩ = some (.float .f64 b) ∧ W.cell? ⟨w.heap.size + 1 + 1, 0, none⟩ = some (.float .f64 t) ∧ W.cell? ⟨w.heap.size + 1 + 1 + 1, 0, none⟩ = some (.float .f64 (cv W ⟨w.heap.size + 1 + 1 + 1, 0, none⟩)) ∧ W.frozen? ⟨w.heap.size + 1 + 1 + 1, 0, none⟩ = false ∧ Below w.heap.size w W ∧ w.heap.size + 1 + 1 + 1 < W.heap.size) := by
    refine ⟨_, rfl, ?_, ?_, ?_, ?_, ?_, ?_, ?_⟩
    · go_simp
    · go_simp
    · go_simp
    · refine cv_of (r := 0) ?_
      go_simp
    · go_simp
    · repeat (first | exact Below.refl _ _ | refine bla ?_ _)
    · simp
  obtain ⟨W, hW, hS⟩ := hS
  rw [← hW]
  clear hW
  go_region_held3 (fun w' => w'.cell? ⟨w.heap.size, 0, none⟩ = some (.float .f64 a) ∧ w'.cell? ⟨w.heap.size + 1, 0, none⟩ = some (.float .f64 b) ∧ w'.cell? ⟨w.heap.size + 1 + 1, 0, none⟩ = some (.float .f64 t) ∧ w'.cell? ⟨w.heap.size + 1 + 1 + 1, 0, none⟩ = some (.float .f64 (cv w' ⟨w.heap.size + 1 + 1 + 1, 0, none⟩)) ∧ w'.frozen? ⟨w.heap.size + 1 + 1 + 1, 0, none⟩ = false ∧ Below w.heap.size w w' ∧ w.heap.size + 1 + 1 + 1 < w'.heap.size)
    (first | exact hS | exact keep4s rfl (by assumption) | exact keep4 (by assumption) (by first | assumption | exact (Below.refl _ _).drew | exact (Below.refl _ _).alloc (Nat.le_refl _) _ | exact below_drewN (Below.refl _ _) _))
    (first | (go_at_call 19; refine (F64.sub _ _ _).mono ?_; rintro e w1 ⟨d, hd, rfl, hb1⟩) | (go_at_call 46; refine (F64.mul _ _ _).mono ?_; rintro e w2 ⟨m, hm, rfl, hb2⟩) | (go_at_call 51; refine (F64.add _ _ _).mono ?_; rintro e w3 ⟨r, hr, rfl, hb3⟩))
  have k1 := keep4 (keep4 hS (Below.refl _ _).drew) hb1
  have k2 := keep4 k1 hb2
  have k3 := keep4 k2 hb3
  have hc := World.cell?_setCell_same' w3 ⟨w.heap.size + 1 + 1 + 1, 0, none⟩ (.float .f64 r) (by rw [k3.2.2.2.1]; rfl)
  have hB := (keep4s (r := r) rfl k3).2.2.2.2.2.1
  have HR : FL a b t r := ⟨d, m, hd, hm, hr⟩
  rename_i hH
  clear hH k1 k2 k3 hb1 hb2 hb3 hS hd hm hr
  go_wp2
  exact bodyPost_ret (v := .agg #[.float .f64 r]) (by simp [results, Try.results37, go_sem, hc]) rfl ⟨r, HR, rfl, hB⟩

theorem fin_swap {a b d d' : Nat} (ha : fin a = true) (hb : fin b = true) (h : FR .sub b a d) (h' : FR .sub a b d') (hf : fin d = true) : Ie.key d' < (2047 * 2 ^ 52 : Nat) := by
  obtain ⟨k, n⟩ := sub_key hb ha h
  obtain ⟨k', n'⟩ := sub_key ha hb h'
  have e : V a - V b = -(V b - V a) := by omega
  rw [e, K_neg] at k'
  have hl : Ie.rg d < 2047 * 2 ^ 52 := of_decide_eq_true hf
  have := key_abs d
  split at this <;> omega
theorem fin_same {a b d d' : Nat} (ha : fin a = true) (hb : fin b = true) (h : FR .sub b a d) (h' : FR .sub b a d') (hf : fin d = true) : Ie.key d' < (2047 * 2 ^ 52 : Nat) := by
  obtain ⟨k, n⟩ := sub_key hb ha h
  obtain ⟨k', n'⟩ := sub_key hb ha h'
  have hl : Ie.rg d < 2047 * 2 ^ 52 := of_decide_eq_true hf
  have := key_abs d
  split at this <;> omega

def Ok (lo hi u v : Nat) : Prop := ∀ x y, FL lo hi u x → FL lo hi v y → (D.order x y == some .lt || D.order x y == some .eq) = true
theorem ok_of {lo hi u v : Nat} (hlo : fin lo = true) (hhi : fin hi = true) (hu : fin u = true) (hv : fin v = true) (h1 : Ie.key lo ≤ Ie.key hi) (h2 : Ie.key u ≤ Ie.key v)
    (hd : ∀ d, FR .sub hi lo d → Ie.key d < (2047 * 2 ^ 52 : Nat)) : Ok lo hi u v := by
  rintro x y ⟨d, m, hd1, hm, hx⟩ ⟨d', n, hd2, hn, hy⟩
  obtain ⟨a, b, c⟩ := lerp_mono hlo hhi hu hv h1 h2 hd1 hd2 (hd _ hd1) hm hn hx hy
  rw [le_key b c]
  exact decide_eq_true a

set_option maxHeartbeats 2000000 in
theorem walk (a0 : Nat) (_w0 : (Lit.float .f64 a0).wf = true) (a1 : Nat) (_w1 : (Lit.float .f64 a1).wf = true) (a2 : Nat) (_w2 : (Lit.float .f64 a2).wf = true) (a3 : Nat) (_w3 : (Lit.float .f64 a3).wf = true) (w : World) :
    Calls Try.prog 10 #[.float .f64 a0, .float .f64 a1, .float .f64 a2, .float .f64 a3] w fun e w' => e = .returned (.bool true) ∧ Below w.heap.size w w' := by
  by_cases hf : fin a0 = true ∧ fin a1 = true ∧ fin a2 = true ∧ fin a3 = true
  · obtain ⟨f0, f1, f2, f3⟩ := hf
    have n0 := fin_not_nan f0
    have n1 := fin_not_nan f1
    have n2 := fin_not_nan f2
    have n3 := fin_not_nan f3
    by_cases hd : ∃ d, FR .sub a1 a0 d ∧ fin d = true
    · obtain ⟨d, hd1, hd2⟩ := hd
      have hall : ∀ w, fin (fval .sub a1 a0 w) = true := by
        intro w
        have := fin_same f0 f1 hd1 (fval_FR .sub a1 a0 w) hd2
        obtain ⟨k, n⟩ := sub_key f1 f0 (fval_FR .sub a1 a0 w)
        obtain ⟨k', n'⟩ := sub_key f1 f0 hd1
        have hl : Ie.rg d < 2047 * 2 ^ 52 := of_decide_eq_true hd2
        have e1 := key_abs d
        have e2 := key_abs (fval .sub a1 a0 w)
        unfold fin
        refine decide_eq_true ?_
        have : Ie.key (fval .sub a1 a0 w) = Ie.key d := by rw [k, k']
        rw [this] at e2
        omega
      have l1 := lss_key n1 n0
      have l2 := lss_key n3 n2
      have s1 : ∀ d', FR .sub a1 a0 d' → Ie.key d' < (2047 * 2 ^ 52 : Nat) := fun d' h => fin_same f0 f1 hd1 h hd2
      have s2 : ∀ d', FR .sub a0 a1 d' → Ie.key d' < (2047 * 2 ^ 52 : Nat) := fun d' h => fin_swap f0 f1 hd1 h hd2
      by_cases c1 : Ie.key a1 < Ie.key a0 <;> by_cases c2 : Ie.key a3 < Ie.key a2
      · have A := Lib.hid (ok_of f1 f0 f3 f2 (by omega) (by omega) s2)
        rw [decide_eq_true c1] at l1
        rw [decide_eq_true c2] at l2
        clear s1 s2 c1 c2 hd1 hd2
        go_enter Try.func10, Try.ntmps10
        go_wp2_with (first | (go_at_call 36; refine (lerpFinite _ _).mono ?_; rintro e w' ⟨rfl, n, rfl⟩) | (go_at_call 16; refine (F64.newF64 _ _).mono ?_; rintro e w' ⟨rfl, rfl⟩))
        refine (lerp _ _ _ _).mono ?_
        rintro e w1 ⟨x, hx, rfl, hb1⟩
        replace hx := Lib.hid hx
        go_wp2_with (first | (go_at_call 16; refine (F64.newF64 _ _).mono ?_; rintro e w' ⟨rfl, rfl⟩) | (go_at_call 18; refine (F64.value _ _).mono ?_; rintro e w1 ⟨rfl, rfl⟩))
        refine (lerp _ _ _ _).mono ?_
        rintro e w2 ⟨y, hy, rfl, hb2⟩
        replace hy := Lib.hid hy
        go_wp2_with (go_at_call 18; refine (F64.value _ _).mono ?_; rintro e w1 ⟨rfl, rfl⟩)
        go_ret
        refine ⟨congrArg (fun b => Ending.returned (.bool b)) (A.out x y hx.out hy.out), ?_⟩
        repeat (first | exact Below.refl _ _ | refine below_drewN ?_ _ | refine bla ?_ _ | refine bl ?_ (by assumption))
      · have A := Lib.hid (ok_of f1 f0 f2 f3 (by omega) (by omega) s2)
        rw [decide_eq_true c1] at l1
        rw [decide_eq_false c2] at l2
        clear s1 s2 c1 c2 hd1 hd2
        go_enter Try.func10, Try.ntmps10
        go_wp2_with (first | (go_at_call 36; refine (lerpFinite _ _).mono ?_; rintro e w' ⟨rfl, n, rfl⟩) | (go_at_call 16; refine (F64.newF64 _ _).mono ?_; rintro e w' ⟨rfl, rfl⟩))
        refine (lerp _ _ _ _).mono ?_
        rintro e w1 ⟨x, hx, rfl, hb1⟩
        replace hx := Lib.hid hx
        go_wp2_with (first | (go_at_call 16; refine (F64.newF64 _ _).mono ?_; rintro e w' ⟨rfl, rfl⟩) | (go_at_call 18; refine (F64.value _ _).mono ?_; rintro e w1 ⟨rfl, rfl⟩))
        refine (lerp _ _ _ _).mono ?_
        rintro e w2 ⟨y, hy, rfl, hb2⟩
        replace hy := Lib.hid hy
        go_wp2_with (go_at_call 18; refine (F64.value _ _).mono ?_; rintro e w1 ⟨rfl, rfl⟩)
        go_ret
        refine ⟨congrArg (fun b => Ending.returned (.bool b)) (A.out x y hx.out hy.out), ?_⟩
        repeat (first | exact Below.refl _ _ | refine below_drewN ?_ _ | refine bla ?_ _ | refine bl ?_ (by assumption))
      · have A := Lib.hid (ok_of f0 f1 f3 f2 (by omega) (by omega) s1)
        rw [decide_eq_false c1] at l1
        rw [decide_eq_true c2] at l2
        clear s1 s2 c1 c2 hd1 hd2
        go_enter Try.func10, Try.ntmps10
        go_wp2_with (first | (go_at_call 36; refine (lerpFinite _ _).mono ?_; rintro e w' ⟨rfl, n, rfl⟩) | (go_at_call 16; refine (F64.newF64 _ _).mono ?_; rintro e w' ⟨rfl, rfl⟩))
        refine (lerp _ _ _ _).mono ?_
        rintro e w1 ⟨x, hx, rfl, hb1⟩
        replace hx := Lib.hid hx
        go_wp2_with (first | (go_at_call 16; refine (F64.newF64 _ _).mono ?_; rintro e w' ⟨rfl, rfl⟩) | (go_at_call 18; refine (F64.value _ _).mono ?_; rintro e w1 ⟨rfl, rfl⟩))
        refine (lerp _ _ _ _).mono ?_
        rintro e w2 ⟨y, hy, rfl, hb2⟩
        replace hy := Lib.hid hy
        go_wp2_with (go_at_call 18; refine (F64.value _ _).mono ?_; rintro e w1 ⟨rfl, rfl⟩)
        go_ret
        refine ⟨congrArg (fun b => Ending.returned (.bool b)) (A.out x y hx.out hy.out), ?_⟩
        repeat (first | exact Below.refl _ _ | refine below_drewN ?_ _ | refine bla ?_ _ | refine bl ?_ (by assumption))
      · have A := Lib.hid (ok_of f0 f1 f2 f3 (by omega) (by omega) s1)
        rw [decide_eq_false c1] at l1
        rw [decide_eq_false c2] at l2
        clear s1 s2 c1 c2 hd1 hd2
        go_enter Try.func10, Try.ntmps10
        go_wp2_with (first | (go_at_call 36; refine (lerpFinite _ _).mono ?_; rintro e w' ⟨rfl, n, rfl⟩) | (go_at_call 16; refine (F64.newF64 _ _).mono ?_; rintro e w' ⟨rfl, rfl⟩))
        refine (lerp _ _ _ _).mono ?_
        rintro e w1 ⟨x, hx, rfl, hb1⟩
        replace hx := Lib.hid hx
        go_wp2_with (first | (go_at_call 16; refine (F64.newF64 _ _).mono ?_; rintro e w' ⟨rfl, rfl⟩) | (go_at_call 18; refine (F64.value _ _).mono ?_; rintro e w1 ⟨rfl, rfl⟩))
        refine (lerp _ _ _ _).mono ?_
        rintro e w2 ⟨y, hy, rfl, hb2⟩
        replace hy := Lib.hid hy
        go_wp2_with (go_at_call 18; refine (F64.value _ _).mono ?_; rintro e w1 ⟨rfl, rfl⟩)
        go_ret
        refine ⟨congrArg (fun b => Ending.returned (.bool b)) (A.out x y hx.out hy.out), ?_⟩
        repeat (first | exact Below.refl _ _ | refine below_drewN ?_ _ | refine bla ?_ _ | refine bl ?_ (by assumption))
    · have hall : ∀ w, fin (fval .sub a1 a0 w) = false := by
        intro w
        cases h : fin (fval .sub a1 a0 w)
        · rfl
        · exact absurd ⟨_, fval_FR .sub a1 a0 w, h⟩ hd
      clear hd
      go_enter Try.func10, Try.ntmps10
      go_wp2_with (go_at_call 36; refine (lerpFinite _ _).mono ?_; rintro e w' ⟨rfl, n, rfl⟩)
      go_ret
      refine ⟨rfl, ?_⟩
      repeat (first | exact Below.refl _ _ | refine below_drewN ?_ _ | refine bla ?_ _ | refine bl ?_ (by assumption))
  · have hcase : fin a0 = false ∨ (fin a0 = true ∧ fin a1 = false) ∨ (fin a0 = true ∧ fin a1 = true ∧ fin a2 = false) ∨ (fin a0 = true ∧ fin a1 = true ∧ fin a2 = true ∧ fin a3 = false) := by
      cases f0 : fin a0 <;> cases f1 : fin a1 <;> cases f2 : fin a2 <;> cases f3 : fin a3 <;> simp_all
    clear hf
    rcases hcase with f0 | ⟨f0, f1⟩ | ⟨f0, f1, f2⟩ | ⟨f0, f1, f2, f3⟩
    all_goals
      go_enter Try.func10, Try.ntmps10
      go_wp2_with (go_at_call 36; refine (lerpFinite _ _).mono ?_; rintro e w' ⟨rfl, n, rfl⟩)
      go_ret
      refine ⟨rfl, ?_⟩
      repeat (first | exact Below.refl _ _ | refine below_drewN ?_ _ | refine bla ?_ _ | refine bl ?_ (by assumption))
end Go.Proofs.Ytnfmpgmkmlmnjaa.fnLerpMonotoneInT
