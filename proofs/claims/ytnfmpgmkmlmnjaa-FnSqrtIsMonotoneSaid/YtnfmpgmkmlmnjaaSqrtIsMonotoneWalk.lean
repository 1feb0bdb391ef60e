/-
  The walk of FnSqrtIsMonotone: it returns true for every pair of floats. No condition.
-/
import Derived.Test.YtnfmpgmkmlmnjaaRoot
namespace Go.Proofs.Ytnfmpgmkmlmnjaa.fnSqrtIsMonotone
open Go.RowKit Fl Small2 Root

def sqv (x : Nat) (w : World) : Nat := match D.sqrt x with | some r => r | none => Question.cut (.nanBits .f64 x x) (w.tape w.drawn (.nanBits .f64 x x))
def sqc (x : Nat) : Nat := match D.sqrt x with | some _ => 0 | none => 1
theorem run_sqrt (x : Nat) (w : World) : (callFunc 56 #[.float .f64 x]).run Try.prog w = .ok (.value (.float .f64 (sqv x w))) (w.drewN (sqc x)) := by
  rw [run_callFunc_extern (fn := Try.f56) Try.func56 (by kernel_rfl) (by kernel_rfl) (by kernel_rfl) (e := Extern.MathSqrt.sqrt) (by kernel_rfl)]
  have e : Extern.MathSqrt.sqrt #[.float .f64 x] = match D.sqrt x with
    | some r => pure (.float .f64 r)
    | none => (choose (.nanBits .f64 x x)) >>= fun n => pure (.float .f64 n) := rfl
  rw [e]
  unfold sqv sqc
  cases D.sqrt x with
  | some r => simp [World.drewN_zero]
  | none => simp [World.drew_is_drewN, Question.forced]
theorem sqv_FS (x : Nat) (w : World) : FS x (sqv x w) := by
  unfold FS sqv
  cases h : D.sqrt x with
  | some r => rfl
  | none => exact nan_of_cut x x _

theorem mathSqrt (x : Nat) (w : World) : Calls Try.prog 44 #[.float .f64 x] w (Itg.GivesN (FS x) w) := by
  have hd := run_sqrt x
  go_enter Try.func44, Try.ntmps44
  go_wp2
  go_ret
  exact ⟨_, _, sqv_FS x w, rfl, rfl⟩
theorem fSqrt (x : Nat) (w : World) : Calls Try.prog 17 #[.agg #[.float .f64 x]] w (F64.GivesF (FS x) w) := by
  go_enter Try.func17, Try.ntmps17
  go_wp2_with (first | (go_at_call 16; refine (F64.newF64 _ _).mono ?_; rintro e w' ⟨rfl, rfl⟩) | (go_at_call 44; refine (mathSqrt _ _).mono ?_; rintro e w' ⟨r, n, hr, rfl, rfl⟩))
  refine bodyPost_ret (v := .agg #[.float .f64 r]) (by simp [results, Try.results17, go_sem]) rfl ⟨_, hr, rfl, ?_⟩
  repeat (first | exact Below.refl _ _ | refine Below.alloc ?_ (by simp; try omega) _ | refine Below.setCell ?_ (by simp; try omega) _ | refine below_drewN ?_ _)

theorem tests {x y : Nat} (h1 : (D.order x 0 == some .gt || zero x) = true) (h2 : (D.order x y == some .lt || D.order x y == some .eq) = true) :
    nan x = false ∧ nan y = false ∧ 0 ≤ Ie.key x ∧ Ie.key x ≤ Ie.key y := by
  have hx : nan x = false := by
    cases hn : nan x
    · rfl
    · unfold zero at h1; rw [nan_none_l x 0 hn] at h1; cases h1
  have hy : nan y = false := by
    cases hn : nan y
    · rfl
    · rw [nan_none_r x y hn] at h2; cases h2
  have g1 : (D.order x 0 == some .gt || D.order x 0 == some .eq) = true := h1
  rw [ge_key hx nan_zero, key_zero] at g1
  rw [le_key hx hy] at h2
  exact ⟨hx, hy, of_decide_eq_true g1, of_decide_eq_true h2⟩

def Fin (x y r s : Nat) : Prop := (D.order r s == some .lt || D.order r s == some .eq) = true
theorem fin_of {x y r s : Nat} (h1 : (D.order x 0 == some .gt || zero x) = true) (h2 : (D.order x y == some .lt || D.order x y == some .eq) = true) (hr : FS x r) (hs : FS y s) : Fin x y r s := by
  obtain ⟨a, b, c, d⟩ := tests h1 h2
  obtain ⟨e, f, g⟩ := sqrt_mono a b c d hr hs
  unfold Fin
  rw [le_key e f]
  exact decide_eq_true g

set_option maxHeartbeats 1000000 in
theorem walk (a0 : Nat) (_w0 : (Lit.float .f64 a0).wf = true) (a1 : Nat) (_w1 : (Lit.float .f64 a1).wf = true) (w : World) :
    Calls Try.prog 4 #[.float .f64 a0, .float .f64 a1] w fun e w' => e = .returned (.bool true) ∧ Below w.heap.size w w' := by
  cases h1 : (D.order a0 0 == some .gt || zero a0) with
  | false =>
    go_enter Try.func4, Try.ntmps4
    go_wp2
    go_ret
    exact ⟨rfl, Below.refl _ _⟩
  | true =>
    cases h2 : (D.order a0 a1 == some .lt || D.order a0 a1 == some .eq) with
    | false =>
      go_enter Try.func4, Try.ntmps4
      go_wp2
      go_ret
      exact ⟨rfl, Below.refl _ _⟩
    | true =>
      have HF := Lib.hid (fun r s (hr : FS a0 r) (hs : FS a1 s) => fin_of h1 h2 hr hs)
      go_enter Try.func4, Try.ntmps4
      go_wp2_with (first | (go_at_call 16; refine (F64.newF64 _ _).mono ?_; rintro e w' ⟨rfl, rfl⟩) | (go_at_call 18; refine (F64.value _ _).mono ?_; rintro e w1 ⟨rfl, rfl⟩))
      refine (fSqrt _ _).mono ?_
      rintro e w1 ⟨r, hr, rfl, hb⟩
      replace hr := Lib.hid hr
      go_wp2_with (first | (go_at_call 16; refine (F64.newF64 _ _).mono ?_; rintro e w' ⟨rfl, rfl⟩) | (go_at_call 18; refine (F64.value _ _).mono ?_; rintro e w1 ⟨rfl, rfl⟩))
      refine (fSqrt _ _).mono ?_
      rintro e w2 ⟨s, hs, rfl, hb2⟩
      replace hs := Lib.hid hs
      go_wp2_with (first | (go_at_call 16; refine (F64.newF64 _ _).mono ?_; rintro e w' ⟨rfl, rfl⟩) | (go_at_call 18; refine (F64.value _ _).mono ?_; rintro e w1 ⟨rfl, rfl⟩))
      go_ret
      refine ⟨congrArg (fun b => Ending.returned (.bool b)) (HF.out r s hr.out hs.out), ?_⟩
      repeat (first | exact Below.refl _ _ | refine below_drewN ?_ _ | refine bla ?_ _ | refine bl ?_ (by assumption))
end Go.Proofs.Ytnfmpgmkmlmnjaa.fnSqrtIsMonotone
