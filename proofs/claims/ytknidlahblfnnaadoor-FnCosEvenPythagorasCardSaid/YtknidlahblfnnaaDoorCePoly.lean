/-
  Polynomials over Rat as lists; the two polynomials of sin and cos on [0, 5/8]: the sum of their squares is 1 within 2^-51. No program in sight.
-/
import Derived.Test.YtknidlahblfnnaaDoorRows
namespace Go.Proofs.YtknidlahblfnnaaDoor.Ce

def ev : List Rat → Rat → Rat
  | [], _ => 0
  | c :: l, t => c + t * ev l t
def padd : List Rat → List Rat → List Rat
  | [], b => b
  | a, [] => a
  | x :: a, y :: b => (x + y) :: padd a b
def pscale (c : Rat) : List Rat → List Rat
  | [] => []
  | x :: a => (c * x) :: pscale c a
def pmul : List Rat → List Rat → List Rat
  | [], _ => []
  | x :: a, b => padd (pscale x b) (0 :: pmul a b)
/-- p at a + h * u. -/
def pcomp (a h : Rat) : List Rat → List Rat
  | [] => []
  | c :: l => padd [c] (pmul [a, h] (pcomp a h l))
theorem ev_add (a b : List Rat) (t : Rat) : ev (padd a b) t = ev a t + ev b t := by
  induction a generalizing b with
  | nil => simp only [padd, ev]; grind
  | cons x a ih =>
    cases b with
    | nil => simp only [padd, ev]; grind
    | cons y b => simp only [padd, ev, ih b]; grind
theorem ev_scale (c : Rat) (a : List Rat) (t : Rat) : ev (pscale c a) t = c * ev a t := by
  induction a with
  | nil => simp only [pscale, ev]; grind
  | cons x a ih => simp only [pscale, ev, ih]; grind
theorem ev_mul (a b : List Rat) (t : Rat) : ev (pmul a b) t = ev a t * ev b t := by
  induction a with
  | nil => simp only [pmul, ev]; grind
  | cons x a ih => simp only [pmul, ev_add, ev_scale, ev, ih]; grind
theorem ev_comp (a h : Rat) (l : List Rat) (u : Rat) : ev (pcomp a h l) u = ev l (a + h * u) := by
  induction l with
  | nil => rfl
  | cons c l ih => simp only [pcomp, ev_add, ev_mul, ev, ih]; grind
def ab (x : Rat) : Rat := if x ≤ 0 then -x else x
def sumAbs : List Rat → Rat
  | [] => 0
  | x :: a => ab x + sumAbs a
theorem ab_nonneg (x : Rat) : 0 ≤ ab x := by unfold ab; split <;> grind
theorem le_ab (x : Rat) : x ≤ ab x ∧ -ab x ≤ x := by unfold ab; split <;> grind
theorem sumAbs_nonneg (l : List Rat) : 0 ≤ sumAbs l := by
  induction l with
  | nil => exact Rat.le_refl
  | cons x a ih => have := ab_nonneg x; simp only [sumAbs]; grind
/-- t * y is between -s and s where 0 ≤ t ≤ 1 and y is. -/
theorem mul_unit {t y s : Rat} (h0 : 0 ≤ t) (h1 : t ≤ 1) (h2 : y ≤ s) (h3 : -s ≤ y) : t * y ≤ s ∧ -s ≤ t * y := by
  have a1 := Rat.mul_le_mul_of_nonneg_left h2 h0
  have a2 := Rat.mul_le_mul_of_nonneg_left h3 h0
  have hs : 0 ≤ s := by grind
  have a3 := Rat.mul_le_mul_of_nonneg_right h1 hs
  grind
theorem ev_abs (l : List Rat) (u : Rat) (h0 : 0 ≤ u) (h1 : u ≤ 1) : ev l u ≤ sumAbs l ∧ -sumAbs l ≤ ev l u := by
  induction l with
  | nil => simp only [ev, sumAbs]; grind
  | cons x a ih =>
    have h := mul_unit h0 h1 ih.1 ih.2
    have := le_ab x
    simp only [ev, sumAbs]
    grind
def sin6 : List Rat := [-6004799503160648 / 2 ^ 55, 4803839602522064 / 2 ^ 59, -7320136532877059 / 2 ^ 65, 6506786710177953 / 2 ^ 71, -7571123942793053 / 2 ^ 78, 6149556183080141 / 2 ^ 85]
def cos6 : List Rat := [6004799503160651 / 2 ^ 57, -6405119470030737 / 2 ^ 62, 7320136533427445 / 2 ^ 68, -5205429473528774 / 2 ^ 74, 5047434750082821 / 2 ^ 81, -7030593573755547 / 2 ^ 89]
def pS : List Rat := 1 :: sin6
def pC : List Rat := 1 :: (-1 / 2) :: cos6
def pQ : List Rat := padd (padd (0 :: pmul pS pS) (pmul pC pC)) [-1]
theorem ev_pQ (t : Rat) : ev pQ t = t * (ev pS t * ev pS t) + ev pC t * ev pC t - 1 := by
  simp only [pQ, ev_add, ev_mul, ev]
  grind
def H : Rat := 5 / 32
theorem q0 : sumAbs (pcomp 0 H pQ) ≤ 1 / 2 ^ 51 := by decide +kernel
theorem q1 : sumAbs (pcomp H H pQ) ≤ 1 / 2 ^ 51 := by decide +kernel
theorem q2 : sumAbs (pcomp (2 * H) H pQ) ≤ 1 / 2 ^ 51 := by decide +kernel
theorem q3 : sumAbs (pcomp (3 * H) H pQ) ≤ 1 / 2 ^ 51 := by decide +kernel
/-- On a subinterval. -/
theorem piece {a t : Rat} {l : List Rat} {E : Rat} (h0 : a ≤ t) (h1 : t ≤ a + H) (hE : sumAbs (pcomp a H l) ≤ E) : ev l t ≤ E ∧ -E ≤ ev l t := by
  have hH : (0 : Rat) < H := by decide +kernel
  have e : a + H * ((t - a) / H) = t := by
    have : H ≠ 0 := by decide +kernel
    grind
  have u0 : 0 ≤ (t - a) / H := by
    have : (0 : Rat) ≤ 32 / 5 := by decide +kernel
    have h2 := Rat.mul_nonneg (a := t - a) (b := 32 / 5) (by grind) this
    have : (t - a) / H = (t - a) * (32 / 5) := by unfold H; grind
    grind
  have u1 : (t - a) / H ≤ 1 := by
    have : (t - a) / H = (t - a) * (32 / 5) := by unfold H; grind
    have h3 : t - a ≤ 5 / 32 := by unfold H at h1; grind
    grind
  have h := ev_abs (pcomp a H l) ((t - a) / H) u0 u1
  rw [ev_comp, e] at h
  grind
theorem sumsq {t : Rat} (h0 : 0 ≤ t) (h1 : t ≤ 5 / 8) : ev pQ t ≤ 1 / 2 ^ 51 ∧ -(1 / 2 ^ 51) ≤ ev pQ t := by
  by_cases a1 : t ≤ H
  · exact piece h0 (by grind) q0
  by_cases a2 : t ≤ 2 * H
  · exact piece (by grind) (by grind) q1
  by_cases a3 : t ≤ 3 * H
  · exact piece (by grind) (by grind) q2
  · exact piece (a := 3 * H) (by grind) (by unfold H; grind) q3
end Go.Proofs.YtknidlahblfnnaaDoor.Ce
