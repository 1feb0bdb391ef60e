/-
  The statements' own functions that compare two floats by value. No condition.
-/
import Derived.Test.YtnfmpgmkmlmnjaaF64
namespace Go.Proofs.Ytnfmpgmkmlmnjaa.Same
open Go.RowKit Fl

def Says (b : Bool) (w : World) (e : Ending) (w' : World) : Prop := e = .returned (.bool b) ∧ ∃ n, w' = w.drewN n

/-- The same, the world told by Below alone. -/
def SaysB (b : Bool) (w : World) (e : Ending) (w' : World) : Prop := e = .returned (.bool b) ∧ Below w.heap.size w w'
theorem Says.toB {b : Bool} {w w' : World} {e : Ending} (h : Says b w e w') : SaysB b w e w' := by
  obtain ⟨rfl, n, rfl⟩ := h
  exact ⟨rfl, below_drewN (Below.refl _ _) _⟩

theorem says_of {a b : Bool} {w : World} (h : a = b) (n : Nat) : Says b w (.returned (.bool a)) (w.drewN n) := ⟨by rw [h], n, rfl⟩
theorem says_of0 {a b : Bool} {w : World} (h : a = b) : Says b w (.returned (.bool a)) w := ⟨by rw [h], 0, rfl⟩

theorem sameFB7 (x y : Nat) (w : World) : Calls Try.prog 21 #[.float .f64 x, .float .f64 y] w (Says (same x y) w) := by
  go_enter Try.func21, Try.ntmps21
  go_wp2
  all_goals go_ret
  · exact says_of0 (same_nan_l (by assumption)).symm
  · exact says_of0 (same_nan_r (by assumption) (by assumption)).symm
  · refine says_of ?_ _
    have hx : nan x = false := by assumption
    have hy : nan y = false := by assumption
    have zx : zero x = true := by assumption
    have zy : zero y = true := by assumption
    rw [inv_gt x _ zx, inv_gt y _ zy, same_zeros hx hy zx zy]
    cases neg x <;> cases neg y <;> rfl
  · exact says_of0 (same_other (by assumption) (by assumption) (.inr (by assumption))).symm
  · rename_i zx
    exact says_of0 (same_other (by assumption) (by assumption) (.inl (by simpa using zx))).symm

theorem zzSame57 (x y : Nat) (w : World) : Calls Try.prog 39 #[.float .f64 x, .float .f64 y] w (Says (same x y) w) := by
  go_enter Try.func39, Try.ntmps39
  go_wp2
  all_goals go_ret
  · exact says_of0 (same_nan_l (by assumption)).symm
  · exact says_of0 (same_nan_r (by assumption) (by assumption)).symm
  · exact says_of0 (same_ne (by assumption) (by assumption)).symm
  · have hx : nan x = false := by assumption
    have zx : zero x = true := by assumption
    have he : (D.order x y != some .eq) = false := by assumption
    refine says_of ?_ _
    rw [inv_lt x _ zx, inv_lt y _ (by rw [eq_zero hx he, zx]), same_eq1 hx he zx]
  · exact says_of0 (same_eq0 (by assumption) (by assumption) (by assumption)).symm




theorem isNaN (x : Nat) (w : World) : Calls Try.prog 67 #[.float .f64 x] w fun e w' => e = .returned (.bool (nan x)) ∧ w = w' := by
  go_enter Try.func67, Try.ntmps67
  go_wp2
  go_ret
  exact ⟨rfl, rfl⟩

/-! ### a NaN test by 'x != x' -/
theorem isNaN195 (x : Nat) (w : World) : Calls Try.prog 12 #[.float .f64 x] w fun e w' => e = .returned (.bool (nan x)) ∧ w = w' := by
  go_enter Try.func12, Try.ntmps12
  go_wp2
  go_ret
  exact ⟨rfl, rfl⟩
theorem isNaN268 (x : Nat) (w : World) : Calls Try.prog 28 #[.float .f64 x] w fun e w' => e = .returned (.bool (nan x)) ∧ w = w' := by
  go_enter Try.func28, Try.ntmps28
  go_wp2
  go_ret
  exact ⟨rfl, rfl⟩
theorem isNaN157 (x : Nat) (w : World) : Calls Try.prog 32 #[.float .f64 x] w fun e w' => e = .returned (.bool (nan x)) ∧ w = w' := by
  go_enter Try.func32, Try.ntmps32
  go_wp2
  go_ret
  exact ⟨rfl, rfl⟩
theorem isNaN21 (x : Nat) (w : World) : Calls Try.prog 47 #[.float .f64 x] w fun e w' => e = .returned (.bool (nan x)) ∧ w = w' := by
  go_enter Try.func47, Try.ntmps47
  go_wp2
  go_ret
  exact ⟨rfl, rfl⟩

theorem negZero195 (x : Nat) (w : World) : Calls Try.prog 42 #[.float .f64 x] w (Says (zero x && neg x) w) := by
  cases hz : zero x
  all_goals
    go_enter Try.func42, Try.ntmps42
    go_wp2
    go_ret
  · exact says_of0 rfl
  · refine says_of ?_ _
    rw [inv_lt x _ hz]; rfl
theorem sameF195 (x y : Nat) (w : World) : Calls Try.prog 14 #[.float .f64 x, .float .f64 y] w (Says (same x y) w) := by
  cases hx : nan x <;> cases hy : nan y
  all_goals
    go_enter Try.func14, Try.ntmps14
    go_wp2_with (first | (go_at_call 12; refine (isNaN195 _ _).mono ?_; rintro e w' ⟨rfl, rfl⟩) | (go_at_call 42; refine (negZero195 _ _).mono ?_; rintro e w' ⟨rfl, n, rfl⟩))
  all_goals go_ret
  · exact says_of0 (same_ne hx (by assumption)).symm
  · have zx : zero x = true := by assumption
    have he : (D.order x y != some .eq) = false := by assumption
    have zy : zero y = true := by rw [eq_zero hx he, zx]
    refine says_of ?_ _
    rw [same_eq1 hx he zx]
    simp [zx, zy]
  · exact says_of0 (same_eq0 hx (by assumption) (by assumption)).symm
  · exact says_of0 (same_nan_r hx hy).symm
  · exact says_of0 (by rw [same_nan_l hx, hy])
  · exact says_of0 (by rw [same_nan_l hx, hy])

/-- The sign of a float that is no NaN. -/
theorem sign_cases {x : Nat} (hx : nan x = false) : (if (D.order x 0 == some .lt) then true else if zero x then neg x else false) = neg x := by
  rw [lss_key hx nan_zero, key_zero, zero_key, neg_eq]
  unfold Ie.key
  have : 0 ≤ (Ie.rg x : Int) := by omega
  cases Ie.sg x
  · simp only [Bool.false_eq_true, if_false]
    by_cases h : (Ie.rg x : Int) = 0 <;> simp [h]
  · simp only [if_true]
    by_cases h : (Ie.rg x : Int) = 0
    · simp [h]
    · have h2 : -(Ie.rg x : Int) < 0 := by omega
      simp only [h2, decide_true, if_true]
theorem sign_lt {x : Nat} (hx : nan x = false) (h : (D.order x 0 == some .lt) = true) : true = neg x := by
  rw [← sign_cases hx, h]; rfl
theorem sign_pos {x : Nat} (hx : nan x = false) (h : (D.order x 0 == some .lt) = false) (hz : zero x = false) : false = neg x := by
  rw [← sign_cases hx, h, hz]; rfl
theorem nan_lt {x : Nat} (hx : nan x = true) : (D.order x 0 == some .lt) = false := by
  rw [nan_none_l x 0 hx]; rfl
theorem nan_not_zero {x : Nat} (hx : nan x = true) : zero x = false := by
  unfold zero; rw [nan_none_l x 0 hx]; rfl

/-- The sign bit, of a NaN false. -/
theorem sign268 (x : Nat) (w : World) : Calls Try.prog 30 #[.float .f64 x] w (Says (!nan x && neg x) w) := by
  cases hx : nan x with
  | true =>
    have h1 := nan_lt hx
    have h2 := nan_not_zero hx
    go_enter Try.func30, Try.ntmps30
    go_wp2
    go_ret
    exact says_of0 rfl
  | false =>
    cases h1 : (D.order x 0 == some .lt) <;> cases h2 : zero x
    all_goals
      go_enter Try.func30, Try.ntmps30
      go_wp2
      go_ret
    · exact says_of0 (by rw [← sign_pos hx h1 h2]; rfl)
    · refine says_of ?_ _
      rw [inv_lt x _ h2]; rfl
    · exact says_of0 (by rw [← sign_lt hx h1]; rfl)
    · exact says_of0 (by rw [← sign_lt hx h1]; rfl)
/-- The sign bit, of a NaN false. -/
theorem sign157 (x : Nat) (w : World) : Calls Try.prog 35 #[.float .f64 x] w (Says (!nan x && neg x) w) := by
  cases hx : nan x with
  | true =>
    have h1 := nan_lt hx
    have h2 := nan_not_zero hx
    go_enter Try.func35, Try.ntmps35
    go_wp2
    go_ret
    exact says_of0 rfl
  | false =>
    cases h1 : (D.order x 0 == some .lt) <;> cases h2 : zero x
    all_goals
      go_enter Try.func35, Try.ntmps35
      go_wp2
      go_ret
    · exact says_of0 (by rw [← sign_pos hx h1 h2]; rfl)
    · refine says_of ?_ _
      rw [inv_lt x _ h2]; rfl
    · exact says_of0 (by rw [← sign_lt hx h1]; rfl)
    · exact says_of0 (by rw [← sign_lt hx h1]; rfl)
/-- The sign bit, of a NaN false. -/
theorem sign21 (x : Nat) (w : World) : Calls Try.prog 48 #[.float .f64 x] w (Says (!nan x && neg x) w) := by
  cases hx : nan x with
  | true =>
    have h1 := nan_lt hx
    have h2 := nan_not_zero hx
    go_enter Try.func48, Try.ntmps48
    go_wp2
    go_ret
    exact says_of0 rfl
  | false =>
    cases h1 : (D.order x 0 == some .lt) <;> cases h2 : zero x
    all_goals
      go_enter Try.func48, Try.ntmps48
      go_wp2
      go_ret
    · exact says_of0 (by rw [← sign_pos hx h1 h2]; rfl)
    · refine says_of ?_ _
      rw [inv_lt x _ h2]; rfl
    · exact says_of0 (by rw [← sign_lt hx h1]; rfl)
    · exact says_of0 (by rw [← sign_lt hx h1]; rfl)
end Go.Proofs.Ytnfmpgmkmlmnjaa.Same
