/-
  The statements' own functions that compare two floats by value. No condition.
-/
import Derived.Test.YtgonkjgmelfdaaaF64
namespace Go.Proofs.Ytgonkjgmelfdaaa.Same
open Go.RowKit Fl

def Says (b : Bool) (w : World) (e : Ending) (w' : World) : Prop := e = .returned (.bool b) ∧ ∃ n, w' = w.drewN n

/-- The same, the world told by Below alone. -/
def SaysB (b : Bool) (w : World) (e : Ending) (w' : World) : Prop := e = .returned (.bool b) ∧ Below w.heap.size w w'
theorem Says.toB {b : Bool} {w w' : World} {e : Ending} (h : Says b w e w') : SaysB b w e w' := by
  obtain ⟨rfl, n, rfl⟩ := h
  exact ⟨rfl, below_drewN (Below.refl _ _) _⟩

theorem says_of {a b : Bool} {w : World} (h : a = b) (n : Nat) : Says b w (.returned (.bool a)) (w.drewN n) := ⟨by rw [h], n, rfl⟩
theorem says_of0 {a b : Bool} {w : World} (h : a = b) : Says b w (.returned (.bool a)) w := ⟨by rw [h], 0, rfl⟩

theorem sameFB7 (x y : Nat) (w : World) : Calls Try.prog 16 #[.float .f64 x, .float .f64 y] w (Says (same x y) w) := by
  go_enter Try.func16, Try.ntmps16
  go_wp2
  all_goals go_ret
  · exact says_of0 (same_nan_l (by assumption)).symm
  · exact says_of0 (same_nan_r (by assumption) (by assumption)).symm
  · refine says_of ?_ _
    have hx : nan x = false := by assumption
    have hy : nan y = false := by assumption
    have zx : zero x = true := by assumption
    have zy : zero y = true := by assumption
    rw [inv_gt x _ zx, inv_gt y _ zy, same_zeros hx hy zx zy]
    cases neg x <;> cases neg y <;> rfl
  · exact says_of0 (same_other (by assumption) (by assumption) (.inr (by assumption))).symm
  · rename_i zx
    exact says_of0 (same_other (by assumption) (by assumption) (.inl (by simpa using zx))).symm

theorem zzSame57 (x y : Nat) (w : World) : Calls Try.prog 14 #[.float .f64 x, .float .f64 y] w (Says (same x y) w) := by
  go_enter Try.func14, Try.ntmps14
  go_wp2
  all_goals go_ret
  · exact says_of0 (same_nan_l (by assumption)).symm
  · exact says_of0 (same_nan_r (by assumption) (by assumption)).symm
  · exact says_of0 (same_ne (by assumption) (by assumption)).symm
  · have hx : nan x = false := by assumption
    have zx : zero x = true := by assumption
    have he : (D.order x y != some .eq) = false := by assumption
    refine says_of ?_ _
    rw [inv_lt x _ zx, inv_lt y _ (by rw [eq_zero hx he, zx]), same_eq1 hx he zx]
  · exact says_of0 (same_eq0 (by assumption) (by assumption) (by assumption)).symm

theorem sameB8 (x y : Nat) (w : World) : Calls Try.prog 20 #[.float .f64 x, .float .f64 y] w (Says (same x y) w) := by
  go_enter Try.func20, Try.ntmps20
  go_wp2
  all_goals go_ret
  · exact says_of0 (same_nan_l (by assumption)).symm
  · exact says_of0 (same_ne (by assumption) (by assumption)).symm
  · have hx : nan x = false := by assumption
    have zx : zero x = true := by assumption
    have he : (D.order x y != some .eq) = false := by assumption
    refine says_of ?_ _
    rw [inv_eq x y _ _ zx (by rw [eq_zero hx he, zx]), same_eq1 hx he zx]
  · exact says_of0 (same_eq0 (by assumption) (by assumption) (by assumption)).symm

theorem nanModel51 (x : Nat) (w : World) : Calls Try.prog 27 #[.float .f64 x] w fun e w' => e = .returned (.bool (nan x)) ∧ w = w' := by
  go_enter Try.func27, Try.ntmps27
  go_wp2
  all_goals go_ret
  · refine ⟨congrArg (fun b => Ending.returned (.bool b)) ?_, rfl⟩
    first | exact (nan_model_yes x (by assumption)).1 | exact (nan_model_yes x (by assumption)).2
  · exact ⟨congrArg (fun b => Ending.returned (.bool b)) (nan_model_no x (by assumption)), rfl⟩

theorem sameFloat51 (x y : Nat) (w : World) : Calls Try.prog 23 #[.float .f64 x, .float .f64 y] w (Says (same x y) w) := by
  cases hx : nan x <;> cases hy : nan y
  all_goals
    go_enter Try.func23, Try.ntmps23
    go_wp2_with (go_at_call 27; refine (nanModel51 _ _).mono ?_; rintro e w' ⟨rfl, rfl⟩)
  all_goals go_ret
  · exact says_of0 (same_ne hx (by assumption)).symm
  · have zx : zero x = true := by assumption
    have he : (D.order x y != some .eq) = false := by assumption
    refine says_of ?_ _
    rw [inv_eq x y _ _ zx (by rw [eq_zero hx he, zx]), same_eq1 hx he zx]
  · exact says_of0 (same_eq0 hx (by assumption) (by assumption)).symm
  · exact says_of0 (same_nan_r hx hy).symm
  · exact says_of0 (by rw [same_nan_l hx, hy])
  · exact says_of0 (by rw [same_nan_l hx, hy])

theorem isNaN (x : Nat) (w : World) : Calls Try.prog 28 #[.float .f64 x] w fun e w' => e = .returned (.bool (nan x)) ∧ w = w' := by
  go_enter Try.func28, Try.ntmps28
  go_wp2
  go_ret
  exact ⟨rfl, rfl⟩
theorem fIsNaN (x : Nat) (w : World) : Calls Try.prog 24 #[.agg #[.float .f64 x]] w fun e w' => e = .returned (.bool (nan x)) ∧ w.alloc (.cells #[.float .f64 x] 25) = w' := by
  go_enter Try.func24, Try.ntmps24
  go_wp2_with (go_at_call 28; refine (isNaN _ _).mono ?_; rintro e w' ⟨rfl, rfl⟩)
  go_ret
  exact ⟨rfl, rfl⟩
end Go.Proofs.Ytgonkjgmelfdaaa.Same
