/-
  The contracts of the wrapper F64: NewF64, Value and the arithmetic methods. No condition.
-/
import Derived.Test.YtgonkjgmelfdaaaRows
import Derived.Test.YtgonkjgmelfdaaaFl
import Derived.BigQuiet
import Derived.Laws.ResultCell
namespace Go.Proofs.Ytgonkjgmelfdaaa.F64
open Go.RowKit Fl

def GivesF (p : Nat → Prop) (w : World) (e : Ending) (w' : World) : Prop := ∃ r, p r ∧ e = .returned (.agg #[.float .f64 r]) ∧ Below w.heap.size w w'

theorem newF64 (x : Nat) (w : World) : Calls Try.prog 11 #[.float .f64 x] w fun e w' => e = .returned (.agg #[.float .f64 x]) ∧ w.alloc (.cells #[.float .f64 x] 25) = w' := by
  go_enter Try.func11, Try.ntmps11
  go_wp2
  exact bodyPost_ret (v := .agg #[.float .f64 x]) (by simp [results, Try.results11, go_sem]) rfl ⟨rfl, rfl⟩

theorem value (x : Nat) (w : World) : Calls Try.prog 13 #[.agg #[.float .f64 x]] w fun e w' => e = .returned (.float .f64 x) ∧ w.alloc (.cells #[.float .f64 x] 25) = w' := by
  go_enter Try.func13, Try.ntmps13
  go_wp2
  go_ret
  exact ⟨rfl, rfl⟩

theorem add (x y : Nat) (w : World) : Calls Try.prog 17 #[.agg #[.float .f64 x], .agg #[.float .f64 y]] w (GivesF (FR .add x y) w) := by
  go_enter Try.func17, Try.ntmps17
  go_wp2_with (go_at_call 11; refine (newF64 _ _).mono ?_; rintro e w' ⟨rfl, rfl⟩)
  refine bodyPost_ret (v := .agg #[.float .f64 _]) (by simp [results, Try.results17, go_sem]; rfl) rfl ⟨_, fval_FR .add x y _, rfl, ?_⟩
  repeat (first | exact Below.refl _ _ | refine Below.alloc ?_ (by simp; try omega) _ | refine Below.setCell ?_ (by simp; try omega) _ | refine below_drewN ?_ _)




theorem mul (x y : Nat) (w : World) : Calls Try.prog 22 #[.agg #[.float .f64 x], .agg #[.float .f64 y]] w (GivesF (FR .mul x y) w) := by
  go_enter Try.func22, Try.ntmps22
  go_wp2_with (go_at_call 11; refine (newF64 _ _).mono ?_; rintro e w' ⟨rfl, rfl⟩)
  refine bodyPost_ret (v := .agg #[.float .f64 _]) (by simp [results, Try.results22, go_sem]; rfl) rfl ⟨_, fval_FR .mul x y _, rfl, ?_⟩
  repeat (first | exact Below.refl _ _ | refine Below.alloc ?_ (by simp; try omega) _ | refine Below.setCell ?_ (by simp; try omega) _ | refine below_drewN ?_ _)

theorem mulConst (x y : Nat) (w : World) : Calls Try.prog 21 #[.agg #[.float .f64 x], .float .f64 y] w (GivesF (FR .mul x y) w) := by
  go_enter Try.func21, Try.ntmps21
  go_wp2_with (go_at_call 11; refine (newF64 _ _).mono ?_; rintro e w' ⟨rfl, rfl⟩)
  refine bodyPost_ret (v := .agg #[.float .f64 _]) (by simp [results, Try.results21, go_sem]; rfl) rfl ⟨_, fval_FR .mul x y _, rfl, ?_⟩
  repeat (first | exact Below.refl _ _ | refine Below.alloc ?_ (by simp; try omega) _ | refine Below.setCell ?_ (by simp; try omega) _ | refine below_drewN ?_ _)

theorem div (x y : Nat) (w : World) : Calls Try.prog 19 #[.agg #[.float .f64 x], .agg #[.float .f64 y]] w (GivesF (FR .quo x y) w) := by
  go_enter Try.func19, Try.ntmps19
  go_wp2_with (go_at_call 11; refine (newF64 _ _).mono ?_; rintro e w' ⟨rfl, rfl⟩)
  refine bodyPost_ret (v := .agg #[.float .f64 _]) (by simp [results, Try.results19, go_sem]; rfl) rfl ⟨_, fval_FR .quo x y _, rfl, ?_⟩
  repeat (first | exact Below.refl _ _ | refine Below.alloc ?_ (by simp; try omega) _ | refine Below.setCell ?_ (by simp; try omega) _ | refine below_drewN ?_ _)

theorem divConst (x y : Nat) (w : World) : Calls Try.prog 18 #[.agg #[.float .f64 x], .float .f64 y] w (GivesF (FR .quo x y) w) := by
  go_enter Try.func18, Try.ntmps18
  go_wp2_with (go_at_call 11; refine (newF64 _ _).mono ?_; rintro e w' ⟨rfl, rfl⟩)
  refine bodyPost_ret (v := .agg #[.float .f64 _]) (by simp [results, Try.results18, go_sem]; rfl) rfl ⟨_, fval_FR .quo x y _, rfl, ?_⟩
  repeat (first | exact Below.refl _ _ | refine Below.alloc ?_ (by simp; try omega) _ | refine Below.setCell ?_ (by simp; try omega) _ | refine below_drewN ?_ _)
end Go.Proofs.Ytgonkjgmelfdaaa.F64
