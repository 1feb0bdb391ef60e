/-
  The contracts of the wrapper F64: NewF64, Value and the arithmetic methods. No condition.
-/
import Derived.Test.YtnfmpgmkmlmnjaaRows
import Derived.Test.YtnfmpgmkmlmnjaaFl
import Derived.BigQuiet
import Derived.Laws.ResultCell
namespace Go.Proofs.Ytnfmpgmkmlmnjaa.F64
open Go.RowKit Fl

def GivesF (p : Nat → Prop) (w : World) (e : Ending) (w' : World) : Prop := ∃ r, p r ∧ e = .returned (.agg #[.float .f64 r]) ∧ Below w.heap.size w w'

theorem newF64 (x : Nat) (w : World) : Calls Try.prog 16 #[.float .f64 x] w fun e w' => e = .returned (.agg #[.float .f64 x]) ∧ w.alloc (.cells #[.float .f64 x] 27) = w' := by
  go_enter Try.func16, Try.ntmps16
  go_wp2
  exact bodyPost_ret (v := .agg #[.float .f64 x]) (by simp [results, Try.results16, go_sem]) rfl ⟨rfl, rfl⟩

theorem value (x : Nat) (w : World) : Calls Try.prog 18 #[.agg #[.float .f64 x]] w fun e w' => e = .returned (.float .f64 x) ∧ w.alloc (.cells #[.float .f64 x] 27) = w' := by
  go_enter Try.func18, Try.ntmps18
  go_wp2
  go_ret
  exact ⟨rfl, rfl⟩

theorem add (x y : Nat) (w : World) : Calls Try.prog 51 #[.agg #[.float .f64 x], .agg #[.float .f64 y]] w (GivesF (FR .add x y) w) := by
  go_enter Try.func51, Try.ntmps51
  go_wp2_with (go_at_call 16; refine (newF64 _ _).mono ?_; rintro e w' ⟨rfl, rfl⟩)
  refine bodyPost_ret (v := .agg #[.float .f64 _]) (by simp [results, Try.results51, go_sem]; rfl) rfl ⟨_, fval_FR .add x y _, rfl, ?_⟩
  repeat (first | exact Below.refl _ _ | refine Below.alloc ?_ (by simp; try omega) _ | refine Below.setCell ?_ (by simp; try omega) _ | refine below_drewN ?_ _)


theorem sub (x y : Nat) (w : World) : Calls Try.prog 19 #[.agg #[.float .f64 x], .agg #[.float .f64 y]] w (GivesF (FR .sub x y) w) := by
  go_enter Try.func19, Try.ntmps19
  go_wp2_with (go_at_call 16; refine (newF64 _ _).mono ?_; rintro e w' ⟨rfl, rfl⟩)
  refine bodyPost_ret (v := .agg #[.float .f64 _]) (by simp [results, Try.results19, go_sem]; rfl) rfl ⟨_, fval_FR .sub x y _, rfl, ?_⟩
  repeat (first | exact Below.refl _ _ | refine Below.alloc ?_ (by simp; try omega) _ | refine Below.setCell ?_ (by simp; try omega) _ | refine below_drewN ?_ _)


theorem mul (x y : Nat) (w : World) : Calls Try.prog 46 #[.agg #[.float .f64 x], .agg #[.float .f64 y]] w (GivesF (FR .mul x y) w) := by
  go_enter Try.func46, Try.ntmps46
  go_wp2_with (go_at_call 16; refine (newF64 _ _).mono ?_; rintro e w' ⟨rfl, rfl⟩)
  refine bodyPost_ret (v := .agg #[.float .f64 _]) (by simp [results, Try.results46, go_sem]; rfl) rfl ⟨_, fval_FR .mul x y _, rfl, ?_⟩
  repeat (first | exact Below.refl _ _ | refine Below.alloc ?_ (by simp; try omega) _ | refine Below.setCell ?_ (by simp; try omega) _ | refine below_drewN ?_ _)



end Go.Proofs.Ytnfmpgmkmlmnjaa.F64
