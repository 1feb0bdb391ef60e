/-
  The walk of FnMin2AbsorbsMax2: it returns true for every pair of floats. No condition.
-/
import Derived.Test.YtnfmpgmkmlmnjaaMinMax
namespace Go.Proofs.Ytnfmpgmkmlmnjaa.fnMin2AbsorbsMax2
open Go.RowKit Fl MinMax

set_option maxHeartbeats 1000000 in
theorem walk (a0 : Nat) (_w0 : (Lit.float .f64 a0).wf = true) (a1 : Nat) (_w1 : (Lit.float .f64 a1).wf = true) (w : World) :
    Calls Try.prog 3 #[.float .f64 a0, .float .f64 a1] w fun e w' => e = .returned (.bool true) ∧ Below w.heap.size w w' := by
  cases hx : nan a0 <;> cases hy : nan a1
  case false.false =>
    have A := Lib.hid (absorbs a0 a1 hx hy)
    go_enter Try.func3, Try.ntmps3
    go_wp2_with (first | (go_at_call 12; refine (Same.isNaN195 _ _).mono ?_; rintro e w' ⟨rfl, rfl⟩) | (go_at_call 13; refine (MinMax.max2 _ _ _).mono ?_; rintro e w1 ⟨rfl, hb⟩) | (go_at_call 15; refine (MinMax.min2 _ _ _).mono ?_; rintro e w2 ⟨rfl, hb2⟩) | (go_at_call 14; refine (Same.sameF195 _ _ _).mono ?_; rintro e w3 ⟨rfl, n, rfl⟩))
    go_ret
    have h1 := hb.size
    exact ⟨congrArg (fun b => Ending.returned (.bool b)) A.out, below_drewN (hb.trans (hb2.mono h1)) _⟩
  all_goals
    go_enter Try.func3, Try.ntmps3
    go_wp2_with (go_at_call 12; refine (Same.isNaN195 _ _).mono ?_; rintro e w' ⟨rfl, rfl⟩)
    go_ret
    exact ⟨rfl, Below.refl _ _⟩
end Go.Proofs.Ytnfmpgmkmlmnjaa.fnMin2AbsorbsMax2
