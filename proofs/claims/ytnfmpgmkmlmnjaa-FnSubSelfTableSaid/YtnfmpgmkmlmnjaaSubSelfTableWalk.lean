/-
  The walk of FnSubSelfTable: it returns true for every float. No condition.
-/
import Derived.Test.YtnfmpgmkmlmnjaaSmall2
namespace Go.Proofs.Ytnfmpgmkmlmnjaa.fnSubSelfTable
open Go.RowKit Fl Small2

theorem same0 : same 0 0 = true := same_refl 0

set_option maxHeartbeats 1000000 in
theorem walk (a0 : Nat) (_w0 : (Lit.float .f64 a0).wf = true) (w : World) :
    Calls Try.prog 5 #[.float .f64 a0] w fun e w' => e = .returned (.bool true) ∧ Below w.heap.size w w' := by
  cases hf : fin a0
  all_goals
    go_enter Try.func5, Try.ntmps5
    go_wp2_with (first | (go_at_call 16; refine (F64.newF64 _ _).mono ?_; rintro e w' ⟨rfl, rfl⟩) | (go_at_call 18; refine (F64.value _ _).mono ?_; rintro e w1 ⟨rfl, rfl⟩) | (go_at_call 19; refine (F64.sub _ _ _).mono ?_; rintro e w1 ⟨r, hr, rfl, hb⟩; replace hr := Lib.hid hr) | (go_at_call 20; refine (isFiniteB7 _ _).mono ?_; rintro e w1 ⟨rfl, rfl⟩) | (go_at_call 21; refine (Same.sameFB7 _ _ _).mono ?_; rintro e w3 ⟨rfl, n2, rfl⟩))
    go_ret
  all_goals
    have hs := sub_self hr.out
    rw [hf] at hs
    have h1 := hb.size
    simp at h1
  · refine ⟨congrArg (fun b => Ending.returned (.bool b)) (by simpa using hs), ?_⟩
    repeat (first | exact Below.refl _ _ | refine below_drewN ?_ _ | refine Below.alloc ?_ (by first | omega | (simp; done) | (simp; omega)) _ | refine Below.trans ?_ (hb.mono (by first | omega | (simp; done) | (simp; omega))))
  · have hs : r = 0 := by simpa using hs
    refine ⟨congrArg (fun b => Ending.returned (.bool b)) (by rw [hs]; exact same0), ?_⟩
    repeat (first | exact Below.refl _ _ | refine below_drewN ?_ _ | refine Below.alloc ?_ (by first | omega | (simp; done) | (simp; omega)) _ | refine Below.trans ?_ (hb.mono (by first | omega | (simp; done) | (simp; omega))))
end Go.Proofs.Ytnfmpgmkmlmnjaa.fnSubSelfTable
