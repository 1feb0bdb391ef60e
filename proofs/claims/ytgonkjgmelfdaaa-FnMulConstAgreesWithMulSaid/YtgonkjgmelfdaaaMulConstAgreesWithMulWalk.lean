/-
  The walk of FnMulConstAgreesWithMul: it returns true for every pair of floats. No condition.
-/
import Derived.Test.YtgonkjgmelfdaaaSame
namespace Go.Proofs.Ytgonkjgmelfdaaa.fnMulConstAgreesWithMul
open Go.RowKit Fl

set_option maxHeartbeats 1000000 in
theorem walk (a0 : Nat) (_w0 : (Lit.float .f64 a0).wf = true) (a1 : Nat) (_w1 : (Lit.float .f64 a1).wf = true) (w : World) :
    Calls Try.prog 7 #[.float .f64 a0, .float .f64 a1] w fun e w' => e = .returned (.bool true) ∧ Below w.heap.size w w' := by
  go_enter Try.func7, Try.ntmps7
  go_wp2_with (first | (go_at_call 11; refine (F64.newF64 _ _).mono ?_; rintro e w' ⟨rfl, rfl⟩) | (go_at_call 13; refine (F64.value _ _).mono ?_; rintro e w1 ⟨rfl, rfl⟩) | (go_at_call 21; refine (F64.mulConst _ _ _).mono ?_; rintro e w1 ⟨r, hr, rfl, hb⟩) | (go_at_call 22; refine (F64.mul _ _ _).mono ?_; rintro e w2 ⟨s, hs, rfl, hb2⟩) | (go_at_call 20; refine (Same.sameB8 _ _ _).mono ?_; rintro e w3 ⟨rfl, n, rfl⟩))
  go_ret
  refine ⟨congrArg (fun b => Ending.returned (.bool b)) (same_of_FR hr hs), ?_⟩
  have h1 := hb.size
  have h2 := hb2.size
  refine below_drewN ?_ _
  refine Below.alloc (Below.trans ?_ (hb2.mono ?_)) ?_ _
  · refine Below.alloc ?_ ?_ _
    · refine Below.alloc ?_ ?_ _
      · refine Below.alloc (Below.trans ?_ (hb.mono ?_)) ?_ _
        · exact (Below.refl _ _).alloc (Nat.le_refl _) _
        · simp
        · simp at h1; omega
      · simp at h1 ⊢; omega
    · simp at h1 ⊢; omega
  · simp at h1 ⊢; omega
  · simp at h1 h2 ⊢; omega
end Go.Proofs.Ytgonkjgmelfdaaa.fnMulConstAgreesWithMul
