/-
  The walk of FnWithSignFromExact: it returns true for every pair of floats. No condition.
-/
import Derived.Test.YtnfmpgmkmlmnjaaSmall2
namespace Go.Proofs.Ytnfmpgmkmlmnjaa.fnWithSignFromExact
open Go.RowKit Fl Small2 Bits

theorem minus_mag (a : Nat) : fneg (D.word false (Ie.rg a)) = D.word true (Ie.rg a) := by
  rw [fneg_eq _ (word_lt _ _ (rg_lt a)), sg_w, rg_w]; rfl
theorem same_word (s t : Bool) (a : Nat) (h : s = t) : same (D.word s (Ie.rg a)) (D.word t (Ie.rg a)) = true := by rw [h]; exact same_refl _

set_option maxHeartbeats 2000000 in
theorem walk (a0 : Nat) (w0 : (Lit.float .f64 a0).wf = true) (a1 : Nat) (w1 : (Lit.float .f64 a1).wf = true) (w : World) :
    Calls Try.prog 9 #[.float .f64 a0, .float .f64 a1] w fun e w' => e = .returned (.bool true) ∧ Below w.heap.size w w' := by
  have hx : a0 < 2 ^ 64 := by simpa [Lit.wf] using w0
  have hy : a1 < 2 ^ 64 := by simpa [Lit.wf] using w1
  have hm := minus_mag a0
  cases hn : nan a0 with
  | true =>
    have hn2 : nan (D.word (Ie.sg a1) (Ie.rg a0)) = true := by rw [nan_w, hn]
    go_enter Try.func9, Try.ntmps9
    go_wp2_with (first | (go_at_call 16; refine (F64.newF64 _ _).mono ?_; rintro e w' ⟨rfl, rfl⟩) | (go_at_call 18; refine (F64.value _ _).mono ?_; rintro e w1 ⟨rfl, rfl⟩) | (go_at_call 31; refine (fSign _ _ hx hy _).mono ?_; rintro e w1 ⟨r, rfl, rfl, hb⟩) | (go_at_call 32; refine (Same.isNaN157 _ _).mono ?_; rintro e w' ⟨rfl, rfl⟩))
    go_ret
    have h1 := hb.size
    simp at h1
    refine ⟨congrArg (fun b => Ending.returned (.bool b)) rfl, ?_⟩
    repeat (first | exact Below.refl _ _ | refine below_drewN ?_ _ | refine Below.alloc ?_ (by first | omega | (simp; done) | (simp; omega)) _ | refine Below.trans ?_ (hb.mono (by first | omega | (simp; done) | (simp; omega))))
  | false =>
    have hsg := neg_eq a1
    have sw := fun s t h => same_word s t a0 h
    have SW := Lib.hid sw
    clear sw
    cases hn1 : nan a1 <;> cases hg : Ie.sg a1 <;> rw [hg] at hsg
    all_goals
      have s1 := SW.out true true rfl
      have s2 := SW.out false false rfl
      go_enter Try.func9, Try.ntmps9
      go_wp2_with (first | (go_at_call 16; refine (F64.newF64 _ _).mono ?_; rintro e w' ⟨rfl, rfl⟩) | (go_at_call 18; refine (F64.value _ _).mono ?_; rintro e w1 ⟨rfl, rfl⟩) | (go_at_call 31; refine (fSign _ _ hx hy _).mono ?_; rintro e w1 ⟨r, rfl, rfl, hb⟩) | (go_at_call 32; refine (Same.isNaN157 _ _).mono ?_; rintro e w' ⟨rfl, rfl⟩) | (go_at_call 33; refine (abs157 _ hx hn _).mono ?_; rintro e w' ⟨rfl, n, rfl⟩) | (go_at_call 35; refine (Same.sign157 _ _).mono ?_; rintro e w' ⟨rfl, n, rfl⟩) | (go_at_call 34; refine (same157 _ _ _).mono ?_; rintro e w' ⟨rfl, n, rfl⟩))
    all_goals
      go_ret
      have h1 := hb.size
      simp at h1
      refine ⟨rfl, ?_⟩
      repeat (first | exact Below.refl _ _ | refine below_drewN ?_ _ | refine Below.alloc ?_ (by first | omega | (simp; done) | (simp; omega)) _ | refine Below.trans ?_ (hb.mono (by first | omega | (simp; done) | (simp; omega))))
end Go.Proofs.Ytnfmpgmkmlmnjaa.fnWithSignFromExact
