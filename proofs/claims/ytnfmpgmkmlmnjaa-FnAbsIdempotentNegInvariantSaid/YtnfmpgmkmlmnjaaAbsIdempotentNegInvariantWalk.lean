/-
  The walk of FnAbsIdempotentNegInvariant: it returns true for every float. No condition.
-/
import Derived.Test.YtnfmpgmkmlmnjaaSmall2
namespace Go.Proofs.Ytnfmpgmkmlmnjaa.fnAbsIdempotentNegInvariant
open Go.RowKit Fl Small2 Bits

def GivesW (v : Nat) (w : World) (e : Ending) (w' : World) : Prop := e = .returned (.agg #[.float .f64 v]) ∧ Below w.heap.size w w'
theorem absW (x : Nat) (hx : x < 2 ^ 64) (w : World) : Calls Try.prog 26 #[.agg #[.float .f64 x]] w (GivesW (D.word false (Ie.rg x)) w) :=
  (fAbs x hx w).mono fun _ _ ⟨_, h, he, hb⟩ => ⟨by rw [he, h], hb⟩
theorem absW2 (s : Bool) (x : Nat) (w : World) : Calls Try.prog 26 #[.agg #[.float .f64 (D.word s (Ie.rg x))]] w (GivesW (D.word false (Ie.rg x)) w) :=
  (fAbs _ (word_lt _ _ (rg_lt x)) w).mono fun _ _ ⟨_, h, he, hb⟩ => ⟨by rw [he, h, rg_w], hb⟩
theorem negW (x : Nat) (hx : x < 2 ^ 64) (w : World) : Calls Try.prog 27 #[.agg #[.float .f64 x]] w (GivesW (D.word (!Ie.sg x) (Ie.rg x)) w) :=
  (fNeg x hx w).mono fun _ _ ⟨_, h, he, hb⟩ => ⟨by rw [he, h], hb⟩
theorem sameW (x : Nat) (w : World) : Calls Try.prog 29 #[.float .f64 x, .float .f64 x] w (Same.Says true w) := by
  have h := sameF268 x x w
  rw [same_refl] at h
  exact h

theorem ge_x {x : Nat} (hn : nan x = false) : (D.order (D.word false (Ie.rg x)) x == some .gt || D.order (D.word false (Ie.rg x)) x == some .eq) = true := by
  have hle := FloorMath.not_nan_le hn
  rw [ge_key (FloorMath.nan_word hle) hn, FloorMath.keyOf_word hle]
  refine decide_eq_true ?_
  unfold Ie.key
  cases Ie.sg x <;> simp only [Bool.false_eq_true, if_false, if_true] <;> omega
theorem ge_minus {x r : Nat} (hn : nan x = false) (h : FR .sub 0 x r) : (D.order (D.word false (Ie.rg x)) r == some .gt || D.order (D.word false (Ie.rg x)) r == some .eq) = true := by
  have hle := FloorMath.not_nan_le hn
  obtain ⟨h1, h2⟩ := zero_sub hn h
  rw [ge_key (FloorMath.nan_word hle) h1, FloorMath.keyOf_word hle, h2]
  refine decide_eq_true ?_
  unfold Ie.key
  cases Ie.sg x <;> simp only [Bool.false_eq_true, if_false, if_true] <;> omega

set_option maxHeartbeats 2000000 in
theorem walk (a0 : Nat) (w0 : (Lit.float .f64 a0).wf = true) (w : World) :
    Calls Try.prog 8 #[.float .f64 a0] w fun e w' => e = .returned (.bool true) ∧ Below w.heap.size w w' := by
  have hx : a0 < 2 ^ 64 := by simpa [Lit.wf] using w0
  have hnw := nan_w false a0
  have hng := neg_w false a0
  cases hn : nan a0 with
  | false =>
    have ge1 := ge_x hn
    have ge2 := fun w => ge_minus hn (fval_FR .sub 0 a0 w)
    rw [hn] at hnw
    go_enter Try.func8, Try.ntmps8
    go_wp2_with (first | (go_at_call 16; refine (F64.newF64 _ _).mono ?_; rintro e w' ⟨rfl, rfl⟩) | (go_at_call 18; refine (F64.value _ _).mono ?_; rintro e w1 ⟨rfl, rfl⟩) | (go_at_call 26; (with_reducible refine (absW _ hx _).mono ?_); rintro e w1 ⟨rfl, hb⟩) | (go_at_call 26; (with_reducible refine (absW2 _ _ _).mono ?_); rintro e w1 ⟨rfl, hb⟩) | (go_at_call 27; refine (negW _ hx _).mono ?_; rintro e w1 ⟨rfl, hb⟩) | (go_at_call 28; refine (Same.isNaN268 _ _).mono ?_; rintro e w' ⟨rfl, rfl⟩) | (go_at_call 29; refine (sameW _ _).mono ?_; rintro e w' ⟨rfl, n, rfl⟩) | (go_at_call 30; refine (Same.sign268 _ _).mono ?_; rintro e w' ⟨rfl, n, rfl⟩))
    go_ret
    refine ⟨rfl, ?_⟩
    repeat (first | exact Below.refl _ _ | refine below_drewN ?_ _ | refine bla ?_ _ | refine bl ?_ (by assumption))
  | true =>
    rw [hn] at hnw
    go_enter Try.func8, Try.ntmps8
    go_wp2_with (first | (go_at_call 16; refine (F64.newF64 _ _).mono ?_; rintro e w' ⟨rfl, rfl⟩) | (go_at_call 18; refine (F64.value _ _).mono ?_; rintro e w1 ⟨rfl, rfl⟩) | (go_at_call 26; (with_reducible refine (absW _ hx _).mono ?_); rintro e w1 ⟨rfl, hb⟩) | (go_at_call 26; (with_reducible refine (absW2 _ _ _).mono ?_); rintro e w1 ⟨rfl, hb⟩) | (go_at_call 27; refine (negW _ hx _).mono ?_; rintro e w1 ⟨rfl, hb⟩) | (go_at_call 28; refine (Same.isNaN268 _ _).mono ?_; rintro e w' ⟨rfl, rfl⟩))
    go_ret
    refine ⟨rfl, ?_⟩
    repeat (first | exact Below.refl _ _ | refine below_drewN ?_ _ | refine bla ?_ _ | refine bl ?_ (by assumption))
end Go.Proofs.Ytnfmpgmkmlmnjaa.fnAbsIdempotentNegInvariant
