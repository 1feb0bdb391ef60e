/-
  The sign bit of a float: Neg, Abs, Copysign. The only condition is that a float has 64 bits.
-/
import Derived.Test.YtnfmpgmkmlmnjaaSame
import Derived.Test.YtnfmpgmkmlmnjaaFloorMath
import Derived.Laws.Externs
import Derived.Laws.BitsAllLaws
namespace Go.Proofs.Ytnfmpgmkmlmnjaa.Bits
open Go.RowKit Fl

theorem run_bits (x : Nat) (w : World) : (callFunc 58 #[.float .f64 x]).run Try.prog w = .ok (.value (.int .u64 x)) w := by
  rw [run_callFunc_extern (fn := Try.f58) Try.func58 (by kernel_rfl) (by kernel_rfl) (by kernel_rfl) (e := Extern.MathFloatBits.float64bits) (by kernel_rfl)]
  rfl
theorem run_frombits (n : Int) (w : World) : (callFunc 57 #[.int .u64 n]).run Try.prog w = .ok (.value (.float .f64 n.toNat)) w := by
  rw [run_callFunc_extern (fn := Try.f57) Try.func57 (by kernel_rfl) (by kernel_rfl) (by kernel_rfl) (e := Extern.MathFloatBits.float64frombits) (by kernel_rfl)]
  rfl

theorem andNot_top (x : Nat) (hx : x < 2 ^ 64) : bits .andNot .u64 (x : Int) 9223372036854775808 = ((Ie.rg x : Nat) : Int) := by
  have h := u64_andNot_nat x 9223372036854775808 hx (by decide)
  have e : ((9223372036854775808 : Nat) : Int) = 9223372036854775808 := rfl
  rw [e] at h
  rw [h]
  have e2 : 18446744073709551615 - 9223372036854775808 = 2 ^ 63 - 1 := by decide
  rw [e2, Nat.and_two_pow_sub_one_eq_mod]
  rfl
theorem and_top (y : Nat) (hy : y < 2 ^ 64) : bits .and .u64 (y : Int) 9223372036854775808 = ((if Ie.sg y then 2 ^ 63 else 0 : Nat) : Int) := by
  have h := u64_and_nat y 9223372036854775808 hy (by decide)
  have e : ((9223372036854775808 : Nat) : Int) = 9223372036854775808 := rfl
  rw [e] at h
  rw [h]
  have e2 : 9223372036854775808 = 2 ^ 63 := by decide
  rw [e2, nat_bit]
  unfold Ie.sg
  have h2 : y / 2 ^ 63 % 2 = 0 ∨ y / 2 ^ 63 % 2 = 1 := by omega
  rcases h2 with h2 | h2 <;> rw [h2] <;> simp
theorem or_top (s : Bool) (k : Nat) (hk : k < 2 ^ 63) : bits .or .u64 (k : Int) ((if s then 2 ^ 63 else 0 : Nat) : Int) = ((D.word s k : Nat) : Int) := by
  rw [u64_or_nat _ _ (by omega) (by cases s <;> decide)]
  congr 1
  cases s
  · simp [Ieee.Format.word]
  · simp only [if_true]
    rw [Nat.or_comm, nat_join 63 _ k (by decide) hk]
    rfl
theorem rg_lt (x : Nat) : Ie.rg x < 2 ^ 63 := Nat.mod_lt _ (by decide)

theorem mathAbs (x : Nat) (hx : x < 2 ^ 64) (w : World) : Calls Try.prog 49 #[.float .f64 x] w fun e w' => e = .returned (.float .f64 (D.word false (Ie.rg x))) ∧ w = w' := by
  have h1 := run_bits x
  have h2 := run_frombits
  have e1 := Lib.hid (andNot_top x hx)
  go_enter Try.func49, Try.ntmps49
  go_wp2
  go_ret
  exact ⟨congrArg (fun b => Ending.returned (.float .f64 b)) (by rw [e1.out]; rfl), rfl⟩

theorem copysign (x y : Nat) (hx : x < 2 ^ 64) (hy : y < 2 ^ 64) (w : World) : Calls Try.prog 50 #[.float .f64 x, .float .f64 y] w fun e w' => e = .returned (.float .f64 (D.word (Ie.sg y) (Ie.rg x))) ∧ w = w' := by
  have h1 := run_bits
  have h2 := run_frombits
  have e1 := Lib.hid (andNot_top x hx)
  have e2 := Lib.hid (and_top y hy)
  go_enter Try.func50, Try.ntmps50
  go_wp2
  go_ret
  exact ⟨congrArg (fun b => Ending.returned (.float .f64 b)) (by rw [e1.out, e2.out, or_top _ _ (rg_lt x)]; rfl), rfl⟩

def fneg (x : Nat) : Nat := Op.negFloat .f64 x
theorem fneg_eq (x : Nat) (hx : x < 2 ^ 64) : fneg x = D.word (!Ie.sg x) (Ie.rg x) := by
  show x ^^^ 2 ^ 63 = _
  have hm : (x ^^^ 2 ^ 63) % 2 ^ 63 = Ie.rg x := by
    rw [Nat.xor_mod_two_pow, Nat.mod_self, Nat.xor_zero]; rfl
  have hlt : x ^^^ 2 ^ 63 < 2 ^ 64 := Nat.xor_lt_two_pow hx (by decide)
  have hd : (x ^^^ 2 ^ 63) / 2 ^ 63 = (x / 2 ^ 63) ^^^ 1 := by
    rw [← Nat.shiftRight_eq_div_pow, ← Nat.shiftRight_eq_div_pow, Nat.shiftRight_xor_distrib]
    rfl
  have hw := Ie.word_of (x ^^^ 2 ^ 63) hlt
  rw [← hw]
  have e1 : Ie.rg (x ^^^ 2 ^ 63) = Ie.rg x := hm
  have e2 : Ie.sg (x ^^^ 2 ^ 63) = !Ie.sg x := by
    unfold Ie.sg
    rw [hd]
    have : x / 2 ^ 63 = 0 ∨ x / 2 ^ 63 = 1 := by omega
    rcases this with h | h <;> rw [h] <;> rfl
  rw [e1, e2]
  rfl
@[go_sem] theorem run_fneg (P : Program) (w : World) (x : Nat) : (Op.unary .neg (.float .f64 x)).run P w = .ok (.float .f64 (fneg x)) w := rfl

theorem word_lt (s : Bool) (k : Nat) (hk : k < 2 ^ 63) : D.word s k < 2 ^ 64 := by
  unfold Ieee.Format.word
  have : D.signWeight = 2 ^ 63 := rfl
  cases s
  · simp only [Bool.false_eq_true, if_false]; omega
  · simp only [if_true]; omega

theorem fNeg (x : Nat) (hx : x < 2 ^ 64) (w : World) : Calls Try.prog 27 #[.agg #[.float .f64 x]] w (F64.GivesF (· = D.word (!Ie.sg x) (Ie.rg x)) w) := by
  have HX := Lib.hid (fneg_eq x hx)
  go_enter Try.func27, Try.ntmps27
  go_wp2_with (go_at_call 16; refine (F64.newF64 _ _).mono ?_; rintro e w' ⟨rfl, rfl⟩)
  refine bodyPost_ret (v := .agg #[.float .f64 (fneg x)]) (by simp [results, Try.results27, go_sem]) rfl ⟨_, HX.out, rfl, ?_⟩
  repeat (first | exact Below.refl _ _ | refine Below.alloc ?_ (by simp; try omega) _ | refine Below.setCell ?_ (by simp; try omega) _ | refine below_drewN ?_ _)
theorem fAbs (x : Nat) (hx : x < 2 ^ 64) (w : World) : Calls Try.prog 26 #[.agg #[.float .f64 x]] w (F64.GivesF (· = D.word false (Ie.rg x)) w) := by
  go_enter Try.func26, Try.ntmps26
  go_wp2_with (first | (go_at_call 16; refine (F64.newF64 _ _).mono ?_; rintro e w' ⟨rfl, rfl⟩) | (go_at_call 49; refine (mathAbs _ hx _).mono ?_; rintro e w' ⟨rfl, rfl⟩))
  refine bodyPost_ret (v := .agg #[.float .f64 (D.word false (Ie.rg x))]) (by simp [results, Try.results26, go_sem]) rfl ⟨_, rfl, rfl, ?_⟩
  repeat (first | exact Below.refl _ _ | refine Below.alloc ?_ (by simp; try omega) _ | refine Below.setCell ?_ (by simp; try omega) _ | refine below_drewN ?_ _)
theorem fSign (x y : Nat) (hx : x < 2 ^ 64) (hy : y < 2 ^ 64) (w : World) : Calls Try.prog 31 #[.agg #[.float .f64 x], .agg #[.float .f64 y]] w (F64.GivesF (· = D.word (Ie.sg y) (Ie.rg x)) w) := by
  go_enter Try.func31, Try.ntmps31
  go_wp2_with (first | (go_at_call 16; refine (F64.newF64 _ _).mono ?_; rintro e w' ⟨rfl, rfl⟩) | (go_at_call 50; refine (copysign _ _ hx hy _).mono ?_; rintro e w' ⟨rfl, rfl⟩))
  refine bodyPost_ret (v := .agg #[.float .f64 (D.word (Ie.sg y) (Ie.rg x))]) (by simp [results, Try.results31, go_sem]) rfl ⟨_, rfl, rfl, ?_⟩
  repeat (first | exact Below.refl _ _ | refine Below.alloc ?_ (by simp; try omega) _ | refine Below.setCell ?_ (by simp; try omega) _ | refine below_drewN ?_ _)

/-! ### words of one rung -/
theorem nan_w (s : Bool) (x : Nat) : nan (D.word s (Ie.rg x)) = nan x := by
  rw [nan_eq, nan_eq, D_eq, Ie.rg_word _ _ (rg_lt x)]
theorem zero_w (s : Bool) (x : Nat) : zero (D.word s (Ie.rg x)) = zero x := by
  rw [zero_eq, zero_eq, D_eq, Ie.rg_word _ _ (rg_lt x)]
theorem neg_w (s : Bool) (x : Nat) : neg (D.word s (Ie.rg x)) = s := by
  rw [neg_eq, D_eq, Ie.sg_word _ _ (rg_lt x)]
theorem rg_w (s : Bool) (x : Nat) : Ie.rg (D.word s (Ie.rg x)) = Ie.rg x := by
  rw [D_eq, Ie.rg_word _ _ (rg_lt x)]
theorem sg_w (s : Bool) (x : Nat) : Ie.sg (D.word s (Ie.rg x)) = s := by
  rw [D_eq, Ie.sg_word _ _ (rg_lt x)]
theorem w_self (x : Nat) (hx : x < 2 ^ 64) : D.word (Ie.sg x) (Ie.rg x) = x := Ie.word_of x hx
end Go.Proofs.Ytnfmpgmkmlmnjaa.Bits
