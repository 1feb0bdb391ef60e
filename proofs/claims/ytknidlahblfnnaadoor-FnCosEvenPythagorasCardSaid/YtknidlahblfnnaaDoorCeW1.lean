/-
  The walks of the small functions that math.Cos and math.Sin call. No condition.
-/
import Derived.Test.YtknidlahblfnnaaDoorCeRed
import Derived.Test.YtknidlahblfnnaaDoorF64
import Derived.Laws.Externs
import Derived.Laws.BitsAllLaws
namespace Go.Proofs.YtknidlahblfnnaaDoor.Ce
open Go Go.RowKit Fl Small2 Mono Ieee

theorem run_bits (x : Nat) (w : World) : (callFunc 26 #[.float .f64 x]).run Tryd.prog w = .ok (.value (.int .u64 x)) w := by
  rw [run_callFunc_extern (fn := Tryd.f26) Tryd.func26 (by kernel_rfl) (by kernel_rfl) (by kernel_rfl) (e := Extern.MathFloatBits.float64bits) (by kernel_rfl)]
  rfl
theorem run_frombits (n : Int) (w : World) : (callFunc 25 #[.int .u64 n]).run Tryd.prog w = .ok (.value (.float .f64 n.toNat)) w := by
  rw [run_callFunc_extern (fn := Tryd.f25) Tryd.func25 (by kernel_rfl) (by kernel_rfl) (by kernel_rfl) (e := Extern.MathFloatBits.float64frombits) (by kernel_rfl)]
  rfl
theorem andNot_top (x : Nat) (hx : x < 2 ^ 64) : bits .andNot .u64 (x : Int) 9223372036854775808 = ((Ie.rg x : Nat) : Int) := by
  have h := u64_andNot_nat x 9223372036854775808 hx (by decide)
  have e : ((9223372036854775808 : Nat) : Int) = 9223372036854775808 := rfl
  rw [e] at h
  rw [h]
  have e2 : 18446744073709551615 - 9223372036854775808 = 2 ^ 63 - 1 := by decide
  rw [e2, Nat.and_two_pow_sub_one_eq_mod]
  rfl
theorem mathAbs (x : Nat) (hx : x < 2 ^ 64) (w : World) : Calls Tryd.prog 23 #[.float .f64 x] w fun e w' => e = .returned (.float .f64 (Ie.rg x)) ∧ w = w' := by
  have h1 := run_bits x
  have h2 := run_frombits
  have e1 := Lib.hid (andNot_top x hx)
  go_enter Tryd.func23, Tryd.ntmps23
  go_wp2
  go_ret
  exact ⟨congrArg (fun b => Ending.returned (.float .f64 b)) (by rw [e1.out]; rfl), rfl⟩
theorem mathIsNaN (x : Nat) (w : World) : Calls Tryd.prog 20 #[.float .f64 x] w fun e w' => e = .returned (.bool (nan x)) ∧ w = w' := by
  go_enter Tryd.func20, Tryd.ntmps20
  go_wp2
  go_ret
  exact ⟨rfl, rfl⟩
theorem mathNaN (w : World) : Calls Tryd.prog 22 #[] w fun e w' => e = .returned (.float .f64 9221120237041090561) ∧ w = w' := by
  have h2 := run_frombits
  go_enter Tryd.func22, Tryd.ntmps22
  go_wp2
  go_ret
  exact ⟨rfl, rfl⟩
def inf (x : Nat) : Bool := decide (Ie.rg x = 2047 * 2 ^ 52)
theorem inf_gt (x : Nat) (hn : nan x = false) : (D.order (Ie.rg x) 9218868437227405311 == some .gt) = inf x := by
  have hl := FloorMath.not_nan_le hn
  have e1 : Ie.rg (Ie.rg x) = Ie.rg x := Nat.mod_eq_of_lt (by omega)
  have e2 : Ie.sg (Ie.rg x) = false := by
    unfold Ie.sg
    have : Ie.rg x / 2 ^ 63 = 0 := Nat.div_eq_of_lt (by omega)
    rw [this]
    rfl
  have hn2 : nan (Ie.rg x) = false := by rw [nan_eq, e1, ← nan_eq]; exact hn
  have hk : Ie.key (Ie.rg x) = (Ie.rg x : Int) := by
    unfold Ie.key
    rw [e1, e2]
    rfl
  have hm : nan 9218868437227405311 = false := by decide +kernel
  have hk2 : Ie.key 9218868437227405311 = 9218868437227405311 := by decide +kernel
  rw [gtr_key hn2 hm, hk, hk2]
  unfold inf
  exact decide_eq_decide.2 (by omega)
theorem mathIsInf (x : Nat) (hx : x < 2 ^ 64) (hn : nan x = false) (w : World) : Calls Tryd.prog 21 #[.float .f64 x, .int .i64 0] w fun e w' => e = .returned (.bool (inf x)) ∧ w = w' := by
  have h1 := inf_gt x hn
  go_enter Tryd.func21, Tryd.ntmps21
  go_wp2_with (go_at_call 23; refine (mathAbs _ hx _).mono ?_; rintro e w' ⟨rfl, rfl⟩)
  go_ret
  exact ⟨rfl, rfl⟩

def fneg (x : Nat) : Nat := Op.negFloat .f64 x
theorem fneg_eq (x : Nat) (hx : x < 2 ^ 64) : fneg x = D.word (!Ie.sg x) (Ie.rg x) := by
  show x ^^^ 2 ^ 63 = _
  have hm : (x ^^^ 2 ^ 63) % 2 ^ 63 = Ie.rg x := by
    rw [Nat.xor_mod_two_pow, Nat.mod_self, Nat.xor_zero]; rfl
  have hlt : x ^^^ 2 ^ 63 < 2 ^ 64 := Nat.xor_lt_two_pow hx (by decide)
  have hd : (x ^^^ 2 ^ 63) / 2 ^ 63 = (x / 2 ^ 63) ^^^ 1 := by
    rw [← Nat.shiftRight_eq_div_pow, ← Nat.shiftRight_eq_div_pow, Nat.shiftRight_xor_distrib]
    rfl
  have hw := Ie.word_of (x ^^^ 2 ^ 63) hlt
  rw [← hw]
  have e1 : Ie.rg (x ^^^ 2 ^ 63) = Ie.rg x := hm
  have e2 : Ie.sg (x ^^^ 2 ^ 63) = !Ie.sg x := by
    unfold Ie.sg
    rw [hd]
    have : x / 2 ^ 63 = 0 ∨ x / 2 ^ 63 = 1 := by omega
    rcases this with h | h <;> rw [h] <;> rfl
  rw [e1, e2]
  rfl
@[go_sem] theorem run_fneg (P : Program) (w : World) (x : Nat) : (Op.unary .neg (.float .f64 x)).run P w = .ok (.float .f64 (fneg x)) w := rfl
theorem fneg_lt (x : Nat) (hx : x < 2 ^ 64) : fneg x < 2 ^ 64 := Nat.xor_lt_two_pow hx (by decide)
theorem rg_lt (x : Nat) : Ie.rg x < 2 ^ 63 := Nat.mod_lt _ (by decide)
theorem rg_fneg (x : Nat) (hx : x < 2 ^ 64) : Ie.rg (fneg x) = Ie.rg x := by
  rw [fneg_eq x hx, D_eq, Ie.rg_word _ _ (rg_lt x)]
theorem sg_fneg (x : Nat) (hx : x < 2 ^ 64) : Ie.sg (fneg x) = !Ie.sg x := by
  rw [fneg_eq x hx, D_eq, Ie.sg_word _ _ (rg_lt x)]
theorem fin_fneg (x : Nat) (hx : x < 2 ^ 64) : Small2.fin (fneg x) = Small2.fin x := by
  unfold Small2.fin
  rw [rg_fneg x hx]
theorem V_fneg (x : Nat) (hx : x < 2 ^ 64) : V (fneg x) = -V x := by
  unfold V
  rw [rg_fneg x hx, sg_fneg x hx]
  cases Ie.sg x <;> simp
theorem key_fneg (x : Nat) (hx : x < 2 ^ 64) : Ie.key (fneg x) = -Ie.key x := by
  unfold Ie.key
  rw [rg_fneg x hx, sg_fneg x hx]
  cases Ie.sg x <;> simp
theorem Ap.neg {x : Nat} {X e : Rat} (hx : x < 2 ^ 64) (h : Ap x X e) : Ap (fneg x) (-X) e := by
  obtain ⟨h1, h2, h3⟩ := h
  have ev : val (fneg x) = -val x := by
    unfold val
    rw [V_fneg x hx, Rat.intCast_neg]
    grind
  exact ⟨by rw [fin_fneg x hx]; exact h1, by grind, by grind⟩
theorem fNeg (x : Nat) (w : World) : Calls Tryd.prog 7 #[.agg #[.float .f64 x]] w (F64.GivesF (· = fneg x) w) := by
  go_enter Tryd.func7, Tryd.ntmps7
  go_wp2_with (go_at_call 4; refine (F64.newF64 _ _).mono ?_; rintro e w' ⟨rfl, rfl⟩)
  refine bodyPost_ret (v := .agg #[.float .f64 (fneg x)]) (by simp [results, Tryd.results7, go_sem]) rfl ⟨_, rfl, rfl, ?_⟩
  repeat (first | exact Below.refl _ _ | refine Below.alloc ?_ (by simp; try omega) _ | refine Below.setCell ?_ (by simp; try omega) _ | refine below_drewN ?_ _)
theorem isNaN (x : Nat) (w : World) : Calls Tryd.prog 9 #[.float .f64 x] w fun e w' => e = .returned (.bool (nan x)) ∧ w = w' := by
  go_enter Tryd.func9, Tryd.ntmps9
  go_wp2
  go_ret
  exact ⟨rfl, rfl⟩
end Go.Proofs.YtknidlahblfnnaaDoor.Ce
