/-
  Min and Max of floats: the entry, the methods, and the order behind them. The only condition is that a float has 64 bits.
-/
import Derived.Test.YtnfmpgmkmlmnjaaBits
import Derived.Deep.RegionHeld3
namespace Go.Proofs.Ytnfmpgmkmlmnjaa.MinMax
open Go.RowKit Fl Bits

/-- What math.archMin (neg = true) and math.archMax (neg = false) give. -/
def pickV (neg : Bool) (win : Ordering) (x y : Nat) : Nat :=
  if D.read x == .infinity neg || D.read y == .infinity neg then D.write (.infinity neg)
  else if (D.read x).isNaN || (D.read y).isNaN then 0x7FF8000000000001
  else if (D.read x).isZero && (D.read y).isZero then (if (D.read x).neg == neg then x else y)
  else if (D.read x).order (D.read y) == some win then x else y

theorem run_archMin (x y : Nat) (w : World) : (callFunc 65 #[.float .f64 x, .float .f64 y]).run Try.prog w = .ok (.value (.float .f64 (pickV true .lt x y))) w := by
  rw [run_callFunc_extern (fn := Try.f65) Try.func65 (by kernel_rfl) (by kernel_rfl) (by kernel_rfl) (e := Extern.MathDim.pick "math.archMin" true .lt) (by kernel_rfl)]
  rfl
theorem run_archMax (x y : Nat) (w : World) : (callFunc 63 #[.float .f64 x, .float .f64 y]).run Try.prog w = .ok (.value (.float .f64 (pickV false .gt x y))) w := by
  rw [run_callFunc_extern (fn := Try.f63) Try.func63 (by kernel_rfl) (by kernel_rfl) (by kernel_rfl) (e := Extern.MathDim.pick "math.archMax" false .gt) (by kernel_rfl)]
  rfl

def minV (x y : Nat) : Nat := pickV true .lt x y
def maxV (x y : Nat) : Nat := pickV false .gt x y

theorem mathMin (x y : Nat) (w : World) : Calls Try.prog 55 #[.float .f64 x, .float .f64 y] w fun e w' => e = .returned (.float .f64 (minV x y)) ∧ w = w' := by
  have hd := run_archMin x y
  go_enter Try.func55, Try.ntmps55
  go_wp2
  go_ret
  exact ⟨rfl, rfl⟩
theorem mathMax (x y : Nat) (w : World) : Calls Try.prog 54 #[.float .f64 x, .float .f64 y] w fun e w' => e = .returned (.float .f64 (maxV x y)) ∧ w = w' := by
  have hd := run_archMax x y
  go_enter Try.func54, Try.ntmps54
  go_wp2
  go_ret
  exact ⟨rfl, rfl⟩

theorem fMin2 (x y : Nat) (w : World) : Calls Try.prog 43 #[.agg #[.float .f64 x], .agg #[.float .f64 y]] w (F64.GivesF (· = minV x y) w) := by
  go_enter Try.func43, Try.ntmps43
  go_wp2_with (first | (go_at_call 16; refine (F64.newF64 _ _).mono ?_; rintro e w' ⟨rfl, rfl⟩) | (go_at_call 55; refine (mathMin _ _ _).mono ?_; rintro e w' ⟨rfl, rfl⟩))
  refine bodyPost_ret (v := .agg #[.float .f64 (minV x y)]) (by simp [results, Try.results43, go_sem]) rfl ⟨_, rfl, rfl, ?_⟩
  repeat (first | exact Below.refl _ _ | refine Below.alloc ?_ (by simp; try omega) _ | refine Below.setCell ?_ (by simp; try omega) _ | refine below_drewN ?_ _)
theorem fMax2 (x y : Nat) (w : World) : Calls Try.prog 41 #[.agg #[.float .f64 x], .agg #[.float .f64 y]] w (F64.GivesF (· = maxV x y) w) := by
  go_enter Try.func41, Try.ntmps41
  go_wp2_with (first | (go_at_call 16; refine (F64.newF64 _ _).mono ?_; rintro e w' ⟨rfl, rfl⟩) | (go_at_call 54; refine (mathMax _ _ _).mono ?_; rintro e w' ⟨rfl, rfl⟩))
  refine bodyPost_ret (v := .agg #[.float .f64 (maxV x y)]) (by simp [results, Try.results41, go_sem]) rfl ⟨_, rfl, rfl, ?_⟩
  repeat (first | exact Below.refl _ _ | refine Below.alloc ?_ (by simp; try omega) _ | refine Below.setCell ?_ (by simp; try omega) _ | refine below_drewN ?_ _)

def GivesB (v : Nat) (w : World) (e : Ending) (w' : World) : Prop := e = .returned (.float .f64 v) ∧ Below w.heap.size w w'

theorem min2 (x y : Nat) (w : World) : Calls Try.prog 15 #[.float .f64 x, .float .f64 y] w (GivesB (minV x y) w) := by
  go_enter Try.func15, Try.ntmps15
  go_wp2_with (first | (go_at_call 16; refine (F64.newF64 _ _).mono ?_; rintro e w' ⟨rfl, rfl⟩) | (go_at_call 18; refine (F64.value _ _).mono ?_; rintro e w1 ⟨rfl, rfl⟩) | (go_at_call 43; refine (fMin2 _ _ _).mono ?_; rintro e w1 ⟨r, rfl, rfl, hb⟩))
  go_ret
  refine ⟨rfl, ?_⟩
  have h1 := hb.size
  simp at h1
  repeat (first | exact Below.refl _ _ | refine below_drewN ?_ _ | refine Below.alloc ?_ (by first | omega | (simp; done) | (simp; omega)) _ | refine Below.trans ?_ (hb.mono (by first | omega | (simp; done) | (simp; omega))))
theorem max2 (x y : Nat) (w : World) : Calls Try.prog 13 #[.float .f64 x, .float .f64 y] w (GivesB (maxV x y) w) := by
  go_enter Try.func13, Try.ntmps13
  go_wp2_with (first | (go_at_call 16; refine (F64.newF64 _ _).mono ?_; rintro e w' ⟨rfl, rfl⟩) | (go_at_call 18; refine (F64.value _ _).mono ?_; rintro e w1 ⟨rfl, rfl⟩) | (go_at_call 41; refine (fMax2 _ _ _).mono ?_; rintro e w1 ⟨r, rfl, rfl, hb⟩))
  go_ret
  refine ⟨rfl, ?_⟩
  have h1 := hb.size
  simp at h1
  repeat (first | exact Below.refl _ _ | refine below_drewN ?_ _ | refine Below.alloc ?_ (by first | omega | (simp; done) | (simp; omega)) _ | refine Below.trans ?_ (hb.mono (by first | omega | (simp; done) | (simp; omega))))

/-! ### the order behind them: -Inf, the NaNs, then by value, -0 before +0 -/
def I : Nat := 2047 * 2 ^ 52
def nk (x : Nat) : Int := if nan x then -2 * (I : Int) + 1 else 2 * Ie.key x - (if Ie.sg x && decide (Ie.rg x = 0) then 1 else 0)

theorem isNaN_eq (x : Nat) : (D.read x).isNaN = nan x := rfl
theorem isZero_eq (x : Nat) : (D.read x).isZero = zero x := by
  rw [zero_eq, D_eq, Ie.read_eq]
  by_cases h : Ie.rg x < 2047 * 2 ^ 52
  · rw [if_pos h]
    by_cases h0 : Ie.rg x = 0
    · rw [h0]; rfl
    · rw [decide_eq_false h0]
      have : Ie.rm (Ie.rg x) ≠ 0 := fun hh => h0 ((Ie.rm_zero _).1 hh)
      generalize Ie.rm (Ie.rg x) = m at *
      cases m with
      | zero => exact absurd rfl this
      | succ m => rfl
  · rw [if_neg h]
    have h0 : ¬ Ie.rg x = 0 := by omega
    rw [decide_eq_false h0]
    split <;> rfl
theorem isInf_eq (s : Bool) (x : Nat) : (D.read x == .infinity s) = (decide (Ie.rg x = 2047 * 2 ^ 52) && (Ie.sg x == s)) := by
  rw [D_eq, Ie.read_eq]
  by_cases h : Ie.rg x < 2047 * 2 ^ 52
  · rw [if_pos h, decide_eq_false (by omega)]; rfl
  · rw [if_neg h]
    by_cases h2 : Ie.rg x = 2047 * 2 ^ 52
    · rw [if_pos h2, decide_eq_true h2]
      cases Ie.sg x <;> cases s <;> rfl
    · rw [if_neg h2, decide_eq_false h2]; rfl

theorem nk_lo (x : Nat) : -2 * (I : Int) ≤ nk x := by
  unfold nk
  cases hn : nan x
  · simp only [Bool.false_eq_true, if_false]
    have := FloorMath.not_nan_le hn
    unfold Ie.key I
    cases Ie.sg x <;> simp only [Bool.false_eq_true, if_false, if_true, Bool.false_and, Bool.true_and, decide_eq_true_eq] <;> (try split) <;> omega
  · simp only [if_true]; omega
theorem nk_nan {x : Nat} (h : nan x = true) : nk x = -2 * (I : Int) + 1 := by
  unfold nk; rw [if_pos h]
theorem nk_neginf {x : Nat} (h : Ie.rg x = 2047 * 2 ^ 52) (hs : Ie.sg x = true) : nk x = -2 * (I : Int) := by
  have hn : nan x = false := by rw [nan_eq]; exact decide_eq_false (by omega)
  unfold nk Ie.key I
  rw [hn, hs, h]
  simp only [Bool.false_eq_true, if_false, if_true, Bool.true_and, decide_eq_true_eq]
  rw [if_neg (by omega)]
  omega
theorem nk_above {x : Nat} (hn : nan x = false) (h : ¬ (Ie.rg x = 2047 * 2 ^ 52 ∧ Ie.sg x = true)) : -2 * (I : Int) + 2 ≤ nk x := by
  unfold nk Ie.key I
  rw [hn]
  have := FloorMath.not_nan_le hn
  cases hs : Ie.sg x
  · simp only [Bool.false_eq_true, if_false, Bool.false_and]; omega
  · have h' : Ie.rg x ≠ 2047 * 2 ^ 52 := fun hh => h ⟨hh, hs⟩
    simp only [Bool.false_eq_true, if_false, if_true, Bool.true_and, decide_eq_true_eq]
    split <;> omega
theorem nk_num {x : Nat} (hn : nan x = false) : nk x = 2 * Ie.key x - (if Ie.sg x && decide (Ie.rg x = 0) then 1 else 0) := by
  unfold nk; rw [hn]; rfl

theorem nk_zeros {x : Nat} (hn : nan x = false) (hz : zero x = true) : nk x = if neg x then -1 else 0 := by
  rw [nk_num hn, neg_eq]
  rw [zero_eq] at hz
  have h0 := of_decide_eq_true hz
  have hk := (key_eq_zero x).2 h0
  rw [hk, h0]
  cases Ie.sg x <;> rfl

theorem nk_lt {x y : Nat} (hx : nan x = false) (hy : nan y = false) (h : Ie.key x < Ie.key y) : nk x ≤ nk y := by
  rw [nk_num hx, nk_num hy]
  split <;> split <;> omega
theorem nk_eq {x y : Nat} (hx : nan x = false) (hy : nan y = false) (h : Ie.key x = Ie.key y) (hz : ¬ (zero x = true ∧ zero y = true)) : nk x = nk y := by
  rw [nk_num hx, nk_num hy, h]
  rw [zero_key, zero_key] at hz
  simp only [decide_eq_true_eq] at hz
  have h1 : ¬ Ie.rg x = 0 := fun hh => hz ⟨(key_eq_zero x).2 hh, by rw [← h]; exact (key_eq_zero x).2 hh⟩
  have h2 : ¬ Ie.rg y = 0 := fun hh => hz ⟨by rw [h]; exact (key_eq_zero y).2 hh, (key_eq_zero y).2 hh⟩
  simp [h1, h2]

theorem nk_min (x y : Nat) : nk (minV x y) = min (nk x) (nk y) := by
  have lx := nk_lo x
  have ly := nk_lo y
  unfold minV pickV
  rw [isInf_eq, isInf_eq, isNaN_eq, isNaN_eq, isZero_eq, isZero_eq]
  by_cases hA : (decide (Ie.rg x = 2047 * 2 ^ 52) && (Ie.sg x == true) || decide (Ie.rg y = 2047 * 2 ^ 52) && (Ie.sg y == true)) = true
  · rw [if_pos hA]
    have e : nk (D.write (.infinity true)) = -2 * (I : Int) := by
      refine nk_neginf ?_ ?_
      · show Ie.rg (D.word true (2047 * 2 ^ 52)) = _
        rw [D_eq]; exact Ie.rg_word _ _ (by decide)
      · show Ie.sg (D.word true (2047 * 2 ^ 52)) = _
        rw [D_eq]; exact Ie.sg_word _ _ (by decide)
    rw [e]
    simp only [Bool.or_eq_true, Bool.and_eq_true, decide_eq_true_eq, beq_iff_eq] at hA
    rcases hA with ⟨h1, h2⟩ | ⟨h1, h2⟩
    · have := nk_neginf h1 h2; omega
    · have := nk_neginf h1 h2; omega
  · rw [if_neg hA]
    simp only [Bool.or_eq_true, Bool.and_eq_true, decide_eq_true_eq, beq_iff_eq, not_or] at hA
    by_cases hN : (nan x || nan y) = true
    · rw [if_pos hN]
      have e : nk 0x7FF8000000000001 = -2 * (I : Int) + 1 := nk_nan (by decide)
      rw [e]
      cases hx : nan x <;> cases hy : nan y
      · rw [hx, hy] at hN; cases hN
      · have := nk_nan hy; have := nk_above hx hA.1; omega
      · have := nk_nan hx; have := nk_above hy hA.2; omega
      · have := nk_nan hx; have := nk_nan hy; omega
    · rw [if_neg hN]
      have hx : nan x = false := by cases h : nan x <;> simp_all
      have hy : nan y = false := by cases h : nan y <;> simp_all
      by_cases hZ : (zero x && zero y) = true
      · rw [if_pos hZ]
        simp only [Bool.and_eq_true] at hZ
        rw [nk_zeros hx hZ.1, nk_zeros hy hZ.2]
        show nk (if neg x == true then x else y) = _
        cases h1 : neg x
        · simp only [Bool.false_eq_true, if_false, beq_true]
          rw [nk_zeros hy hZ.2]
          cases neg y <;> rfl
        · simp only [if_true, beq_true]
          rw [nk_zeros hx hZ.1, h1]
          cases neg y <;> rfl
      · rw [if_neg hZ]
        simp only [Bool.and_eq_true] at hZ
        show nk (if (D.order x y == some .lt) = true then x else y) = _
        rw [lss_key hx hy]
        by_cases hl : Ie.key x < Ie.key y
        · rw [decide_eq_true hl]
          simp only [if_true]
          have := nk_lt hx hy hl
          omega
        · rw [decide_eq_false hl]
          simp only [Bool.false_eq_true, if_false]
          rcases Int.lt_or_eq_of_le (Int.not_lt.1 hl) with h | h
          · have := nk_lt hy hx h; omega
          · have := nk_eq hx hy h.symm hZ; omega

theorem nk_max (x y : Nat) (hx : nan x = false) (hy : nan y = false) : nk (maxV x y) = max (nk x) (nk y) := by
  unfold maxV pickV
  rw [isInf_eq, isInf_eq, isNaN_eq, isNaN_eq, isZero_eq, isZero_eq]
  have hk : ∀ {z : Nat}, nan z = false → nk z ≤ 2 * (I : Int) := by
    intro z hz
    rw [nk_num hz]
    have := FloorMath.not_nan_le hz
    unfold Ie.key I
    cases Ie.sg z <;> simp only [Bool.false_eq_true, if_false, if_true, Bool.false_and, Bool.true_and, decide_eq_true_eq] <;> (try split) <;> omega
  have kx := hk hx
  have ky := hk hy
  have hinf : ∀ {z : Nat}, Ie.rg z = 2047 * 2 ^ 52 → Ie.sg z = false → nk z = 2 * (I : Int) := by
    intro z h1 h2
    have hn : nan z = false := by rw [nan_eq]; exact decide_eq_false (by omega)
    rw [nk_num hn]
    unfold Ie.key I
    rw [h1, h2]
    simp only [Bool.false_eq_true, if_false, Bool.false_and]
    omega
  by_cases hA : (decide (Ie.rg x = 2047 * 2 ^ 52) && (Ie.sg x == false) || decide (Ie.rg y = 2047 * 2 ^ 52) && (Ie.sg y == false)) = true
  · rw [if_pos hA]
    have e : nk (D.write (.infinity false)) = 2 * (I : Int) := by
      refine hinf ?_ ?_
      · show Ie.rg (D.word false (2047 * 2 ^ 52)) = _
        rw [D_eq]; exact Ie.rg_word _ _ (by decide)
      · show Ie.sg (D.word false (2047 * 2 ^ 52)) = _
        rw [D_eq]; exact Ie.sg_word _ _ (by decide)
    rw [e]
    simp only [Bool.or_eq_true, Bool.and_eq_true, decide_eq_true_eq, beq_iff_eq] at hA
    rcases hA with ⟨h1, h2⟩ | ⟨h1, h2⟩
    · have := hinf h1 h2; omega
    · have := hinf h1 h2; omega
  · rw [if_neg hA, hx, hy]
    simp only [Bool.or_self, Bool.false_eq_true, if_false]
    by_cases hZ : (zero x && zero y) = true
    · rw [if_pos hZ]
      simp only [Bool.and_eq_true] at hZ
      rw [nk_zeros hx hZ.1, nk_zeros hy hZ.2]
      show nk (if neg x == false then x else y) = _
      cases h1 : neg x
      · simp only [if_true, Bool.false_eq_true, if_false, beq_self_eq_true]
        rw [nk_zeros hx hZ.1, h1]
        cases neg y <;> rfl
      · have : (true == false) = false := rfl
        simp only [if_true, this, Bool.false_eq_true, if_false]
        rw [nk_zeros hy hZ.2]
        cases neg y <;> rfl
    · rw [if_neg hZ]
      simp only [Bool.and_eq_true] at hZ
      show nk (if (D.order x y == some .gt) = true then x else y) = _
      rw [gtr_key hx hy]
      by_cases hl : Ie.key y < Ie.key x
      · rw [decide_eq_true hl]
        simp only [if_true]
        have := nk_lt hy hx hl
        omega
      · rw [decide_eq_false hl]
        simp only [Bool.false_eq_true, if_false]
        rcases Int.lt_or_eq_of_le (Int.not_lt.1 hl) with h | h
        · have := nk_lt hx hy h; omega
        · have := nk_eq hx hy h hZ; omega

theorem same_nk (x y : Nat) : same x y = decide (nk x = nk y) := by
  unfold same
  have odd : ∀ {z : Nat}, nan z = false → nk z ≠ -2 * (I : Int) + 1 := by
    intro z hz h
    rw [nk_num hz] at h
    split at h
    · rename_i hc
      simp only [Bool.and_eq_true, decide_eq_true_eq] at hc
      have := (key_eq_zero z).2 hc.2
      have : I = 2047 * 2 ^ 52 := rfl
      omega
    · omega
  cases hx : nan x <;> cases hy : nan y
  · simp only [Bool.false_eq_true, if_false]
    rw [eql_key hx hy, zero_key, nk_num hx, nk_num hy, neg_eq, neg_eq]
    by_cases hk : Ie.key x = Ie.key y
    · by_cases hz : Ie.key x = 0
      · have h1 := (key_eq_zero x).1 hz
        have h2 := (key_eq_zero y).1 (by rw [← hk]; exact hz)
        rw [h1, h2, ← hk, hz]
        cases Ie.sg x <;> cases Ie.sg y <;> decide
      · have h1 : ¬ Ie.rg x = 0 := fun hh => hz ((key_eq_zero x).2 hh)
        have h2 : ¬ Ie.rg y = 0 := fun hh => hz (by rw [hk]; exact (key_eq_zero y).2 hh)
        simp only [hk, h1, h2, decide_false, Bool.and_false, Bool.false_eq_true, if_false, decide_true, Bool.true_and]
        rw [← hk, decide_eq_false hz]; rfl
    · rw [decide_eq_false hk, Bool.false_and]
      symm
      refine decide_eq_false ?_
      split <;> split <;> omega
  · have := nk_nan hy; have := odd hx
    simp only [Bool.false_eq_true, if_false, if_true]
    symm
    exact decide_eq_false (by omega)
  · have := nk_nan hx; have := odd hy
    simp only [if_true]
    symm
    exact decide_eq_false (by omega)
  · have := nk_nan hx; have := nk_nan hy
    simp only [if_true]
    symm
    exact decide_eq_true (by omega)

theorem absorbs (a b : Nat) (ha : nan a = false) (hb : nan b = false) : same (minV a (maxV a b)) a = true := by
  rw [same_nk, nk_min, nk_max a b ha hb]
  exact decide_eq_true (by omega)
end Go.Proofs.Ytnfmpgmkmlmnjaa.MinMax
