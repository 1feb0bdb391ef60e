/-
  Floor and Ceil against truncation, in plain mathematics. No condition.
-/
import Derived.Test.YtnfmpgmkmlmnjaaItg
namespace Go.Proofs.Ytnfmpgmkmlmnjaa.FloorMath
open Fl Ieee Itg

abbrev T : Nat := 4841369599423283200
theorem T_eq : T = 1075 * 2 ^ 52 := by decide

theorem rm_lt (k : Nat) : Ie.rm k < 2 ^ 53 := by
  unfold Ie.rm
  split <;> omega
theorem rq_neg (k : Nat) (h : k < 1075 * 2 ^ 52) : Ie.rq k ≤ -1 := by
  unfold Ie.rq
  split
  · omega
  · have : k / 2 ^ 52 < 1075 := by rw [Nat.div_lt_iff_lt_mul (Nat.two_pow_pos _)]; exact h
    omega
theorem rq_nonneg (k : Nat) (h : 1075 * 2 ^ 52 ≤ k) : 0 ≤ Ie.rq k := by
  unfold Ie.rq
  rw [if_neg (by omega)]
  have : 1075 ≤ k / 2 ^ 52 := by rw [Nat.le_div_iff_mul_le (Nat.two_pow_pos _)]; exact h
  omega
theorem rq_lo (k : Nat) : -1074 ≤ Ie.rq k := by
  unfold Ie.rq; split <;> omega

theorem not_nan_le {x : Nat} (hn : nan x = false) : Ie.rg x ≤ 2047 * 2 ^ 52 := by
  rw [nan_eq] at hn
  have := of_decide_eq_false hn
  omega

/-- Whole numbers of great magnitude and infinities stay. -/
theorem itg_big (way : Toward) (x : Nat) (hx : x < 2 ^ 64) (hn : nan x = false) (hb : 1075 * 2 ^ 52 ≤ Ie.rg x) : D.write ((D.read x).integral way) = x := by
  have hle := not_nan_le hn
  rw [D_eq, Ie.read_eq]
  by_cases h : Ie.rg x < 2047 * 2 ^ 52
  · rw [if_pos h]
    have hp := rq_nonneg _ hb
    have e : (Datum.number (Ie.sg x) (Ie.rm (Ie.rg x)) (Ie.rq (Ie.rg x))).integral way = .number (Ie.sg x) (Ie.rm (Ie.rg x) * 2 ^ (Ie.rq (Ie.rg x)).toNat) 0 := by
      unfold Datum.integral
      dsimp only
      have e0 : (-Ie.rq (Ie.rg x)).toNat = 0 := by omega
      rw [e0, cut_gap, Nat.pow_zero, Nat.shiftLeft_eq]
      unfold cutg
      rw [Nat.mod_one, Nat.div_one]
      cases way <;> simp
    rw [e, Ie.write_number]
    have hs := Ie.eqv_shift (Ie.rm (Ie.rg x)) (Ie.rq (Ie.rg x)).toNat (Ie.rq (Ie.rg x))
    have e2 : Ie.rq (Ie.rg x) - ((Ie.rq (Ie.rg x)).toNat : Int) = 0 := by omega
    rw [e2] at hs
    rw [← Ie.eqv_rung hs, Ie.rung_of _ hle]
    exact Ie.word_of x hx
  · rw [if_neg h, if_pos (by omega)]
    have e : Ie.rg x = 2047 * 2 ^ 52 := by omega
    show D.word (Ie.sg x) (2047 * 2 ^ 52) = x
    rw [← e]
    exact Ie.word_of x hx

/-- The parts of a float of magnitude below 2 ^ 52. -/
structure Small (x : Nat) (s : Bool) (m : Nat) (p : Int) (d q : Nat) : Prop where
  read : D.read x = .number s m p
  sg : Ie.sg x = s
  rung : Ie.rung m p = Ie.rg x
  mlt : m < 2 ^ 53
  plo : -1074 ≤ p
  pd : p = -(d : Int)
  d1 : 1 ≤ d
  q_eq : q = m / 2 ^ d
  m_eq : m = Ie.rm (Ie.rg x)
  p_eq : p = Ie.rq (Ie.rg x)
  le : Ie.rg x ≤ 2047 * 2 ^ 52

theorem small_of (x : Nat) (hs : Ie.rg x < 1075 * 2 ^ 52) : ∃ s m p d q, Small x s m p d q := by
  have hp := rq_neg _ hs
  refine ⟨Ie.sg x, Ie.rm (Ie.rg x), Ie.rq (Ie.rg x), (-Ie.rq (Ie.rg x)).toNat, _, ?_, rfl, ?_, rm_lt _, rq_lo _, by omega, by omega, rfl, rfl, rfl, by omega⟩
  · rw [D_eq, Ie.read_eq, if_pos (by omega)]
  · exact Ie.rung_of _ (by omega)

variable {x : Nat} {s : Bool} {m : Nat} {p : Int} {d q : Nat}

theorem Small.integral (h : Small x s m p d q) (way : Toward) : (D.read x).integral way = .number s (cutg way s m (2 ^ d)) 0 := by
  rw [h.read]
  unfold Datum.integral
  dsimp only
  have e1 : p.toNat = 0 := by have := h.pd; have := h.d1; omega
  have e2 : (-p).toNat = d := by have := h.pd; omega
  rw [e1, e2, Nat.shiftLeft_zero, cut_gap]

theorem Small.qlt (h : Small x s m p d q) : q < 2 ^ 52 := by
  have h1 := h.mlt
  have h2 : 2 ^ 1 ≤ 2 ^ d := Nat.pow_le_pow_right (by omega) h.d1
  rw [h.q_eq]
  rw [Nat.div_lt_iff_lt_mul (Nat.two_pow_pos _)]
  have h3 : 2 ^ 52 * 2 ^ 1 ≤ 2 ^ 52 * 2 ^ d := Nat.mul_le_mul_left _ h2
  have e : (2 : Nat) ^ 53 = 2 ^ 52 * 2 ^ 1 := by decide
  rw [e] at h1
  exact Nat.lt_of_lt_of_le h1 h3

theorem log_small {k : Nat} (h : k < 2 ^ 53) : (0 : Int) + k.log2 ≤ 1023 := by
  by_cases h0 : k = 0
  · subst h0; decide
  · have := (Nat.log2_lt h0).2 h
    omega

/-- A whole number below 2 ^ 53 as a float. -/
theorem whole_repr {k : Nat} (h : k < 2 ^ 53) : Ie.eqv k 0 (Ie.rm (Ie.rung k 0)) (Ie.rq (Ie.rung k 0)) ∧ Ie.rung k 0 < 2047 * 2 ^ 52 :=
  Ie.exact_repr h (by decide) (log_small h)

theorem whole_zero {k : Nat} (h : k < 2 ^ 53) : Ie.rung k 0 = 0 ↔ k = 0 := by
  constructor
  · intro h0
    have := (whole_repr h).1
    rw [h0] at this
    have e : Ie.rm 0 = 0 := by decide
    rw [e, Ie.eqv_at _ _ _ _ (-1074) (by decide) (by decide)] at this
    have z := (Ie.at_zero 0 (Ie.rq 0) (-1074)).2 rfl
    rw [z] at this
    exact (Ie.at_zero k 0 (-1074)).1 this
  · intro h0; subst h0; unfold Ie.rung; rw [if_pos rfl]

/-- Truncation and the float lie apart just where something is cut off. -/
theorem Small.le_rung (h : Small x s m p d q) : Ie.rung q 0 ≤ Ie.rg x ∧ (Ie.rung q 0 = Ie.rg x ↔ m % 2 ^ d = 0) := by
  have hdm := Nat.div_add_mod m (2 ^ d)
  rw [← h.q_eq] at hdm
  have a1 : Ie.at_ q 0 p = 2 ^ d * q := by
    unfold Ie.at_
    have e : (0 - p).toNat = d := by have := h.pd; omega
    rw [e, Nat.mul_comm]
  have a2 : Ie.at_ m p p = m := by
    unfold Ie.at_
    have e : (p - p).toNat = 0 := by omega
    rw [e, Nat.pow_zero, Nat.mul_one]
  have hp0 : p ≤ 0 := by have := h.pd; omega
  have hle : Ie.le2 q 0 m p := by
    rw [Ie.le2_at _ _ _ _ p hp0 (Int.le_refl _), a1, a2]
    omega
  have r1 := Ie.rung_mono hle
  rw [h.rung] at r1
  refine ⟨r1, ?_, ?_⟩
  · intro he
    have hq53 : q < 2 ^ 53 := by have := h.qlt; omega
    have hrep := (whole_repr hq53).1
    rw [he] at hrep
    rw [← h.m_eq, ← h.p_eq, Ie.eqv_at _ _ _ _ p hp0 (Int.le_refl _), a1, a2] at hrep
    omega
  · intro h0
    have : Ie.eqv q 0 m p := by
      rw [Ie.eqv_at _ _ _ _ p hp0 (Int.le_refl _), a1, a2]
      omega
    rw [Ie.eqv_rung this, h.rung]

theorem Small.trunc (h : Small x s m p d q) : floatToIntVal .f64 x .i64 = some (if s then -(q : Int) else (q : Int)) := by
  unfold floatToIntVal
  have e : (FloatKind.f64.decode x).toInt .zero = some (if s then -(q : Int) else (q : Int)) := by
    show (D.read x).toInt .zero = _
    unfold Datum.toInt
    rw [h.integral .zero]
    simp only [cutg, Bool.toNat_false, Nat.add_zero, signed, Nat.shiftLeft_zero, ← h.q_eq]
  rw [e]
  have hq := h.qlt
  have i1 : IntKind.i64.min = -9223372036854775808 := rfl
  have i2 : IntKind.i64.max = 9223372036854775807 := rfl
  simp only [i1, i2]
  rw [if_pos]
  cases s <;> simp only [if_true, if_false, Bool.false_eq_true] <;> omega

theorem ofInt (s : Bool) (q : Nat) : floatOfInt .f64 (if s then -(q : Int) else (q : Int)) = D.word (s && decide (q ≠ 0)) (Ie.rung q 0) := by
  show D.write (.number _ _ 0) = _
  rw [D_eq, Ie.write_number]
  cases s
  · simp only [Bool.false_eq_true, if_false, Bool.false_and]
    have : decide ((q : Int) < 0) = false := decide_eq_false (by omega)
    rw [this, Int.natAbs_natCast]
  · simp only [if_true, Bool.true_and]
    have e1 : (-(q : Int)).natAbs = q := by omega
    have e2 : decide (-(q : Int) < 0) = decide (q ≠ 0) := decide_eq_decide.2 (by omega)
    rw [e1, e2]

theorem nan_word {s : Bool} {k : Nat} (h : k ≤ 2047 * 2 ^ 52) : nan (D.word s k) = false := by
  rw [nan_eq, D_eq, Ie.rg_word _ _ (by omega)]
  exact decide_eq_false (by omega)
theorem zero_word {s : Bool} {k : Nat} (h : k ≤ 2047 * 2 ^ 52) : zero (D.word s k) = decide (k = 0) := by
  rw [zero_eq, D_eq, Ie.rg_word _ _ (by omega)]
theorem keyOf_word {s : Bool} {k : Nat} (h : k ≤ 2047 * 2 ^ 52) : Ie.key (D.word s k) = if s then -(k : Int) else (k : Int) := by
  rw [D_eq]; exact Ie.key_word s k (by omega)

theorem Small.key (h : Small x s m p d q) : Ie.key x = if s then -(Ie.rg x : Int) else (Ie.rg x : Int) := by
  unfold Ie.key; rw [h.sg]

theorem Small.not_nan (h : Small x s m p d q) : nan x = false := by
  unfold nan; rw [h.read]; rfl

/-- 't > x' and 't < x' for t the truncation. -/
theorem Small.gt (h : Small x s m p d q) : (D.order (D.word (s && decide (q ≠ 0)) (Ie.rung q 0)) x == some .gt) = (s && decide (m % 2 ^ d ≠ 0)) := by
  have hr := Ie.rung_le q 0
  rw [gtr_key (nan_word hr) h.not_nan, keyOf_word hr, h.key]
  obtain ⟨l1, l2⟩ := h.le_rung
  have hz := whole_zero (k := q) (by have := h.qlt; omega)
  generalize Ie.rung q 0 = k at *
  generalize Ie.rg x = l at *
  generalize m % 2 ^ d = r at *
  cases s
  · simp only [Bool.false_and, Bool.false_eq_true, if_false]
    exact decide_eq_false (by omega)
  · simp only [Bool.true_and, if_true]
    by_cases hq : q = 0
    · have hk := hz.2 hq
      simp only [hq, ne_eq, not_true_eq_false, decide_false, Bool.false_eq_true, if_false]
      exact decide_eq_decide.2 (by omega)
    · simp only [hq, ne_eq, not_false_eq_true, decide_true, if_true]
      exact decide_eq_decide.2 (by omega)
theorem Small.lt (h : Small x s m p d q) : (D.order (D.word (s && decide (q ≠ 0)) (Ie.rung q 0)) x == some .lt) = (!s && decide (m % 2 ^ d ≠ 0)) := by
  have hr := Ie.rung_le q 0
  rw [lss_key (nan_word hr) h.not_nan, keyOf_word hr, h.key]
  obtain ⟨l1, l2⟩ := h.le_rung
  have hz := whole_zero (k := q) (by have := h.qlt; omega)
  generalize Ie.rung q 0 = k at *
  generalize Ie.rg x = l at *
  generalize m % 2 ^ d = r at *
  cases s
  · simp only [Bool.false_and, Bool.false_eq_true, if_false, Bool.not_false, Bool.true_and]
    exact decide_eq_decide.2 (by omega)
  · simp only [Bool.true_and, Bool.not_true, Bool.false_and]
    refine decide_eq_false ?_
    by_cases hq : q = 0
    · have hk := hz.2 hq
      simp only [hq, ne_eq, not_true_eq_false, decide_false, Bool.false_eq_true, if_false, if_true]
      omega
    · simp only [hq, ne_eq, not_false_eq_true, decide_true, if_true]
      omega

/-- 'x * 0' keeps the sign. -/
theorem Small.times_zero (h : Small x s m p d q) (r : Nat) (hr : FR .mul x 0 r) : r = D.word s 0 := by
  have e : floatBits .mul .f64 x 0 = some (D.word s 0) := by
    show D.mul x 0 = _
    unfold Format.mul
    rw [h.read, read_zero]
    have : (Datum.number s m p).product (.number false 0 (-1074)) = some (.number s 0 (p + -1074)) := by
      cases s <;> simp [Datum.product]
    rw [this]
    show some (D.write _) = _
    rw [D_eq, Ie.write_number]
    have : Ie.rung 0 (p + -1074) = 0 := by unfold Ie.rung; rw [if_pos rfl]
    rw [this]
  unfold FR at hr
  rw [e] at hr
  exact hr

theorem read_whole (s : Bool) {k : Nat} (h : k < 2 ^ 53) : D.read (D.word s (Ie.rung k 0)) = .number s (Ie.rm (Ie.rung k 0)) (Ie.rq (Ie.rung k 0)) := by
  rw [D_eq]; exact Ie.read_word s _ (whole_repr h).2

/-- '-k - 1'. -/
theorem minus_one {k : Nat} (h : k < 2 ^ 52) (r : Nat) (hr : FR .sub (D.word (decide (k ≠ 0)) (Ie.rung k 0)) 4607182418800017408 r) : r = D.word true (Ie.rung (k + 1) 0) := by
  have hk : k < 2 ^ 53 := by omega
  have e : floatBits .sub .f64 (D.word (decide (k ≠ 0)) (Ie.rung k 0)) 4607182418800017408 = some (D.word true (Ie.rung (k + 1) 0)) := by
    show D.sub _ _ = _
    unfold Format.sub
    rw [read_whole _ hk, read_one]
    have hrep := (whole_repr hk).1
    have hlo := rq_lo (Ie.rung k 0)
    generalize Ie.rm (Ie.rung k 0) = m at *
    generalize Ie.rq (Ie.rung k 0) = p at *
    simp only [Datum.opposite, Datum.sum]
    generalize hb : min p (-52) = b at *
    rw [Ie.eqv_at _ _ _ _ b (by omega) (by omega)] at hrep
    rw [Ie.signed_at, Ie.signed_at, ← hrep]
    have e1 : Ie.at_ 4503599627370496 (-52) b = Ie.at_ 1 0 b := by
      have := Ie.eqv_shift 1 52 0
      rw [Ie.eqv_at _ _ _ _ b (by omega) (by omega)] at this
      exact this.symm
    rw [e1]
    have e2 : Ie.at_ (k + 1) 0 b = Ie.at_ k 0 b + Ie.at_ 1 0 b := by unfold Ie.at_; rw [Nat.add_mul]
    have e3 : 0 < Ie.at_ 1 0 b := by unfold Ie.at_; rw [Nat.one_mul]; exact Nat.two_pow_pos _
    have e4 : Ie.at_ k 0 b = 0 ↔ k = 0 := Ie.at_zero _ _ _
    have hsum : (if decide (k ≠ 0) then -(Ie.at_ k 0 b : Int) else (Ie.at_ k 0 b : Int)) + (if !false then -(Ie.at_ 1 0 b : Int) else (Ie.at_ 1 0 b : Int)) = -(Ie.at_ (k + 1) 0 b : Int) := by
      rw [e2]
      by_cases hk0 : k = 0
      · have := e4.2 hk0
        simp [hk0]
        rw [hk0] at this
        omega
      · simp [hk0]
        omega
    rw [hsum]
    have e5 : ¬ (-(Ie.at_ (k + 1) 0 b : Int) = 0) := by omega
    have e6 : (-(Ie.at_ (k + 1) 0 b : Int) < 0) := by omega
    have e7 : (-(Ie.at_ (k + 1) 0 b : Int)).natAbs = Ie.at_ (k + 1) 0 b := by omega
    rw [if_neg e5, e7]
    show some (D.write _) = _
    rw [D_eq, Ie.write_number, decide_eq_true e6]
    have : Ie.rung (Ie.at_ (k + 1) 0 b) b = Ie.rung (k + 1) 0 := by
      refine Ie.eqv_rung ?_
      rw [Ie.eqv_at _ _ _ _ b (by omega) (by omega)]
      unfold Ie.at_
      have : (b - b).toNat = 0 := by omega
      rw [this, Nat.pow_zero, Nat.mul_one]
    rw [this]
  unfold FR at hr
  rw [e] at hr
  exact hr

/-- Floor of a small float. -/
theorem Small.floor (h : Small x s m p d q) : D.write ((D.read x).integral .down) = D.word s (Ie.rung (q + (s && decide (m % 2 ^ d ≠ 0)).toNat) 0) := by
  rw [h.integral, D_eq, Ie.write_number]
  have : cutg .down s m (2 ^ d) = q + (s && decide (m % 2 ^ d ≠ 0)).toNat := by
    unfold cutg
    rw [h.q_eq]
    congr 2
    cases s
    · rfl
    · simp only [Bool.true_and]
      by_cases h0 : m % 2 ^ d = 0 <;> simp [h0]
  rw [this]
theorem Small.ceil (h : Small x s m p d q) : D.write ((D.read x).integral .up) = D.word s (Ie.rung (q + (!s && decide (m % 2 ^ d ≠ 0)).toNat) 0) := by
  rw [h.integral, D_eq, Ie.write_number]
  have : cutg .up s m (2 ^ d) = q + (!s && decide (m % 2 ^ d ≠ 0)).toNat := by
    unfold cutg
    rw [h.q_eq]
    congr 2
    cases s
    · simp only [Bool.not_false, Bool.true_and]
      by_cases h0 : m % 2 ^ d = 0 <;> simp [h0]
    · rfl
  rw [this]

/-- What the walk of the truncation model needs, for a small float. -/
theorem model_small (x : Nat) (hs : Ie.rg x < 1075 * 2 ^ 52) : ∃ (n : Int) (t F : Nat), floatToIntVal .f64 x .i64 = some n ∧ floatOfInt .f64 n = t ∧ D.write ((D.read x).integral .down) = F ∧
    (((D.order t x == some .gt) = false ∧ ((zero t = true ∧ ∀ r, FR .mul x 0 r → r = F) ∨ (zero t = false ∧ t = F))) ∨
     ((D.order t x == some .gt) = true ∧ ∀ r, FR .sub t 4607182418800017408 r → r = F ∧ zero r = false)) := by
  obtain ⟨s, m, p, d, q, h⟩ := small_of x hs
  refine ⟨_, _, _, h.trunc, rfl, rfl, ?_⟩
  rw [ofInt, h.gt, h.floor]
  have hq := h.qlt
  have hq53 : q < 2 ^ 53 := by omega
  cases hb : (s && decide (m % 2 ^ d ≠ 0)) with
  | false =>
    left
    refine ⟨rfl, ?_⟩
    simp only [Bool.toNat_false, Nat.add_zero]
    rw [zero_word (Ie.rung_le q 0)]
    by_cases h0 : q = 0
    · left
      have hz := (whole_zero hq53).2 h0
      refine ⟨decide_eq_true hz, fun r hr => ?_⟩
      rw [h.times_zero r hr, hz]
    · right
      refine ⟨decide_eq_false (fun hz => h0 ((whole_zero hq53).1 hz)), ?_⟩
      simp [h0]
  | true =>
    right
    refine ⟨rfl, fun r hr => ?_⟩
    have hst : s = true := by cases s <;> simp at hb ⊢
    subst hst
    simp only [Bool.true_and] at hr
    have := minus_one hq r hr
    simp only [Bool.toNat_true]
    refine ⟨this, ?_⟩
    rw [this, zero_word (Ie.rung_le _ 0)]
    exact decide_eq_false (fun hz => by have := (whole_zero (k := q + 1) (by omega)).1 hz; omega)

/-! ### the tests against 2 ^ 52 -/
theorem key_T : Ie.key 4841369599423283200 = 4841369599423283200 := by decide
theorem key_T' : Ie.key 14064741636278059008 = -4841369599423283200 := by decide
theorem nan_T : nan 4841369599423283200 = false := by decide
theorem nan_T' : nan 14064741636278059008 = false := by decide
theorem ge_T (x : Nat) (hn : nan x = false) : (D.order x 4841369599423283200 == some .gt || D.order x 4841369599423283200 == some .eq) = decide (4841369599423283200 ≤ Ie.key x) := by
  rw [gtr_key hn nan_T, eql_key hn nan_T, key_T, ← Bool.decide_or]
  exact decide_eq_decide.2 (by omega)
theorem le_T (x : Nat) (hn : nan x = false) : (D.order x 14064741636278059008 == some .lt || D.order x 14064741636278059008 == some .eq) = decide (Ie.key x ≤ -4841369599423283200) := by
  rw [lss_key hn nan_T', eql_key hn nan_T', key_T', ← Bool.decide_or]
  exact decide_eq_decide.2 (by omega)
theorem key_abs (x : Nat) : (Ie.rg x : Int) = if Ie.key x < 0 then -Ie.key x else Ie.key x := by
  unfold Ie.key
  split <;> split <;> omega
end Go.Proofs.Ytnfmpgmkmlmnjaa.FloorMath
