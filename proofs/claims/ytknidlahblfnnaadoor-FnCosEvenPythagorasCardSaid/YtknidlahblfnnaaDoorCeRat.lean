/-
  Finite floats as rational numbers: a sum, a difference, a product is within M / 2^52 of the exact one. Conditions: M bounds the exact one, and M is at most 2^40.
-/
import Derived.Test.YtknidlahblfnnaaDoorCeErr
namespace Go.Proofs.YtknidlahblfnnaaDoor.Ce
open Fl Small2 Mono Ieee

theorem n74_ex : ∃ n : Nat, n = 1074 := ⟨1074, rfl⟩
/-- 1074, kept closed: no power of two with that exponent is to be computed. -/
noncomputable def n74 : Nat := Classical.choose n74_ex
theorem n74_eq : n74 = 1074 := Classical.choose_spec n74_ex
noncomputable def Tn : Nat := 2 ^ n74
noncomputable def tau : Rat := 1 / (Tn : Rat)
theorem Tn_pos : 0 < Tn := Nat.two_pow_pos _
theorem Tn_rat : (0 : Rat) < (Tn : Rat) := by
  have := Rat.natCast_lt_natCast.2 Tn_pos
  simpa using this
theorem tau_mul : tau * (Tn : Rat) = 1 := by
  have h := Tn_rat
  unfold tau
  generalize (Tn : Rat) = N at *
  grind
theorem tau_pos : 0 < tau := by
  have h := Tn_rat
  have h1 := tau_mul
  rcases (Rat.le_total : tau ≤ 0 ∨ 0 ≤ tau) with h2 | h2
  · have := Rat.mul_nonneg (a := -tau) (b := (Tn : Rat)) (by grind) (by grind)
    grind
  · by_cases h0 : tau = 0
    · rw [h0, Rat.zero_mul] at h1
      grind
    · grind
theorem tau_small : tau ≤ 1 / 2 ^ 200 := by
  have h1 := tau_mul
  have h2 : ((2 ^ 200 : Nat) : Rat) ≤ (Tn : Rat) := Rat.natCast_le_natCast.2 (Nat.pow_le_pow_right (by omega) (by rw [n74_eq]; omega))
  have h3 := Rat.mul_le_mul_of_nonneg_left h2 (Rat.le_of_lt tau_pos)
  have h4 : ((2 ^ 200 : Nat) : Rat) = 2 ^ 200 := by rw [Rat.natCast_pow]; rfl
  rw [h1, h4] at h3
  generalize tau = t at *
  have : (0 : Rat) < 2 ^ 200 := by decide +kernel
  grind
/-- The value of a finite float. -/
noncomputable def val (x : Nat) : Rat := (V x : Rat) * tau
theorem natAbs_rat {v : Int} {B : Rat} (h1 : (v : Rat) ≤ B) (h2 : -B ≤ (v : Rat)) : ((v.natAbs : Nat) : Rat) ≤ B := by
  rcases Int.le_total 0 v with h | h
  · have : ((v.natAbs : Nat) : Int) = v := by omega
    rw [← Rat.intCast_natCast, this]
    exact h1
  · have : ((v.natAbs : Nat) : Int) = -v := by omega
    rw [← Rat.intCast_natCast, this, Rat.intCast_neg]
    grind
theorem log_bound {v : Int} {c n : Nat} (h : v.natAbs ≤ 2 ^ c * 2 ^ n) (h0 : v ≠ 0) : v.natAbs.log2 ≤ c + n := by
  have : v.natAbs < 2 ^ (c + n + 1) := by
    rw [← Nat.pow_add] at h
    exact Nat.lt_of_le_of_lt h (Nat.pow_lt_pow_right (by omega) (by omega))
  have := (Nat.log2_lt (by omega)).2 this
  omega
theorem lb1 {v : Int} (h : v.natAbs ≤ 2 ^ 40 * Tn) (h0 : v ≠ 0) : v.natAbs.log2 ≤ 40 + n74 := log_bound (c := 40) (n := n74) h h0
theorem lb2 {v : Int} (h : v.natAbs ≤ 2 ^ 40 * Tn * Tn) (h0 : v ≠ 0) : v.natAbs.log2 ≤ 40 + n74 + n74 := by
  unfold Tn at h
  rw [← Nat.pow_add] at h
  exact log_bound (c := 40 + n74) (n := n74) h h0
theorem round74 {r : Nat} {v : Int} {M : Rat} (hk : Ie.key r = K (-1074) v) (h1 : (v : Rat) * tau ≤ M) (h2 : -M ≤ (v : Rat) * tau) (hM : M ≤ 2 ^ 40) :
    fin r = true ∧ val r - (v : Rat) * tau ≤ M / 2 ^ 53 ∧ -(M / 2 ^ 53) ≤ val r - (v : Rat) * tau := by
  have hT := Tn_rat
  have hm := tau_mul
  have e : (v : Rat) = (v : Rat) * tau * (Tn : Rat) := by rw [Rat.mul_assoc, hm, Rat.mul_one]
  have b1 := Rat.mul_le_mul_of_nonneg_right h1 (Rat.le_of_lt hT)
  have b2 := Rat.mul_le_mul_of_nonneg_right h2 (Rat.le_of_lt hT)
  rw [← e] at b1 b2
  have b3 : ((v.natAbs : Nat) : Rat) ≤ M * (Tn : Rat) := natAbs_rat b1 (by rw [Rat.neg_mul] at b2; exact b2)
  have b4 := Rat.mul_le_mul_of_nonneg_right hM (Rat.le_of_lt hT)
  have b5 : v.natAbs ≤ 2 ^ 40 * Tn := by
    have : ((v.natAbs : Nat) : Rat) ≤ ((2 ^ 40 * Tn : Nat) : Rat) := by
      rw [Rat.natCast_mul, Rat.natCast_pow]
      exact Rat.le_trans b3 b4
    exact Rat.natCast_le_natCast.1 this
  have hs : v ≠ 0 → -1074 + (v.natAbs.log2 : Int) ≤ 1022 := fun h0 => by
    have := lb1 b5 h0
    rw [n74_eq] at this
    omega
  refine ⟨fin_key hk hs, ?_⟩
  have hV := V_W r
  rw [hk, Wk_K hs] at hV
  obtain ⟨g1, g2⟩ := err74 v.natAbs
  have i1 : 2 ^ 53 * V r ≤ 2 ^ 53 * v + (v.natAbs : Int) ∧ 2 ^ 53 * v ≤ 2 ^ 53 * V r + (v.natAbs : Int) := by
    rw [hV]
    generalize A v.natAbs (-1074) = a at *
    split <;> omega
  have j1 := Rat.intCast_le_intCast.2 i1.1
  have j2 := Rat.intCast_le_intCast.2 i1.2
  rw [Rat.intCast_mul, Rat.intCast_add, Rat.intCast_mul, Rat.intCast_natCast] at j1
  rw [Rat.intCast_mul, Rat.intCast_add, Rat.intCast_mul, Rat.intCast_natCast] at j2
  have tp := Rat.le_of_lt tau_pos
  have k1 := Rat.mul_le_mul_of_nonneg_right j1 tp
  have k2 := Rat.mul_le_mul_of_nonneg_right j2 tp
  have b6 := Rat.mul_le_mul_of_nonneg_right b3 tp
  have e2 : M * (Tn : Rat) * tau = M := by rw [Rat.mul_assoc, Rat.mul_comm (Tn : Rat) tau, hm, Rat.mul_one]
  rw [e2] at b6
  unfold val
  have c53 : (((2 : Int) ^ 53 : Int) : Rat) = 2 ^ 53 := by decide +kernel
  rw [c53] at k1 k2
  generalize ((v.natAbs : Nat) : Rat) = a at *
  generalize (V r : Rat) = R at *
  generalize (v : Rat) = w at *
  generalize tau = t at *
  grind
theorem add_val {x y r : Nat} {M : Rat} (hx : fin x = true) (hy : fin y = true) (h : FR .add x y r) (h1 : val x + val y ≤ M) (h2 : -M ≤ val x + val y) (hM : M ≤ 2 ^ 40) :
    fin r = true ∧ val r - (val x + val y) ≤ M / 2 ^ 53 ∧ -(M / 2 ^ 53) ≤ val r - (val x + val y) := by
  have e : ((V x + V y : Int) : Rat) * tau = val x + val y := by rw [Rat.intCast_add]; unfold val; grind
  have := round74 (add_key hx hy h).1 (M := M) (by rw [e]; exact h1) (by rw [e]; exact h2) hM
  rwa [e] at this
theorem sub_val {x y r : Nat} {M : Rat} (hx : fin x = true) (hy : fin y = true) (h : FR .sub x y r) (h1 : val x - val y ≤ M) (h2 : -M ≤ val x - val y) (hM : M ≤ 2 ^ 40) :
    fin r = true ∧ val r - (val x - val y) ≤ M / 2 ^ 53 ∧ -(M / 2 ^ 53) ≤ val r - (val x - val y) := by
  have e : ((V x - V y : Int) : Rat) * tau = val x - val y := by rw [Rat.intCast_sub]; unfold val; grind
  have := round74 (sub_key hx hy h).1 (M := M) (by rw [e]; exact h1) (by rw [e]; exact h2) hM
  rwa [e] at this
theorem mul_val {x y r : Nat} {M : Rat} (hx : fin x = true) (hy : fin y = true) (h : FR .mul x y r) (h1 : val x * val y ≤ M) (h2 : -M ≤ val x * val y) (hM : M ≤ 2 ^ 40) (hM2 : 1 / 2 ^ 100 ≤ M) :
    fin r = true ∧ val r - val x * val y ≤ M / 2 ^ 52 ∧ -(M / 2 ^ 52) ≤ val r - val x * val y := by
  have hT := Tn_rat
  have hm := tau_mul
  have tp := Rat.le_of_lt tau_pos
  have hk := (mul_key hx hy h).1
  obtain ⟨v, hv⟩ : ∃ v, V x * V y = v := ⟨_, rfl⟩
  rw [hv] at hk
  have e : val x * val y = (v : Rat) * tau * tau := by rw [← hv, Rat.intCast_mul]; unfold val; grind
  rw [e] at h1 h2 ⊢
  have e1 : (v : Rat) = (v : Rat) * tau * tau * (Tn : Rat) * (Tn : Rat) := by
    have : (v : Rat) * tau * tau * (Tn : Rat) * (Tn : Rat) = (v : Rat) * (tau * (Tn : Rat)) * (tau * (Tn : Rat)) := by grind
    rw [this, hm, Rat.mul_one, Rat.mul_one]
  have b1 := Rat.mul_le_mul_of_nonneg_right (Rat.mul_le_mul_of_nonneg_right h1 (Rat.le_of_lt hT)) (Rat.le_of_lt hT)
  have b2 := Rat.mul_le_mul_of_nonneg_right (Rat.mul_le_mul_of_nonneg_right h2 (Rat.le_of_lt hT)) (Rat.le_of_lt hT)
  rw [← e1] at b1 b2
  have b3 : ((v.natAbs : Nat) : Rat) ≤ M * (Tn : Rat) * (Tn : Rat) := natAbs_rat b1 (by rw [Rat.neg_mul, Rat.neg_mul] at b2; exact b2)
  have b4 := Rat.mul_le_mul_of_nonneg_right (Rat.mul_le_mul_of_nonneg_right hM (Rat.le_of_lt hT)) (Rat.le_of_lt hT)
  have b5 : v.natAbs ≤ 2 ^ 40 * Tn * Tn := by
    have : ((v.natAbs : Nat) : Rat) ≤ ((2 ^ 40 * Tn * Tn : Nat) : Rat) := by
      rw [Rat.natCast_mul, Rat.natCast_mul, Rat.natCast_pow]
      exact Rat.le_trans b3 b4
    exact Rat.natCast_le_natCast.1 this
  have hs : v ≠ 0 → -2148 + (v.natAbs.log2 : Int) ≤ 1022 := fun h0 => by
    have := lb2 b5 h0
    rw [n74_eq] at this
    omega
  refine ⟨fin_key hk hs, ?_⟩
  have hV := V_W r
  rw [hk, Wk_K hs] at hV
  obtain ⟨g1, g2⟩ := err2148 v.natAbs n74 n74_eq
  have i1 : 2 ^ 53 * (V r * (Tn : Int)) ≤ 2 ^ 53 * v + (v.natAbs : Int) + 2 ^ 52 * (Tn : Int) ∧ 2 ^ 53 * v ≤ 2 ^ 53 * (V r * (Tn : Int)) + (v.natAbs : Int) + 2 ^ 52 * (Tn : Int) := by
    have hTn : (2 : Nat) ^ n74 = Tn := rfl
    rw [hTn] at g1 g2
    rw [hV]
    generalize Tn = N at *
    have q : (((A v.natAbs (-2148) * N : Nat)) : Int) = (A v.natAbs (-2148) : Int) * (N : Int) := Int.natCast_mul _ _
    generalize hX : A v.natAbs (-2148) * N = X at *
    split
    · rw [Int.neg_mul, ← q]; omega
    · rw [← q]; omega
  have j1 := Rat.intCast_le_intCast.2 i1.1
  have j2 := Rat.intCast_le_intCast.2 i1.2
  simp only [Rat.intCast_mul, Rat.intCast_add, Rat.intCast_natCast] at j1 j2
  have tp2 : 0 ≤ tau * tau := Rat.mul_nonneg tp tp
  have k1 := Rat.mul_le_mul_of_nonneg_right j1 tp2
  have k2 := Rat.mul_le_mul_of_nonneg_right j2 tp2
  have b6 := Rat.mul_le_mul_of_nonneg_right b3 tp2
  have e2 : M * (Tn : Rat) * (Tn : Rat) * (tau * tau) = M := by
    have : M * (Tn : Rat) * (Tn : Rat) * (tau * tau) = M * (tau * (Tn : Rat)) * (tau * (Tn : Rat)) := by grind
    rw [this, hm, Rat.mul_one, Rat.mul_one]
  rw [e2] at b6
  have ts := tau_small
  unfold val
  have c53 : (((2 : Int) ^ 53 : Int) : Rat) = 2 ^ 53 := by decide +kernel
  have c52 : (((2 : Int) ^ 52 : Int) : Rat) = 2 ^ 52 := by decide +kernel
  rw [c53, c52] at k1 k2
  have f1 : (2 ^ 53 : Rat) * ((V r : Rat) * (Tn : Rat)) * (tau * tau) = 2 ^ 53 * ((V r : Rat) * tau) * (tau * (Tn : Rat)) := by grind
  have f2 : (2 ^ 52 : Rat) * (Tn : Rat) * (tau * tau) = 2 ^ 52 * tau * (tau * (Tn : Rat)) := by grind
  rw [hm, Rat.mul_one] at f1 f2
  generalize ((v.natAbs : Nat) : Rat) = a at *
  generalize (V r : Rat) = R at *
  generalize (v : Rat) = w at *
  generalize (Tn : Rat) = N at *
  generalize tau = t at *
  grind
end Go.Proofs.YtknidlahblfnnaaDoor.Ce
