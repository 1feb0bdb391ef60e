/-
  How far a rounded sum or product is from the exact one, over Rat. No condition beyond sizes.
-/
import Derived.Test.YtknidlahblfnnaaDoorCeM
import Derived.Test.YtknidlahblfnnaaDoorCePoly
namespace Go.Proofs.YtknidlahblfnnaaDoor.Ce
open Fl Small2 Mono Ieee

theorem rung_fin {m : Nat} {p : Int} (hm : m ≠ 0) (hl : p + m.log2 ≤ 1022) :
    Ie.rung m p < 2047 * 2 ^ 52 ∧ Ie.at_ (Ie.rm (Ie.rung m p)) (Ie.rq (Ie.rung m p)) (-1074) = Ie.rp m p (Ie.lastOf m p) * 2 ^ (Ie.lastOf m p + 1074).toNat := by
  have k1 := Ie.kept_le m p hm
  have k2 := Ie.kept_ge m p hm
  have ha : -1074 ≤ Ie.lastOf m p := by unfold Ie.lastOf; omega
  have hb : Ie.lastOf m p ≤ 970 := by unfold Ie.lastOf; omega
  unfold Ie.rung
  rw [if_neg hm]
  obtain ⟨e, he⟩ : ∃ e : Nat, Ie.lastOf m p = -1074 + (e : Nat) := ⟨(Ie.lastOf m p + 1074).toNat, by omega⟩
  have ee : (Ie.lastOf m p + 1074).toNat = e := by omega
  have e4 : e ≤ 2044 := by omega
  have k3 : Ie.rp m p (Ie.lastOf m p) < 2 ^ 52 → e = 0 := fun h => by
    rcases Int.lt_or_le (-1074) (Ie.lastOf m p) with g | g
    · have := k2 g; omega
    · omega
  rw [ee]
  generalize Ie.rp m p (Ie.lastOf m p) = k at *
  have hle : e * 2 ^ 52 + k < 2047 * 2 ^ 52 := by omega
  rw [Nat.min_eq_left (Nat.le_of_lt hle)]
  refine ⟨hle, ?_⟩
  rcases Nat.lt_or_ge k (2 ^ 52) with h | h
  · obtain rfl := k3 h
    rw [Nat.zero_mul, Nat.zero_add]
    unfold Ie.at_ Ie.rm Ie.rq
    rw [if_pos h, if_pos h]
    rfl
  · rcases Nat.lt_or_ge k (2 ^ 53) with h2 | h2
    · obtain ⟨r1, r2⟩ := Ie.rm_norm e k h h2
      rw [r1, r2]
      unfold Ie.at_
      congr 2
      omega
    · obtain rfl : k = 2 ^ 53 := by omega
      have e5 : e * 2 ^ 52 + 2 ^ 53 = (e + 1) * 2 ^ 52 + 2 ^ 52 := by omega
      obtain ⟨r1, r2⟩ := Ie.rm_norm (e + 1) (2 ^ 52) (Nat.le_refl _) (by omega)
      rw [e5, r1, r2]
      unfold Ie.at_
      have e6 : (-1074 + ((e + 1 : Nat) : Int) - -1074).toNat = e + 1 := by omega
      rw [e6]
      have e7 : (2 : Nat) ^ (e + 1) = 2 ^ e * 2 := Nat.pow_succ ..
      rw [e7]
      generalize (2 : Nat) ^ e = y
      omega
/-- The value, in units of 2 ^ -1074, of m units of 2 ^ p, rounded. -/
def A (m : Nat) (p : Int) : Nat := if m = 0 then 0 else Ie.rp m p (Ie.lastOf m p) * 2 ^ (Ie.lastOf m p + 1074).toNat
theorem err74 (m : Nat) : 2 ^ 53 * A m (-1074) ≤ 2 ^ 53 * m + m ∧ 2 ^ 53 * m ≤ 2 ^ 53 * A m (-1074) + m := by
  unfold A
  by_cases hm : m = 0
  · rw [if_pos hm, hm]; exact ⟨Nat.le_refl _, Nat.le_refl _⟩
  rw [if_neg hm]
  have ha : -1074 ≤ Ie.lastOf m (-1074) := by unfold Ie.lastOf; omega
  unfold Ie.rp
  have e1 : (-1074 - Ie.lastOf m (-1074)).toNat = 0 := by omega
  have e2 : (Ie.lastOf m (-1074) - -1074).toNat = (Ie.lastOf m (-1074) + 1074).toNat := by omega
  rw [e1, e2, Nat.pow_zero, Nat.mul_one]
  rcases Nat.lt_or_ge 52 m.log2 with h | h
  · have e3 : (Ie.lastOf m (-1074) + 1074).toNat = m.log2 - 52 := by unfold Ie.lastOf; omega
    rw [e3]
    have hg : 2 ^ (m.log2 - 52) * 2 ^ 52 ≤ m := by
      rw [← Nat.pow_add, show m.log2 - 52 + 52 = m.log2 by omega]
      exact Nat.log2_self_le hm
    have h0 := Nat.two_pow_pos (m.log2 - 52)
    obtain ⟨l1, _⟩ := Ie.re_lo m (2 ^ (m.log2 - 52)) h0
    obtain ⟨l2, _⟩ := Ie.re_hi m (2 ^ (m.log2 - 52)) h0
    generalize 2 ^ (m.log2 - 52) = g at *
    generalize Ie.re m g * g = X at *
    omega
  · have e3 : (Ie.lastOf m (-1074) + 1074).toNat = 0 := by unfold Ie.lastOf; omega
    rw [e3, Nat.pow_zero, Nat.mul_one]
    have := Ie.re_exact m 1 (by omega)
    rw [Nat.mul_one] at this
    rw [this]
    omega
theorem err2148 (m n : Nat) (hn : n = 1074) : 2 ^ 53 * (A m (-2148) * 2 ^ n) ≤ 2 ^ 53 * m + m + 2 ^ 52 * 2 ^ n ∧ 2 ^ 53 * m ≤ 2 ^ 53 * (A m (-2148) * 2 ^ n) + m + 2 ^ 52 * 2 ^ n := by
  unfold A
  by_cases hm : m = 0
  · rw [if_pos hm, hm]; constructor <;> omega
  rw [if_neg hm]
  have ha : -1074 ≤ Ie.lastOf m (-2148) := by unfold Ie.lastOf; omega
  unfold Ie.rp
  have e1 : (-2148 - Ie.lastOf m (-2148)).toNat = 0 := by omega
  rw [e1, Nat.pow_zero, Nat.mul_one, Nat.mul_assoc, ← Nat.pow_add]
  have e2 : (Ie.lastOf m (-2148) - -2148).toNat = (Ie.lastOf m (-2148) + 1074).toNat + n := by omega
  rw [e2]
  have h0 := Nat.two_pow_pos ((Ie.lastOf m (-2148) + 1074).toNat + n)
  obtain ⟨l1, _⟩ := Ie.re_lo m _ h0
  obtain ⟨l2, _⟩ := Ie.re_hi m _ h0
  rcases Int.lt_or_le (-1074) (Ie.lastOf m (-2148)) with h | h
  · have e3 : (Ie.lastOf m (-2148) + 1074).toNat + n = m.log2 - 52 := by unfold Ie.lastOf at *; omega
    have hl : 52 ≤ m.log2 := by unfold Ie.lastOf at *; omega
    have hg : 2 ^ (m.log2 - 52) * 2 ^ 52 ≤ m := by
      rw [← Nat.pow_add, show m.log2 - 52 + 52 = m.log2 by omega]
      exact Nat.log2_self_le hm
    rw [e3] at l1 l2 ⊢
    generalize 2 ^ (m.log2 - 52) = g at *
    generalize Ie.re m g * g = X at *
    generalize 2 ^ n = N at *
    omega
  · have e3 : (Ie.lastOf m (-2148) + 1074).toNat + n = n := by omega
    rw [e3] at l1 l2 ⊢
    generalize 2 ^ n = g at *
    generalize Ie.re m g * g = X at *
    omega
def Wk (k : Int) : Int := if k < 0 then -(Ie.at_ (Ie.rm k.natAbs) (Ie.rq k.natAbs) (-1074) : Int) else (Ie.at_ (Ie.rm k.natAbs) (Ie.rq k.natAbs) (-1074) : Int)
theorem V_W (x : Nat) : V x = Wk (Ie.key x) := by
  unfold V Wk Ie.key
  cases h : Ie.sg x
  · simp only [Bool.false_eq_true, if_false]
    rw [if_neg (by omega), Int.natAbs_natCast]
  · simp only [if_true]
    by_cases h0 : Ie.rg x = 0
    · rw [h0]
      rfl
    · rw [if_pos (by omega), Int.natAbs_neg, Int.natAbs_natCast]
theorem fin_key {x : Nat} {u v : Int} (hk : Ie.key x = K u v) (hs : v ≠ 0 → u + v.natAbs.log2 ≤ 1022) : fin x = true := by
  unfold fin
  refine decide_eq_true ?_
  have e : Ie.rg x = (Ie.key x).natAbs := by unfold Ie.key; split <;> omega
  rw [e, hk]
  have e2 : (K u v).natAbs = Ie.rung v.natAbs u := by unfold K; split <;> omega
  rw [e2]
  by_cases h0 : v = 0
  · rw [h0]
    show Ie.rung 0 u < _
    rw [rung_zero]
    omega
  · exact (rung_fin (by omega) (hs h0)).1
theorem Wk_K {u v : Int} (hs : v ≠ 0 → u + v.natAbs.log2 ≤ 1022) : Wk (K u v) = if v < 0 then -(A v.natAbs u : Int) else (A v.natAbs u : Int) := by
  by_cases h0 : v = 0
  · subst h0
    have : K u 0 = 0 := by
      unfold K
      rw [if_neg (by omega)]
      show (Ie.rung 0 u : Int) = 0
      rw [rung_zero]
      rfl
    rw [this]
    rfl
  · have hm : v.natAbs ≠ 0 := by omega
    obtain ⟨_, h2⟩ := rung_fin hm (hs h0)
    have hA : A v.natAbs u = Ie.at_ (Ie.rm (Ie.rung v.natAbs u)) (Ie.rq (Ie.rung v.natAbs u)) (-1074) := by rw [h2]; unfold A; rw [if_neg hm]
    rw [hA]
    unfold K Wk
    by_cases hv : v < 0
    · rw [if_pos hv, if_pos hv]
      by_cases hr : Ie.rung v.natAbs u = 0
      · rw [hr]
        rfl
      · rw [if_pos (by omega), Int.natAbs_neg, Int.natAbs_natCast]
    · rw [if_neg hv, if_neg hv, if_neg (by omega), Int.natAbs_natCast]
end Go.Proofs.YtknidlahblfnnaaDoor.Ce
