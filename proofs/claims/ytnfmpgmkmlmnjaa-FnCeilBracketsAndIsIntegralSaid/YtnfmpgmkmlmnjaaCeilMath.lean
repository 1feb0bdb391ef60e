/-
  Ceil in plain mathematics: it brackets its argument and gives whole numbers. No condition.
-/
import Derived.Test.YtnfmpgmkmlmnjaaMono
namespace Go.Proofs.Ytnfmpgmkmlmnjaa.CeilMath
open Fl Bits Small2 Ieee FloorMath Mono Itg

theorem itg_whole (s : Bool) {Q : Nat} (hQ : Q < 2 ^ 53) (way : Toward) (hw : way = .down ∨ way = .up) :
    D.write ((D.read (D.word s (Ie.rung Q 0))).integral way) = D.word s (Ie.rung Q 0) := by
  have hr := Ie.rung_le Q 0
  have h63 := Ie.rung_lt63 Q 0
  have erg : Ie.rg (D.word s (Ie.rung Q 0)) = Ie.rung Q 0 := by rw [D_eq]; exact Ie.rg_word s _ h63
  have esg : Ie.sg (D.word s (Ie.rung Q 0)) = s := by rw [D_eq]; exact Ie.sg_word s _ h63
  by_cases hb : 1075 * 2 ^ 52 ≤ Ie.rung Q 0
  · exact itg_big way _ (word_lt s _ h63) (nan_word hr) (by rw [erg]; exact hb)
  · obtain ⟨s', m, p, d, q, h⟩ := small_of (D.word s (Ie.rung Q 0)) (by rw [erg]; omega)
    have hs : s' = s := by rw [← h.sg, esg]
    subst hs
    have hrep := (whole_repr hQ).1
    rw [← erg, ← h.m_eq, ← h.p_eq] at hrep
    have hp0 : p ≤ 0 := by have := h.pd; omega
    rw [Ie.eqv_at _ _ _ _ p hp0 (Int.le_refl _)] at hrep
    unfold Ie.at_ at hrep
    have e1 : (0 - p).toNat = d := by have := h.pd; omega
    have e2 : (p - p).toNat = 0 := by omega
    rw [e1, e2, Nat.pow_zero, Nat.mul_one] at hrep
    have hrem : m % 2 ^ d = 0 := by rw [← hrep]; exact Nat.mul_mod_left _ _
    have hq : q = Q := by rw [h.q_eq, ← hrep]; exact Nat.mul_div_cancel _ (Nat.two_pow_pos _)
    rcases hw with rfl | rfl
    · rw [h.floor, hrem, hq]; simp
    · rw [h.ceil, hrem, hq]; simp

def E74 : Nat := 1074
theorem E74_eq : E74 = 1074 := rfl
def U : Int := ((2 ^ E74 : Nat) : Int)
theorem V_whole (s : Bool) {k : Nat} (hk : k < 2 ^ 53) : V (D.word s (Ie.rung k 0)) = (if s then -(k : Int) else (k : Int)) * U ∧ fin (D.word s (Ie.rung k 0)) = true := by
  have h63 := Ie.rung_lt63 k 0
  have erg : Ie.rg (D.word s (Ie.rung k 0)) = Ie.rung k 0 := by rw [D_eq]; exact Ie.rg_word s _ h63
  have esg : Ie.sg (D.word s (Ie.rung k 0)) = s := by rw [D_eq]; exact Ie.sg_word s _ h63
  obtain ⟨h1, h2⟩ := whole_repr hk
  refine ⟨?_, by unfold fin; rw [erg]; exact decide_eq_true h2⟩
  unfold V
  rw [erg, esg]
  have hlo := rq_lo (Ie.rung k 0)
  rw [Ie.eqv_at _ _ _ _ (-1074) (by decide) hlo] at h1
  rw [← h1]
  have e : Ie.at_ k 0 (-1074) = k * 2 ^ E74 := by
    unfold Ie.at_
    have : ((0 : Int) - -1074).toNat = E74 := by rw [E74_eq]; decide
    rw [this]
  rw [e, Int.natCast_mul]
  unfold U
  cases s <;> simp only [Bool.false_eq_true, if_false, if_true, Int.neg_mul]

theorem whole_of_key {r : Nat} {z : Int} (hn : nan r = false) (hz : z.natAbs < 2 ^ 53) (hk : Ie.key r = K (-1074) (z * U)) : V r = z * U ∧ fin r = true := by
  have hv := V_whole (decide (z < 0)) hz
  have e : (if decide (z < 0) = true then -((z.natAbs : Nat) : Int) else ((z.natAbs : Nat) : Int)) = z := by
    by_cases h : z < 0
    · rw [decide_eq_true h]; simp only [if_true]; omega
    · rw [decide_eq_false h]; simp only [Bool.false_eq_true, if_false]; omega
  rw [e] at hv
  obtain ⟨v1, v2⟩ := hv
  have kk := key_V v2
  rw [v1, ← hk] at kk
  have fr : fin r = true := by
    have f2 : Ie.rg (D.word (decide (z < 0)) (Ie.rung z.natAbs 0)) < 2047 * 2 ^ 52 := of_decide_eq_true v2
    unfold fin
    refine decide_eq_true ?_
    have k1 := FloorMath.key_abs r
    have k2 := FloorMath.key_abs (D.word (decide (z < 0)) (Ie.rung z.natAbs 0))
    rw [kk] at k2
    omega
  refine ⟨?_, fr⟩
  rw [← v1]
  exact Int.le_antisymm ((V_le fr v2).1 (by omega)) ((V_le v2 fr).1 (by omega))

theorem V_one : V 4607182418800017408 = U ∧ fin 4607182418800017408 = true := by
  have h := V_whole false (k := 1) (by decide)
  have e : D.word false (Ie.rung 1 0) = 4607182418800017408 := by decide
  rw [e] at h
  refine ⟨?_, h.2⟩
  rw [h.1]
  simp

variable {x : Nat} {s : Bool} {m : Nat} {p : Int} {d q : Nat}

theorem small_fin (h : Small x s m p d q) : fin x = true := by
  cases hf : fin x
  · have := inf_read hf h.not_nan
    rw [h.read] at this
    cases this.1
  · rfl
theorem V_small (h : Small x s m p d q) : ∃ W : Nat, 0 < W ∧ V x = (if s then -((m * W : Nat) : Int) else ((m * W : Nat) : Int)) ∧ U = ((2 ^ d * W : Nat) : Int) := by
  refine ⟨2 ^ (p + 1074).toNat, Nat.two_pow_pos _, ?_, ?_⟩
  · unfold V
    rw [h.sg, ← h.m_eq, ← h.p_eq]
    have : Ie.at_ m p (-1074) = m * 2 ^ (p + 1074).toNat := by
      unfold Ie.at_
      have : (p - -1074).toNat = (p + 1074).toNat := by omega
      rw [this]
    rw [this]
  · unfold U
    rw [← Nat.pow_add]
    have h1 := h.pd
    have h2 := h.plo
    have : d + (p + 1074).toNat = E74 := by rw [E74_eq]; omega
    rw [this]

theorem ceil_facts (h : Small x s m p d q) : ∃ F : Nat, D.write ((D.read x).integral .up) = F ∧ (D.order F x == some .lt) = false ∧ (∀ r, FR .sub F 4607182418800017408 r → (D.order r x == some .lt) = true) ∧
    D.write ((D.read F).integral .up) = F ∧ D.write ((D.read F).integral .down) = F ∧ nan F = false := by
  refine ⟨_, rfl, ?_⟩
  rw [h.ceil]
  have hq := h.qlt
  have hm1 := Nat.div_add_mod m (2 ^ d)
  have hm2 : m % 2 ^ d < 2 ^ d := Nat.mod_lt _ (Nat.two_pow_pos _)
  rw [← h.q_eq] at hm1
  generalize hQ : q + (!s && decide (m % 2 ^ d ≠ 0)).toNat = Q
  have hb : (!s && decide (m % 2 ^ d ≠ 0)).toNat ≤ 1 := Bool.toNat_le _
  have hQ53 : Q < 2 ^ 53 := by omega
  obtain ⟨vF, fF⟩ := V_whole s hQ53
  have nF : nan (D.word s (Ie.rung Q 0)) = false := fin_not_nan fF
  have fx := small_fin h
  have nx := h.not_nan
  obtain ⟨W, hW, vx, hU⟩ := V_small h
  refine ⟨?_, ?_, itg_whole s hQ53 .up (.inr rfl), itg_whole s hQ53 .down (.inl rfl), nF⟩
  · rw [lss_key nF nx]
    refine decide_eq_false ?_
    intro hlt
    have : ¬ V x ≤ V (D.word s (Ie.rung Q 0)) := fun hle => by
      have := (V_le fx fF).2 hle
      omega
    apply this
    rw [vx, vF, hU]
    cases s
    · simp only [Bool.false_eq_true, if_false, Bool.not_false, Bool.true_and] at hQ ⊢
      rw [← Int.natCast_mul]
      have : m * W ≤ Q * (2 ^ d * W) := by
        rw [← Nat.mul_assoc]
        refine Nat.mul_le_mul_right W ?_
        by_cases h0 : m % 2 ^ d = 0
        · have hz : (decide (m % 2 ^ d ≠ 0)).toNat = 0 := by simp [h0]
          rw [hz, Nat.add_zero] at hQ
          rw [← hQ, Nat.mul_comm]; omega
        · have hz : (decide (m % 2 ^ d ≠ 0)).toNat = 1 := by simp [h0]
          rw [hz] at hQ
          rw [← hQ, Nat.add_mul, Nat.mul_comm q]; omega
      exact Int.ofNat_le.2 this
    · simp only [if_true, Bool.not_true, Bool.false_and, Bool.toNat_false, Nat.add_zero] at hQ ⊢
      subst hQ
      rw [Int.neg_mul, ← Int.natCast_mul]
      have : q * (2 ^ d * W) ≤ m * W := by
        rw [← Nat.mul_assoc]
        refine Nat.mul_le_mul_right W ?_
        rw [Nat.mul_comm q]; omega
      have := Int.ofNat_le.2 this
      omega
  · intro r hr
    obtain ⟨kr, nr⟩ := sub_key fF V_one.2 hr
    rw [vF, V_one.1] at kr
    have ez : (if s then -(Q : Int) else (Q : Int)) * U - U = ((if s then -(Q : Int) else (Q : Int)) - 1) * U := by rw [Int.sub_mul, Int.one_mul]
    rw [ez] at kr
    have hz : ((if s then -(Q : Int) else (Q : Int)) - 1).natAbs < 2 ^ 53 := by cases s <;> simp only [Bool.false_eq_true, if_false, if_true] <;> omega
    obtain ⟨vr, fr⟩ := whole_of_key nr hz kr
    rw [lss_key nr nx]
    refine decide_eq_true ?_
    have : ¬ V x ≤ V r := by
      rw [vx, vr, hU]
      cases s
      · simp only [Bool.false_eq_true, if_false, Bool.not_false, Bool.true_and] at hQ ⊢
        rw [Int.sub_mul, Int.one_mul, ← Int.natCast_mul]
        have : Q * (2 ^ d * W) < m * W + 2 ^ d * W := by
          rw [← Nat.mul_assoc, ← Nat.add_mul]
          refine Nat.mul_lt_mul_of_pos_right ?_ hW
          by_cases h0 : m % 2 ^ d = 0
          · have hz : (decide (m % 2 ^ d ≠ 0)).toNat = 0 := by simp [h0]
            rw [hz, Nat.add_zero] at hQ
            rw [← hQ, Nat.mul_comm]; omega
          · have hz : (decide (m % 2 ^ d ≠ 0)).toNat = 1 := by simp [h0]
            rw [hz] at hQ
            rw [← hQ, Nat.add_mul, Nat.mul_comm q]; omega
        have := Int.ofNat_lt.2 this
        omega
      · simp only [if_true, Bool.not_true, Bool.false_and, Bool.toNat_false, Nat.add_zero] at hQ ⊢
        subst hQ
        rw [Int.sub_mul, Int.one_mul, Int.neg_mul, ← Int.natCast_mul]
        have : m * W < q * (2 ^ d * W) + 2 ^ d * W := by
          rw [← Nat.mul_assoc, ← Nat.add_mul]
          refine Nat.mul_lt_mul_of_pos_right ?_ hW
          rw [Nat.mul_comm q]; omega
        have := Int.ofNat_lt.2 this
        omega
    exact Int.not_le.1 (fun hle => this ((V_le fx fr).1 hle))
end Go.Proofs.Ytnfmpgmkmlmnjaa.CeilMath
