/-
  Rounding to a float of 64 bits, in plain mathematics: it is monotone, it is exact on floats, and floats are ordered as their rungs. No condition.
-/
import Ieee.Arith
import Derived.Laws.FloatBits
namespace Go.Proofs.YtknidlahblfnnaaDoor.Ie
open Ieee

abbrev D : Format := Ieee.double

theorem binade_eq : D.binade = 2 ^ 52 := rfl
theorem inf_eq : D.infRung = 2047 * 2 ^ 52 := rfl
theorem sw_eq : D.signWeight = 2 ^ 63 := rfl
theorem lp_eq : D.leastPlace = -1074 := rfl
theorem fb_eq : D.fractionBits = 52 := rfl

/-! ### rounding a quotient -/
def re (n g : Nat) : Nat := n / g + (decide (g < 2 * (n % g)) || (decide (g = 2 * (n % g)) && decide (n / g % 2 = 1))).toNat

theorem re_cases (n g : Nat) (hg : 0 < g) : ∃ q r, n = g * q + r ∧ r < g ∧
    ((g < 2 * r ∧ re n g = q + 1) ∨ (g = 2 * r ∧ q % 2 = 1 ∧ re n g = q + 1) ∨ (g = 2 * r ∧ q % 2 = 0 ∧ re n g = q) ∨ (2 * r < g ∧ re n g = q)) := by
  refine ⟨n / g, n % g, (Nat.div_add_mod n g).symm, Nat.mod_lt _ hg, ?_⟩
  unfold re
  by_cases h1 : g < 2 * (n % g)
  · left; simp [h1]
  · by_cases h2 : g = 2 * (n % g)
    · by_cases h3 : n / g % 2 = 1
      · right; left; refine ⟨h2, h3, ?_⟩; simp [h3, ← h2]
      · right; right; left; refine ⟨h2, by omega, ?_⟩; simp [h3, ← h2]
    · right; right; right; refine ⟨by omega, ?_⟩; simp [h1, h2]

theorem re_lo (n g : Nat) (hg : 0 < g) : 2 * (re n g * g) ≤ 2 * n + g ∧ (2 * (re n g * g) = 2 * n + g → re n g % 2 = 0) := by
  obtain ⟨q, r, hn, hr, h⟩ := re_cases n g hg
  have e : (q + 1) * g = g * q + g := by rw [Nat.add_mul, Nat.mul_comm]; omega
  have e0 : q * g = g * q := Nat.mul_comm ..
  rcases h with ⟨h1, h2⟩ | ⟨h1, h3, h2⟩ | ⟨h1, h3, h2⟩ | ⟨h1, h2⟩ <;> rw [h2] <;> (try rw [e]) <;> (try rw [e0]) <;> omega

theorem re_hi (n g : Nat) (hg : 0 < g) : 2 * n ≤ 2 * (re n g * g) + g ∧ (2 * n = 2 * (re n g * g) + g → re n g % 2 = 0) := by
  obtain ⟨q, r, hn, hr, h⟩ := re_cases n g hg
  have e : (q + 1) * g = g * q + g := by rw [Nat.add_mul, Nat.mul_comm]; omega
  have e0 : q * g = g * q := Nat.mul_comm ..
  rcases h with ⟨h1, h2⟩ | ⟨h1, h3, h2⟩ | ⟨h1, h3, h2⟩ | ⟨h1, h2⟩ <;> rw [h2] <;> (try rw [e]) <;> (try rw [e0]) <;> omega

theorem re_mono (n1 g1 n2 g2 : Nat) (h1 : 0 < g1) (h2 : 0 < g2) (h : n1 * g2 ≤ n2 * g1) : re n1 g1 ≤ re n2 g2 := by
  obtain ⟨a1, a2⟩ := re_lo n1 g1 h1
  obtain ⟨b1, b2⟩ := re_hi n2 g2 h2
  generalize re n1 g1 = k1 at *
  generalize re n2 g2 = k2 at *
  apply Classical.byContradiction
  intro hk
  have hk' : k2 + 1 ≤ k1 := by omega
  have hP : 0 < g1 * g2 := Nat.mul_pos h1 h2
  have c1 : 2 * (k1 * (g1 * g2)) ≤ 2 * (n1 * g2) + g1 * g2 := by
    have := Nat.mul_le_mul_right g2 a1
    rw [Nat.add_mul, Nat.mul_assoc 2, Nat.mul_assoc k1, Nat.mul_assoc 2] at this
    exact this
  have c2 : 2 * (n2 * g1) ≤ 2 * (k2 * (g1 * g2)) + g1 * g2 := by
    have := Nat.mul_le_mul_right g1 b1
    rw [Nat.add_mul, Nat.mul_assoc 2, Nat.mul_assoc 2, Nat.mul_assoc k2, Nat.mul_comm g2 g1] at this
    exact this
  have c3 : (k2 + 1) * (g1 * g2) ≤ k1 * (g1 * g2) := Nat.mul_le_mul_right _ hk'
  rw [Nat.add_mul, Nat.one_mul] at c3
  have d1 : k1 * (g1 * g2) = (k2 + 1) * (g1 * g2) := by rw [Nat.add_mul, Nat.one_mul]; omega
  have d2 : k1 = k2 + 1 := Nat.eq_of_mul_eq_mul_right hP d1
  have d3 : 2 * (k1 * g1) = 2 * n1 + g1 := by
    refine Nat.eq_of_mul_eq_mul_right h2 ?_
    rw [Nat.add_mul, Nat.mul_assoc 2, Nat.mul_assoc k1, Nat.mul_assoc 2]
    omega
  have d4 : 2 * n2 = 2 * (k2 * g2) + g2 := by
    refine Nat.eq_of_mul_eq_mul_right h1 ?_
    rw [Nat.add_mul, Nat.mul_assoc 2, Nat.mul_assoc 2, Nat.mul_assoc k2, Nat.mul_comm g2 g1]
    omega
  have := a2 d3
  have := b2 d4
  omega

theorem re_exact (k g : Nat) (hg : 0 < g) : re (k * g) g = k := by
  unfold re
  rw [Nat.mul_div_cancel _ hg, Nat.mul_mod_left]
  simp
  omega

theorem cut_even (neg : Bool) (n drop : Nat) : Toward.even.cut neg n drop = re n (2 ^ drop) := by
  unfold Toward.cut
  dsimp only
  rw [Nat.shiftLeft_eq, Nat.one_mul]
  have hn : n < 2 ^ (n.log2 + 1) := Nat.lt_log2_self
  by_cases h : drop ≤ n.log2 + 2
  · rw [Nat.min_eq_left h]
    unfold re
    congr 2
  · have h' : n.log2 + 2 ≤ drop := by omega
    rw [Nat.min_eq_right h']
    have e1 : 2 ^ (n.log2 + 2) = 2 * 2 ^ (n.log2 + 1) := by rw [Nat.pow_succ 2 (n.log2 + 1)]; omega
    have e2 : 2 ^ (n.log2 + 2) ≤ 2 ^ drop := Nat.pow_le_pow_right (by omega) h'
    have f1 : n / 2 ^ (n.log2 + 2) = 0 := Nat.div_eq_of_lt (by omega)
    have f2 : n % 2 ^ (n.log2 + 2) = n := Nat.mod_eq_of_lt (by omega)
    have f3 : n / 2 ^ drop = 0 := Nat.div_eq_of_lt (by omega)
    have f4 : n % 2 ^ drop = n := Nat.mod_eq_of_lt (by omega)
    unfold re
    rw [f1, f2, f3, f4]
    have g1 : ¬ 2 ^ (n.log2 + 2) < 2 * n := by omega
    have g2 : ¬ 2 ^ drop < 2 * n := by omega
    simp [g1, g2]

/-! ### comparing m * 2 ^ p -/
def at_ (m : Nat) (p b : Int) : Nat := m * 2 ^ (p - b).toNat
def le2 (m : Nat) (p : Int) (n : Nat) (q : Int) : Prop := at_ m p (min p q) ≤ at_ n q (min p q)

theorem at_shift (m : Nat) (p b c : Int) (hb : b ≤ p) (hc : c ≤ b) : at_ m p c = at_ m p b * 2 ^ (b - c).toNat := by
  unfold at_
  rw [Nat.mul_assoc, ← Nat.pow_add]
  congr 2
  omega

theorem le2_at (m : Nat) (p : Int) (n : Nat) (q b : Int) (h1 : b ≤ p) (h2 : b ≤ q) : le2 m p n q ↔ at_ m p b ≤ at_ n q b := by
  unfold le2
  rw [at_shift m p (min p q) b (by omega) (by omega), at_shift n q (min p q) b (by omega) (by omega)]
  constructor
  · intro h; exact Nat.mul_le_mul_right _ h
  · intro h; exact Nat.le_of_mul_le_mul_right h (Nat.two_pow_pos _)

theorem le2_refl (m : Nat) (p : Int) : le2 m p m p := by unfold le2; exact Nat.le_refl _
theorem le2_total (m : Nat) (p : Int) (n : Nat) (q : Int) : le2 m p n q ∨ le2 n q m p := by
  rw [le2_at m p n q (min p q) (by omega) (by omega), le2_at n q m p (min p q) (by omega) (by omega)]
  exact Nat.le_total _ _
theorem le2_trans {a : Nat} {p : Int} {b : Nat} {q : Int} {c : Nat} {r : Int} (h1 : le2 a p b q) (h2 : le2 b q c r) : le2 a p c r := by
  have hb1 : min (min p q) r ≤ p := by omega
  have hb2 : min (min p q) r ≤ q := by omega
  have hb3 : min (min p q) r ≤ r := by omega
  rw [le2_at _ _ _ _ _ hb1 hb2] at h1
  rw [le2_at _ _ _ _ _ hb2 hb3] at h2
  rw [le2_at _ _ _ _ _ hb1 hb3]
  omega

/-- m * 2 ^ p in units of 2 ^ a, rounded. -/
def rp (m : Nat) (p a : Int) : Nat := re (m * 2 ^ (p - a).toNat) (2 ^ (a - p).toNat)

theorem pow_turn (p a b : Int) (h1 : b ≤ p) (h2 : b ≤ a) : 2 ^ (p - a).toNat * 2 ^ (a - b).toNat = 2 ^ (p - b).toNat * 2 ^ (a - p).toNat := by
  rw [← Nat.pow_add, ← Nat.pow_add]
  congr 1
  omega

theorem rp_mono {m : Nat} {p : Int} {n : Nat} {q : Int} (a : Int) (h : le2 m p n q) : rp m p a ≤ rp n q a := by
  have hb1 : min (min p q) a ≤ p := by omega
  have hb2 : min (min p q) a ≤ q := by omega
  have hb3 : min (min p q) a ≤ a := by omega
  rw [le2_at _ _ _ _ _ hb1 hb2] at h
  generalize min (min p q) a = b at *
  refine re_mono _ _ _ _ (Nat.two_pow_pos _) (Nat.two_pow_pos _) ?_
  have z : 0 < 2 ^ (a - b).toNat := Nat.two_pow_pos _
  refine Nat.le_of_mul_le_mul_right ?_ z
  unfold at_ at h
  have t1 := pow_turn p a b hb1 hb3
  have t2 := pow_turn q a b hb2 hb3
  generalize 2 ^ (p - a).toNat = X1 at *
  generalize 2 ^ (q - a).toNat = X2 at *
  generalize 2 ^ (a - p).toNat = Y1 at *
  generalize 2 ^ (a - q).toNat = Y2 at *
  generalize 2 ^ (a - b).toNat = Z at *
  generalize 2 ^ (p - b).toNat = W1 at *
  generalize 2 ^ (q - b).toNat = W2 at *
  have e1 : m * X1 * Y2 * Z = m * W1 * (Y1 * Y2) := by
    rw [show m * X1 * Y2 * Z = m * (X1 * Z) * Y2 by simp only [Nat.mul_assoc, Nat.mul_comm, Nat.mul_left_comm], t1]
    simp only [Nat.mul_assoc, Nat.mul_comm, Nat.mul_left_comm]
  have e2 : n * X2 * Y1 * Z = n * W2 * (Y1 * Y2) := by
    rw [show n * X2 * Y1 * Z = n * (X2 * Z) * Y1 by simp only [Nat.mul_assoc, Nat.mul_comm, Nat.mul_left_comm], t2]
    simp only [Nat.mul_assoc, Nat.mul_comm, Nat.mul_left_comm]
  rw [e1, e2]
  exact Nat.mul_le_mul_right _ h

theorem rp_self (k : Nat) (a : Int) : rp k a a = k := by
  unfold rp
  have : (a - a).toNat = 0 := by omega
  rw [this, Nat.pow_zero, Nat.mul_one]
  have := re_exact k 1 (by omega)
  rwa [Nat.mul_one] at this

/-! ### the nearest rung -/
def lastOf (m : Nat) (p : Int) : Int := max (p + m.log2 - 52) (-1074)
def rung (m : Nat) (p : Int) : Nat := if m = 0 then 0 else min ((lastOf m p + 1074).toNat * 2 ^ 52 + rp m p (lastOf m p)) (2047 * 2 ^ 52)

theorem nearest_rung (s : Bool) (m : Nat) (p : Int) : D.nearest s m p = D.word s (rung m p) := by
  unfold Format.nearest rung
  by_cases h : m = 0
  · rw [if_pos h, if_pos h]
  · rw [if_neg h, if_neg h]
    dsimp only
    rw [cut_even, Nat.shiftLeft_eq, fb_eq, lp_eq, binade_eq, inf_eq]
    rfl

theorem log_mono {m : Nat} {p : Int} {n : Nat} {q : Int} (hm : m ≠ 0) (h : le2 m p n q) : p + m.log2 ≤ q + n.log2 := by
  rw [le2_at m p n q (min p q) (by omega) (by omega)] at h
  unfold at_ at h
  have a1 : 2 ^ m.log2 ≤ m := Nat.log2_self_le hm
  have a2 : n < 2 ^ (n.log2 + 1) := Nat.lt_log2_self
  have c1 : 2 ^ m.log2 * 2 ^ (p - min p q).toNat ≤ m * 2 ^ (p - min p q).toNat := Nat.mul_le_mul_right _ a1
  have c2 : n * 2 ^ (q - min p q).toNat < 2 ^ (n.log2 + 1) * 2 ^ (q - min p q).toNat := Nat.mul_lt_mul_of_pos_right a2 (Nat.two_pow_pos _)
  rw [← Nat.pow_add] at c1 c2
  have := (Nat.pow_lt_pow_iff_right (a := 2) (by omega)).1 (Nat.lt_of_le_of_lt c1 (Nat.lt_of_le_of_lt h c2))
  omega

theorem kept_le (m : Nat) (p : Int) (hm : m ≠ 0) : rp m p (lastOf m p) ≤ 2 ^ 53 := by
  have h : le2 m p (2 ^ 53) (lastOf m p) := by
    rw [le2_at _ _ _ _ (min p (lastOf m p)) (by omega) (by omega)]
    unfold at_
    have a2 : m < 2 ^ (m.log2 + 1) := Nat.lt_log2_self
    have c2 : m * 2 ^ (p - min p (lastOf m p)).toNat < 2 ^ (m.log2 + 1) * 2 ^ (p - min p (lastOf m p)).toNat := Nat.mul_lt_mul_of_pos_right a2 (Nat.two_pow_pos _)
    rw [← Nat.pow_add] at c2 ⊢
    refine Nat.le_of_lt (Nat.lt_of_lt_of_le c2 (Nat.pow_le_pow_right (by omega) ?_))
    unfold lastOf
    omega
  have := rp_mono (lastOf m p) h
  rwa [rp_self] at this

theorem kept_ge (m : Nat) (p : Int) (hm : m ≠ 0) (hl : -1074 < lastOf m p) : 2 ^ 52 ≤ rp m p (lastOf m p) := by
  have h : le2 (2 ^ 52) (lastOf m p) m p := by
    rw [le2_at _ _ _ _ (min p (lastOf m p)) (by omega) (by omega)]
    unfold at_
    have a1 : 2 ^ m.log2 ≤ m := Nat.log2_self_le hm
    have c1 : 2 ^ m.log2 * 2 ^ (p - min p (lastOf m p)).toNat ≤ m * 2 ^ (p - min p (lastOf m p)).toNat := Nat.mul_le_mul_right _ a1
    rw [← Nat.pow_add] at c1 ⊢
    refine Nat.le_trans (Nat.pow_le_pow_right (by omega) ?_) c1
    unfold lastOf at *
    omega
  have := rp_mono (lastOf m p) h
  rwa [rp_self] at this

theorem rung_mono {m : Nat} {p : Int} {n : Nat} {q : Int} (h : le2 m p n q) : rung m p ≤ rung n q := by
  by_cases hm : m = 0
  · unfold rung; rw [if_pos hm]; exact Nat.zero_le _
  · by_cases hn : n = 0
    · exfalso
      rw [le2_at m p n q (min p q) (by omega) (by omega)] at h
      unfold at_ at h
      rw [hn, Nat.zero_mul] at h
      have := Nat.mul_pos (Nat.pos_of_ne_zero hm) (Nat.two_pow_pos (p - min p q).toNat)
      omega
    · have hl := log_mono hm h
      unfold rung
      rw [if_neg hm, if_neg hn]
      have k1 := kept_le m p hm
      have k2 := kept_ge n q hn
      have hll : lastOf m p ≤ lastOf n q := by unfold lastOf; omega
      have hlo : -1074 ≤ lastOf m p := by unfold lastOf; omega
      by_cases he : lastOf m p = lastOf n q
      · have := rp_mono (lastOf m p) h
        rw [← he]
        exact Nat.le_min.2 ⟨Nat.le_trans (Nat.min_le_left _ _) (Nat.add_le_add_left this _), Nat.min_le_right _ _⟩
      · have k2' := k2 (by omega)
        generalize lastOf m p = a at *
        generalize lastOf n q = b at *
        generalize rp m p a = x at *
        generalize rp n q b = y at *
        obtain ⟨i, rfl⟩ : ∃ i : Nat, a = (i : Int) - 1074 := ⟨(a + 1074).toNat, by omega⟩
        obtain ⟨j, rfl⟩ : ∃ j : Nat, b = (j : Int) - 1074 := ⟨(b + 1074).toNat, by omega⟩
        have e1 : ((i : Int) - 1074 + 1074).toNat = i := by omega
        have e2 : ((j : Int) - 1074 + 1074).toNat = j := by omega
        rw [e1, e2]
        have e3 : i + 1 ≤ j := by omega
        have e4 := Nat.mul_le_mul_right (2 ^ 52) e3
        have e5 : (2 : Nat) ^ 53 = 2 ^ 52 + 2 ^ 52 := by decide
        rw [e5] at k1
        rw [Nat.add_mul, Nat.one_mul] at e4
        generalize (2 : Nat) ^ 52 = B at *
        generalize i * B = I at *
        generalize j * B = J at *
        generalize 2047 * B = T at *
        clear e1 e2 e3 e5 he hll hlo hl k2 h
        omega

theorem rung_congr {m : Nat} {p : Int} {n : Nat} {q : Int} (h : le2 m p n q) (h' : le2 n q m p) : rung m p = rung n q :=
  Nat.le_antisymm (rung_mono h) (rung_mono h')

theorem rung_le (m : Nat) (p : Int) : rung m p ≤ 2047 * 2 ^ 52 := by
  unfold rung; split
  · omega
  · exact Nat.min_le_right _ _

/-! ### what a rung stands for -/
def rm (k : Nat) : Nat := if k < 2 ^ 52 then k else 2 ^ 52 + k % 2 ^ 52
def rq (k : Nat) : Int := if k < 2 ^ 52 then -1074 else -1074 + (k / 2 ^ 52 - 1 : Nat)

theorem rung_norm (f e : Nat) (h1 : 2 ^ 52 ≤ f) (h2 : f < 2 ^ 53) : rung f (-1074 + (e : Nat)) = min (e * 2 ^ 52 + f) (2047 * 2 ^ 52) := by
  unfold rung
  have h0 : f ≠ 0 := by omega
  rw [if_neg h0]
  have hl1 : f.log2 < 53 := (Nat.log2_lt h0).2 h2
  have hl2 : 52 ≤ f.log2 := (Nat.le_log2 h0).2 h1
  have el : lastOf f (-1074 + (e : Nat)) = -1074 + (e : Nat) := by unfold lastOf; omega
  rw [el, rp_self]
  have e1 : (-1074 + (e : Int) + 1074).toNat = e := by omega
  rw [e1]

theorem rung_sub (k : Nat) (h : k < 2 ^ 52) : rung k (-1074) = k := by
  unfold rung
  by_cases h0 : k = 0
  · rw [if_pos h0, h0]
  · rw [if_neg h0]
    have hl : k.log2 < 52 := (Nat.log2_lt h0).2 h
    have el : lastOf k (-1074) = -1074 := by unfold lastOf; omega
    rw [el, rp_self]
    have e1 : ((-1074 : Int) + 1074).toNat = 0 := by decide
    rw [e1, Nat.zero_mul, Nat.zero_add]
    exact Nat.min_eq_left (by omega)

theorem rung_of (k : Nat) (hk : k ≤ 2047 * 2 ^ 52) : rung (rm k) (rq k) = k := by
  by_cases h : k < 2 ^ 52
  · have e1 : rm k = k := by unfold rm; rw [if_pos h]
    have e2 : rq k = -1074 := by unfold rq; rw [if_pos h]
    rw [e1, e2]
    exact rung_sub k h
  · have e1 : rm k = 2 ^ 52 + k % 2 ^ 52 := by unfold rm; rw [if_neg h]
    have e2 : rq k = -1074 + (k / 2 ^ 52 - 1 : Nat) := by unfold rq; rw [if_neg h]
    rw [e1, e2, rung_norm _ _ (by omega) (by omega)]
    have e3 : (k / 2 ^ 52 - 1) * 2 ^ 52 + (2 ^ 52 + k % 2 ^ 52) = k := by omega
    rw [e3]
    exact Nat.min_eq_left hk

theorem rung_le_iff (k l : Nat) (hk : k ≤ 2047 * 2 ^ 52) (hl : l ≤ 2047 * 2 ^ 52) : le2 (rm k) (rq k) (rm l) (rq l) ↔ k ≤ l := by
  constructor
  · intro h
    have := rung_mono h
    rwa [rung_of k hk, rung_of l hl] at this
  · intro h
    rcases le2_total (rm k) (rq k) (rm l) (rq l) with h1 | h1
    · exact h1
    · have := rung_mono h1
      rw [rung_of k hk, rung_of l hl] at this
      obtain rfl : k = l := by omega
      exact le2_refl _ _

theorem rung_exact {m : Nat} {p : Int} (k : Nat) (hk : k ≤ 2047 * 2 ^ 52) (h : le2 m p (rm k) (rq k)) (h' : le2 (rm k) (rq k) m p) : rung m p = k := by
  rw [rung_congr h h', rung_of k hk]

/-! ### words -/
def rg (x : Nat) : Nat := x % 2 ^ 63
def sg (x : Nat) : Bool := x / 2 ^ 63 % 2 == 1

theorem read_eq (x : Nat) : D.read x = if rg x < 2047 * 2 ^ 52 then .number (sg x) (rm (rg x)) (rq (rg x)) else if rg x = 2047 * 2 ^ 52 then .infinity (sg x) else .nan (sg x) (rg x - 2047 * 2 ^ 52) := by
  unfold Format.read
  dsimp only
  rw [sw_eq, binade_eq, inf_eq, lp_eq]
  show (if rg x < 2 ^ 52 then Datum.number (sg x) (rg x) (-1074) else if rg x < 2047 * 2 ^ 52 then _ else _) = _
  by_cases h : rg x < 2 ^ 52
  · rw [if_pos h, if_pos (by omega)]
    have e1 : rm (rg x) = rg x := by unfold rm; rw [if_pos h]
    have e2 : rq (rg x) = -1074 := by unfold rq; rw [if_pos h]
    rw [e1, e2]
  · rw [if_neg h]
    by_cases h2 : rg x < 2047 * 2 ^ 52
    · rw [if_pos h2, if_pos h2]
      have e1 : rm (rg x) = 2 ^ 52 + rg x % 2 ^ 52 := by unfold rm; rw [if_neg h]
      have e2 : rq (rg x) = -1074 + (rg x / 2 ^ 52 - 1 : Nat) := by unfold rq; rw [if_neg h]
      rw [e1, e2]
      rfl
    · rw [if_neg h2, if_neg h2]
      rfl

/-! ### the order of floats is that of their signed rungs -/
def key (x : Nat) : Int := if sg x then -(rg x : Int) else (rg x : Int)

theorem cmp_congr {a b c d : Int} (h1 : a < b ↔ c < d) (h2 : a = b ↔ c = d) : compare a b = compare c d := by
  simp [compare, compareOfLessAndEq, h1, h2]
theorem cmp_lt {a b : Int} (h : a < b) : compare a b = .lt := by simp [compare, compareOfLessAndEq, h]
theorem cmp_eq {a b : Int} (h : a = b) : compare a b = .eq := by simp [compare, compareOfLessAndEq, h]
theorem cmp_gt {a b : Int} (h : b < a) : compare a b = .gt := by
  simp [compare, compareOfLessAndEq]
  rw [if_neg (by omega), if_neg (by omega)]

theorem rm_zero (k : Nat) : rm k = 0 ↔ k = 0 := by
  unfold rm; split <;> omega

theorem at_zero (m : Nat) (p b : Int) : at_ m p b = 0 ↔ m = 0 := by
  unfold at_
  have := Nat.two_pow_pos (p - b).toNat
  rw [Nat.mul_eq_zero]
  omega

theorem signed_at (s : Bool) (m : Nat) (p b : Int) : signed s m (p - b).toNat = if s then -(at_ m p b : Int) else (at_ m p b : Int) := by
  unfold signed at_
  rw [Nat.shiftLeft_eq]

theorem order_key (x y : Nat) (hx : rg x ≤ 2047 * 2 ^ 52) (hy : rg y ≤ 2047 * 2 ^ 52) : D.order x y = some (compare (key x) (key y)) := by
  unfold Format.order
  rw [read_eq x, read_eq y]
  by_cases h1 : rg x < 2047 * 2 ^ 52
  · rw [if_pos h1]
    by_cases h2 : rg y < 2047 * 2 ^ 52
    · rw [if_pos h2]
      simp only [Datum.order, Option.some.injEq]
      rw [signed_at, signed_at]
      have a1 := rung_le_iff (rg x) (rg y) hx hy
      have a2 := rung_le_iff (rg y) (rg x) hy hx
      rw [le2_at _ _ _ _ (min (rq (rg x)) (rq (rg y))) (by omega) (by omega)] at a1
      rw [le2_at _ _ _ _ (min (rq (rg x)) (rq (rg y))) (by omega) (by omega)] at a2
      have z1 := at_zero (rm (rg x)) (rq (rg x)) (min (rq (rg x)) (rq (rg y)))
      have z2 := at_zero (rm (rg y)) (rq (rg y)) (min (rq (rg x)) (rq (rg y)))
      rw [rm_zero] at z1 z2
      unfold key
      generalize at_ (rm (rg x)) (rq (rg x)) (min (rq (rg x)) (rq (rg y))) = A at *
      generalize at_ (rm (rg y)) (rq (rg y)) (min (rq (rg x)) (rq (rg y))) = B at *
      generalize rg x = k at *
      generalize rg y = l at *
      clear h1 h2 hx hy
      cases sg x <;> cases sg y <;> simp only [if_true, if_false, Bool.false_eq_true] <;> refine cmp_congr ?_ ?_ <;> omega
    · rw [if_neg h2, if_pos (by omega)]
      simp only [Datum.order, Option.some.injEq]
      have h3 : rg y = 2047 * 2 ^ 52 := by omega
      unfold key
      rw [h3]
      rw [h3] at hy h2
      generalize (2047 * 2 ^ 52 : Nat) = I at *
      cases sg y <;> cases sg x <;> simp only [if_true, if_false, Bool.false_eq_true] <;> symm <;> first | exact cmp_lt (by omega) | exact cmp_gt (by omega)
  · rw [if_neg h1, if_pos (by omega)]
    have h3 : rg x = 2047 * 2 ^ 52 := by omega
    by_cases h2 : rg y < 2047 * 2 ^ 52
    · rw [if_pos h2]
      simp only [Datum.order, Option.some.injEq]
      unfold key
      rw [h3]
      rw [h3] at hx h1
      generalize (2047 * 2 ^ 52 : Nat) = I at *
      cases sg y <;> cases sg x <;> simp only [if_true, if_false, Bool.false_eq_true] <;> symm <;> first | exact cmp_lt (by omega) | exact cmp_gt (by omega)
    · rw [if_neg h2, if_pos (by omega)]
      have h4 : rg y = 2047 * 2 ^ 52 := by omega
      simp only [Datum.order, Option.some.injEq]
      unfold key
      rw [h3, h4]
      have hI : (0 : Int) < ((2047 * 2 ^ 52 : Nat) : Int) := by decide
      generalize (2047 * 2 ^ 52 : Nat) = I at *
      cases sg y <;> cases sg x <;> simp only [if_true, if_false, Bool.false_eq_true] <;> first | exact (cmp_eq rfl).symm | exact (cmp_lt (by omega)).symm | exact (cmp_gt (by omega)).symm

/-! ### exact values -/
def eqv (m : Nat) (p : Int) (n : Nat) (q : Int) : Prop := le2 m p n q ∧ le2 n q m p
theorem eqv.symm {m : Nat} {p : Int} {n : Nat} {q : Int} (h : eqv m p n q) : eqv n q m p := ⟨h.2, h.1⟩
theorem eqv.trans {a : Nat} {p : Int} {b : Nat} {q : Int} {c : Nat} {r : Int} (h : eqv a p b q) (k : eqv b q c r) : eqv a p c r := ⟨le2_trans h.1 k.1, le2_trans k.2 h.2⟩
theorem eqv_at (m : Nat) (p : Int) (n : Nat) (q b : Int) (h1 : b ≤ p) (h2 : b ≤ q) : eqv m p n q ↔ at_ m p b = at_ n q b := by
  unfold eqv
  rw [le2_at m p n q b h1 h2, le2_at n q m p b h2 h1]
  omega
theorem eqv_shift (m k : Nat) (p : Int) : eqv m p (m * 2 ^ k) (p - k) := by
  rw [eqv_at _ _ _ _ (p - k) (by omega) (by omega)]
  unfold at_
  have e1 : (p - (p - (k : Int))).toNat = k := by omega
  have e2 : ((p - (k : Int)) - (p - (k : Int))).toNat = 0 := by omega
  rw [e1, e2, Nat.pow_zero, Nat.mul_one]
theorem eqv_zero (p q : Int) : eqv 0 p 0 q := by
  rw [eqv_at _ _ _ _ (min p q) (by omega) (by omega)]
  unfold at_
  simp
theorem eqv_rung {m : Nat} {p : Int} {n : Nat} {q : Int} (h : eqv m p n q) : rung m p = rung n q := rung_congr h.1 h.2

theorem div_norm (e f : Nat) (h1 : 2 ^ 52 ≤ f) (h2 : f < 2 ^ 53) : (e * 2 ^ 52 + f) / 2 ^ 52 = e + 1 ∧ (e * 2 ^ 52 + f) % 2 ^ 52 = f - 2 ^ 52 := by
  obtain ⟨g, rfl⟩ : ∃ g, f = 2 ^ 52 + g := ⟨f - 2 ^ 52, by omega⟩
  have hg : g < 2 ^ 52 := by omega
  have e1 : e * 2 ^ 52 + (2 ^ 52 + g) = g + (e + 1) * 2 ^ 52 := by rw [Nat.add_mul, Nat.one_mul]; omega
  rw [e1, Nat.add_mul_div_right _ _ (Nat.two_pow_pos _), Nat.add_mul_mod_self_right, Nat.div_eq_of_lt hg, Nat.mod_eq_of_lt hg]
  omega

theorem rm_norm (e f : Nat) (h1 : 2 ^ 52 ≤ f) (h2 : f < 2 ^ 53) : rm (e * 2 ^ 52 + f) = f ∧ rq (e * 2 ^ 52 + f) = -1074 + (e : Nat) := by
  have h : ¬ (e * 2 ^ 52 + f < 2 ^ 52) := by
    have := Nat.zero_le (e * 2 ^ 52)
    omega
  obtain ⟨d1, d2⟩ := div_norm e f h1 h2
  unfold rm rq
  rw [if_neg h, if_neg h, d1, d2]
  constructor
  · omega
  · rfl

/-- What the format has comes out of rounding as it is. -/
theorem exact_repr {m : Nat} {p : Int} (hm : m < 2 ^ 53) (hp : -1074 ≤ p) (hl : p + m.log2 ≤ 1023) :
    eqv m p (rm (rung m p)) (rq (rung m p)) ∧ rung m p < 2047 * 2 ^ 52 := by
  by_cases h0 : m = 0
  · subst h0
    have e1 : rung 0 p = 0 := by unfold rung; rw [if_pos rfl]
    have e2 : rm 0 = 0 := by decide
    rw [e1, e2]
    exact ⟨eqv_zero _ _, by decide⟩
  · have hlog : m.log2 < 53 := (Nat.log2_lt h0).2 hm
    have a1 : 2 ^ m.log2 ≤ m := Nat.log2_self_le h0
    have a2 : m < 2 ^ (m.log2 + 1) := Nat.lt_log2_self
    by_cases hn : -1074 ≤ p + m.log2 - 52
    · have hs := eqv_shift m (52 - m.log2) p
      obtain ⟨e, he⟩ : ∃ e : Nat, p - ((52 - m.log2 : Nat) : Int) = -1074 + (e : Nat) := ⟨(p + m.log2 - 52 + 1074).toNat, by omega⟩
      rw [he] at hs
      have f1 : 2 ^ 52 ≤ m * 2 ^ (52 - m.log2) := by
        have := Nat.mul_le_mul_right (2 ^ (52 - m.log2)) a1
        rw [← Nat.pow_add] at this
        have e3 : m.log2 + (52 - m.log2) = 52 := by omega
        rwa [e3] at this
      have f2 : m * 2 ^ (52 - m.log2) < 2 ^ 53 := by
        have := Nat.mul_lt_mul_of_pos_right a2 (Nat.two_pow_pos (52 - m.log2))
        rw [← Nat.pow_add] at this
        have e3 : m.log2 + 1 + (52 - m.log2) = 53 := by omega
        rwa [e3] at this
      have hr := eqv_rung hs
      rw [rung_norm _ e f1 f2] at hr
      have he2 : e ≤ 2045 := by omega
      have hlt : e * 2 ^ 52 + m * 2 ^ (52 - m.log2) < 2047 * 2 ^ 52 := by
        have := Nat.mul_le_mul_right (2 ^ 52) he2
        omega
      rw [Nat.min_eq_left (Nat.le_of_lt hlt)] at hr
      rw [hr]
      obtain ⟨g1, g2⟩ := rm_norm e _ f1 f2
      rw [g1, g2]
      exact ⟨hs, hlt⟩
    · have hs : eqv m p (m * 2 ^ (p + 1074).toNat) (-1074) := by
        have := eqv_shift m (p + 1074).toNat p
        have e3 : p - ((p + 1074).toNat : Int) = -1074 := by omega
        rwa [e3] at this
      have f2 : m * 2 ^ (p + 1074).toNat < 2 ^ 52 := by
        have := Nat.mul_lt_mul_of_pos_right a2 (Nat.two_pow_pos (p + 1074).toNat)
        rw [← Nat.pow_add] at this
        refine Nat.lt_of_lt_of_le this (Nat.pow_le_pow_right (by omega) ?_)
        omega
      have hr := eqv_rung hs
      rw [rung_sub _ f2] at hr
      rw [hr]
      have e1 : rm (m * 2 ^ (p + 1074).toNat) = m * 2 ^ (p + 1074).toNat := by unfold rm; rw [if_pos f2]
      have e2 : rq (m * 2 ^ (p + 1074).toNat) = -1074 := by unfold rq; rw [if_pos f2]
      rw [e1, e2]
      exact ⟨hs, by omega⟩

/-! ### words and their parts -/
theorem rg_word (s : Bool) (k : Nat) (h : k < 2 ^ 63) : rg (D.word s k) = k := by
  unfold rg Format.word
  rw [sw_eq]
  cases s
  · simp only [Bool.false_eq_true, if_false]; exact Nat.mod_eq_of_lt h
  · simp only [if_true]; rw [Nat.add_mod_left]; exact Nat.mod_eq_of_lt h
theorem sg_word (s : Bool) (k : Nat) (h : k < 2 ^ 63) : sg (D.word s k) = s := by
  unfold sg Format.word
  rw [sw_eq]
  cases s
  · simp only [Bool.false_eq_true, if_false]; rw [Nat.div_eq_of_lt h]; rfl
  · simp only [if_true]; rw [Nat.add_div_left _ (Nat.two_pow_pos _), Nat.div_eq_of_lt h]; rfl
theorem word_of (x : Nat) (h : x < 2 ^ 64) : D.word (sg x) (rg x) = x := by
  unfold sg rg Format.word
  rw [sw_eq]
  have h2 : x / 2 ^ 63 < 2 := by omega
  by_cases hx : x / 2 ^ 63 = 1
  · have : (x / 2 ^ 63 % 2 == 1) = true := by rw [hx]; rfl
    rw [this]; simp only [if_true]; omega
  · have h0 : x / 2 ^ 63 = 0 := by omega
    have : (x / 2 ^ 63 % 2 == 1) = false := by rw [h0]; rfl
    rw [this]; simp only [Bool.false_eq_true, if_false]; omega
theorem key_word (s : Bool) (k : Nat) (h : k < 2 ^ 63) : key (D.word s k) = if s then -(k : Int) else (k : Int) := by
  unfold key
  rw [rg_word s k h, sg_word s k h]
theorem write_number (s : Bool) (m : Nat) (p : Int) : D.write (.number s m p) = D.word s (rung m p) := nearest_rung s m p
theorem rung_lt63 (m : Nat) (p : Int) : rung m p < 2 ^ 63 := by
  have := rung_le m p
  omega
theorem read_word (s : Bool) (k : Nat) (h : k < 2047 * 2 ^ 52) : D.read (D.word s k) = .number s (rm k) (rq k) := by
  have h63 : k < 2 ^ 63 := by omega
  rw [read_eq, rg_word s k h63, sg_word s k h63, if_pos h]
theorem read_inf (s : Bool) : D.read (D.word s (2047 * 2 ^ 52)) = .infinity s := by
  have h63 : 2047 * 2 ^ 52 < 2 ^ 63 := by decide
  rw [read_eq, rg_word s _ h63, sg_word s _ h63, if_neg (by omega), if_pos rfl]

end Go.Proofs.YtknidlahblfnnaaDoor.Ie
