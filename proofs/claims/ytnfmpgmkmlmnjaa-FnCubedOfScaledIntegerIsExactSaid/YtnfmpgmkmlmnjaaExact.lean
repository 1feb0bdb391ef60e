/-
  Exact floats: products, halves and conversions that need no rounding, in plain mathematics. No condition.
-/
import Derived.Test.YtnfmpgmkmlmnjaaMono
namespace Go.Proofs.Ytnfmpgmkmlmnjaa.Exact
open Fl Bits Small2 Ieee

/-- x is exactly m * 2 ^ p, with its sign. -/
structure Ex (x : Nat) (s : Bool) (m : Nat) (p : Int) : Prop where
  word : x = D.word s (Ie.rung m p)
  eqv : Ie.eqv m p (Ie.rm (Ie.rung m p)) (Ie.rq (Ie.rung m p))
  lt : Ie.rung m p < 2047 * 2 ^ 52

theorem ex_of (s : Bool) {m : Nat} {p : Int} (hm : m < 2 ^ 53) (hp : -1074 ≤ p) (hl : p + m.log2 ≤ 1023) : Ex (D.word s (Ie.rung m p)) s m p :=
  ⟨rfl, (Ie.exact_repr hm hp hl).1, (Ie.exact_repr hm hp hl).2⟩

variable {x y r : Nat} {s t : Bool} {m n : Nat} {p q : Int}

theorem Ex.read (h : Ex x s m p) : ∃ m' p', D.read x = .number s m' p' ∧ Ie.eqv m p m' p' := by
  refine ⟨_, _, ?_, h.eqv⟩
  rw [h.word, D_eq]
  exact Ie.read_word s _ h.lt

theorem eqv_mul {a b c d : Nat} {i j k l : Int} (h1 : Ie.eqv a i b j) (h2 : Ie.eqv c k d l) : Ie.eqv (a * c) (i + k) (b * d) (j + l) := by
  rw [Ie.eqv_at _ _ _ _ (min i j) (by omega) (by omega)] at h1
  rw [Ie.eqv_at _ _ _ _ (min k l) (by omega) (by omega)] at h2
  rw [Ie.eqv_at _ _ _ _ (min i j + min k l) (by omega) (by omega)]
  have e : ∀ (u v : Nat) (f g f' g' : Int), f' ≤ f → g' ≤ g → Ie.at_ (u * v) (f + g) (f' + g') = Ie.at_ u f f' * Ie.at_ v g g' := by
    intro u v f g f' g' hf hg
    unfold Ie.at_
    have : (f + g - (f' + g')).toNat = (f - f').toNat + (g - g').toNat := by omega
    rw [this, Nat.pow_add]
    simp only [Nat.mul_assoc, Nat.mul_left_comm]
  rw [e _ _ _ _ _ _ (by omega) (by omega), e _ _ _ _ _ _ (by omega) (by omega), h1, h2]

theorem Ex.mul (hx : Ex x s m p) (hy : Ex y t n q) (h : FR .mul x y r) : r = D.word (s ^^ t) (Ie.rung (m * n) (p + q)) := by
  obtain ⟨m', p', e1, v1⟩ := hx.read
  obtain ⟨n', q', e2, v2⟩ := hy.read
  have e : floatBits .mul .f64 x y = ((D.read x).product (D.read y)).map D.write := rfl
  rw [e1, e2] at e
  simp only [Datum.product, Option.map] at e
  unfold FR at h
  rw [e] at h
  have h : r = D.write (.number (s ^^ t) (m' * n') (p' + q')) := h
  rw [h, D_eq, Ie.write_number, Ie.eqv_rung (eqv_mul v1 v2)]

theorem read_two : D.read 4611686018427387904 = .number false 4503599627370496 (-51) := by decide

theorem Ex.half (hx : Ex x s m p) (hm0 : m ≠ 0) (hm : m < 2 ^ 53) (h : FR .quo x 4611686018427387904 r) : r = D.word s (Ie.rung m (p - 1)) := by
  obtain ⟨m', p', e1, v1⟩ := hx.read
  have e : floatBits .quo .f64 x 4611686018427387904 = ((D.read x).quotient 54 (D.read 4611686018427387904)).map D.write := rfl
  rw [e1, read_two] at e
  have hlt : m' < 2 ^ 53 := by
    have := FloorMath.rm_lt (Ie.rg x)
    have hx2 := e1
    rw [hx.word, D_eq, Ie.read_word s _ hx.lt] at hx2
    cases hx2
    exact FloorMath.rm_lt _
  have hm' : m' ≠ 0 := by
    intro h0
    subst h0
    rw [Ie.eqv_at _ _ _ _ (min p p') (by omega) (by omega), (Ie.at_zero 0 _ _).2 rfl, Ie.at_zero] at v1
    exact hm0 v1
  have hlog : m'.log2 < 53 := (Nat.log2_lt hm').2 hlt
  have hl2 : (4503599627370496 : Nat).log2 = 52 := by decide
  simp only [Datum.quotient, hl2] at e
  rw [if_neg (by decide)] at e
  generalize hmore : 54 + 52 - m'.log2 = more at e
  have hmo : 52 ≤ more := by omega
  have e2 : (m' <<< more) / 4503599627370496 = m' * 2 ^ (more - 52) ∧ (m' <<< more) % 4503599627370496 = 0 := by
    rw [Nat.shiftLeft_eq]
    have : 2 ^ more = 2 ^ (more - 52) * 4503599627370496 := by
      have : (4503599627370496 : Nat) = 2 ^ 52 := by decide
      rw [this, ← Nat.pow_add]
      congr 1
      omega
    rw [this, ← Nat.mul_assoc]
    exact ⟨Nat.mul_div_cancel _ (by decide), Nat.mul_mod_left _ _⟩
  rw [e2.1, e2.2] at e
  unfold FR at h
  rw [e] at h
  have h : r = D.write (.number (s ^^ false) (2 * (m' * 2 ^ (more - 52)) + (0 != 0).toNat) (p' - (-51) - more - 1)) := h
  rw [h, D_eq, Ie.write_number]
  have hz : ((0 : Nat) != 0).toNat = 0 := rfl
  rw [hz, Nat.add_zero, Bool.xor_false]
  congr 1
  refine Ie.eqv_rung ?_
  have v2 := Ie.eqv_shift m' (more - 51) (p' - 1)
  have e3 : m' * 2 ^ (more - 51) = 2 * (m' * 2 ^ (more - 52)) := by
    have : more - 51 = (more - 52) + 1 := by omega
    rw [this, Nat.pow_succ]
    simp only [Nat.mul_comm, Nat.mul_left_comm]
  have e4 : p' - 1 - ((more - 51 : Nat) : Int) = p' - (-51) - more - 1 := by omega
  rw [e3, e4] at v2
  have v3 : Ie.eqv m (p - 1) m' (p' - 1) := by
    rw [Ie.eqv_at _ _ _ _ (min p p') (by omega) (by omega)] at v1
    rw [Ie.eqv_at _ _ _ _ (min p p' - 1) (by omega) (by omega)]
    unfold Ie.at_ at *
    have f1 : (p - 1 - (min p p' - 1)).toNat = (p - min p p').toNat := by omega
    have f2 : (p' - 1 - (min p p' - 1)).toNat = (p' - min p p').toNat := by omega
    rw [f1, f2]; exact v1
  exact (v3.trans v2).symm

/-- 2 ^ k. -/
def P2 (k : Int) : Nat := D.word false (Ie.rung 1 k)
theorem log_one : (1 : Nat).log2 = 0 := by decide
theorem P2_ex (k : Int) (h1 : -1074 ≤ k) (h2 : k ≤ 1023) : Ex (P2 k) false 1 k := ex_of false (by decide) h1 (by rw [log_one]; omega)
theorem P2_zero : P2 0 = 4607182418800017408 := by decide
theorem P2_one : P2 1 = 4611686018427387904 := by decide
theorem P2_double {k : Int} (h1 : -1074 ≤ k) (h2 : k ≤ 1023) (h : FR .mul (P2 k) 4611686018427387904 r) : r = P2 (k + 1) := by
  have e : Ex 4611686018427387904 false 1 1 := by rw [← P2_one]; exact P2_ex 1 (by decide) (by decide)
  have := (P2_ex k h1 h2).mul e h
  rw [this]
  rfl
theorem P2_half {k : Int} (h1 : -1074 ≤ k) (h2 : k ≤ 1023) (h : FR .quo (P2 k) 4611686018427387904 r) : r = P2 (k - 1) :=
  (P2_ex k h1 h2).half (by decide) (by decide) h
end Go.Proofs.Ytnfmpgmkmlmnjaa.Exact
