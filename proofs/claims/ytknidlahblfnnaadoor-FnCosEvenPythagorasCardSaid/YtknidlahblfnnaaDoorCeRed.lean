/-
  The reduction of the argument: |z| is at most 0.786 on both roads. No program in sight.
-/
import Derived.Test.YtknidlahblfnnaaDoorCePol
namespace Go.Proofs.YtknidlahblfnnaaDoor.Ce
open Go Fl Small2 Mono Ieee

/-! ### the cut of a float to an integer -/
theorem cut_zero (neg : Bool) (n drop : Nat) : Toward.zero.cut neg n drop = n / 2 ^ drop := by
  unfold Toward.cut
  dsimp only
  rw [Nat.shiftLeft_eq, Nat.one_mul]
  have hn : n < 2 ^ (n.log2 + 1) := Nat.lt_log2_self
  by_cases h : drop ≤ n.log2 + 2
  · rw [Nat.min_eq_left h]
    rfl
  · have h' : n.log2 + 2 ≤ drop := by omega
    rw [Nat.min_eq_right h']
    have e1 : 2 ^ (n.log2 + 2) = 2 * 2 ^ (n.log2 + 1) := by rw [Nat.pow_succ 2 (n.log2 + 1)]; omega
    have e2 : 2 ^ (n.log2 + 2) ≤ 2 ^ drop := Nat.pow_le_pow_right (by omega) h'
    have f1 : n / 2 ^ (n.log2 + 2) = 0 := Nat.div_eq_of_lt (by omega)
    have f3 : n / 2 ^ drop = 0 := Nat.div_eq_of_lt (by omega)
    rw [f1, f3]
    rfl
def big31 : Nat := 4746794007248502784
theorem fin_31 : Small2.fin big31 = true := by decide +kernel
theorem val_31 : val big31 = 2 ^ 31 := by rw [val_of (x := big31) 0 (2 ^ 31) (by decide +kernel)]; decide +kernel
theorem rq_neg (k : Nat) (h : k < 1075 * 2 ^ 52) : Ie.rq k ≤ -1 := by
  unfold Ie.rq
  split <;> omega
theorem trunc_ok {p : Nat} (hf : Small2.fin p = true) (h0 : 0 ≤ val p) (h1 : val p ≤ 2 ^ 31) :
    ∃ n : Nat, floatToIntVal .f64 p .u64 = some (n : Int) ∧ (n : Rat) ≤ val p ∧ val p ≤ (n : Rat) + 1 := by
  have k1 := key_le_of_val hf fin_31 (by rw [val_31]; exact h1)
  have k0 := key_le_of_val fin_zero hf (by rw [val_zero]; exact h0)
  have e31 : Ie.key big31 = (4746794007248502784 : Int) := by decide +kernel
  have e0 : Ie.key 0 = 0 := by decide +kernel
  rw [e31] at k1
  rw [e0] at k0
  have hr : Ie.rg p ≤ 4746794007248502784 := by unfold Ie.key at k1 k0; split at k1 <;> rename_i c <;> simp [c] at k0 <;> omega
  have hq := rq_neg (Ie.rg p) (by omega)
  have hlo := FloorMath.rq_lo (Ie.rg p)
  have hread := fin_read hf
  have hVn := val_le (x := 0) (y := p) (by rw [val_zero]; exact h0)
  have eV0 : V 0 = 0 := by decide +kernel
  rw [eV0] at hVn
  have hV : V p = (Ie.at_ (Ie.rm (Ie.rg p)) (Ie.rq (Ie.rg p)) (-1074) : Int) := by
    unfold V at hVn ⊢
    split at hVn <;> rename_i c
    · rw [if_pos c]; omega
    · rw [if_neg c]
  have hsz : Ie.sg p = true → Ie.rm (Ie.rg p) = 0 := by
    intro c
    unfold V at hVn
    rw [if_pos c] at hVn
    have : Ie.at_ (Ie.rm (Ie.rg p)) (Ie.rq (Ie.rg p)) (-1074) = 0 := by omega
    unfold Ie.at_ at this
    rcases Nat.mul_eq_zero.1 this with h | h
    · exact h
    · exact absurd h (Nat.ne_of_gt (Nat.two_pow_pos _))
  have hm := FloorMath.rm_lt (Ie.rg p)
  generalize Ie.rm (Ie.rg p) = m at *
  generalize Ie.rq (Ie.rg p) = q at *
  obtain ⟨d, hd⟩ : ∃ d : Nat, q = -(d : Int) := ⟨(-q).toNat, by omega⟩
  refine ⟨m / 2 ^ d, ?_, ?_⟩
  · unfold floatToIntVal
    have e : (FloatKind.f64.decode p).toInt .zero = some ((m / 2 ^ d : Nat) : Int) := by
      show (D.read p).toInt .zero = _
      rw [hread]
      unfold Datum.toInt Datum.integral
      dsimp only
      have e1 : q.toNat = 0 := by omega
      have e2 : (-q).toNat = d := by omega
      rw [e1, e2, Nat.shiftLeft_zero, cut_zero]
      cases hs : Ie.sg p
      · simp [signed]
      · rw [hsz hs]; simp [signed]
    rw [e]
    have hle : m / 2 ^ d ≤ m := Nat.div_le_self _ _
    have i1 : IntKind.u64.min = 0 := rfl
    have i2 : IntKind.u64.max = 18446744073709551615 := rfl
    simp only [i1, i2]
    rw [if_pos]
    generalize m / 2 ^ d = n at *
    omega
  · have hd74 : d ≤ 1074 := by omega
    have l1 : m / 2 ^ d * 2 ^ d ≤ m := Nat.div_mul_le_self _ _
    have l2 : m ≤ (m / 2 ^ d + 1) * 2 ^ d := by
      have := Nat.div_add_mod m (2 ^ d)
      have := Nat.mod_lt m (Nat.two_pow_pos d)
      rw [Nat.add_mul, Nat.mul_comm (m / 2 ^ d)]
      omega
    have eT : (2 : Nat) ^ d * 2 ^ (n74 - d) = Tn := by
      unfold Tn
      rw [← Nat.pow_add]
      congr 1
      have := n74_eq
      omega
    have eV : V p = ((m * 2 ^ (n74 - d) : Nat) : Int) := by
      rw [hV]
      unfold Ie.at_
      have : (q - -1074).toNat = n74 - d := by have := n74_eq; omega
      rw [this]
    have t1 : m / 2 ^ d * Tn ≤ m * 2 ^ (n74 - d) := by
      rw [← eT, ← Nat.mul_assoc]
      exact Nat.mul_le_mul_right _ l1
    have t2 : m * 2 ^ (n74 - d) ≤ (m / 2 ^ d + 1) * Tn := by
      rw [← eT, ← Nat.mul_assoc]
      exact Nat.mul_le_mul_right _ l2
    generalize m / 2 ^ d = n at *
    generalize m * 2 ^ (n74 - d) = v at *
    have r1 := Rat.natCast_le_natCast.2 t1
    have r2 := Rat.natCast_le_natCast.2 t2
    rw [Rat.natCast_mul] at r1 r2
    have eN : ((n + 1 : Nat) : Rat) = (n : Rat) + 1 := by rw [Rat.natCast_add]; rfl
    rw [eN] at r2
    have ev2 : val p = (v : Rat) * tau := by unfold val; rw [eV, Rat.intCast_natCast]
    have tp := Rat.le_of_lt tau_pos
    have s1 := Rat.mul_le_mul_of_nonneg_right r1 tp
    have s2 := Rat.mul_le_mul_of_nonneg_right r2 tp
    have tm := tau_mul
    rw [ev2]
    generalize (v : Rat) = v' at *
    generalize (n : Rat) = n' at *
    generalize (Tn : Rat) = T' at *
    generalize tau = t at *
    have w1 : n' * T' * t = n' := by rw [Rat.mul_assoc, Rat.mul_comm T' t, tm, Rat.mul_one]
    have w2 : (n' + 1) * T' * t = n' + 1 := by rw [Rat.mul_assoc, Rat.mul_comm T' t, tm, Rat.mul_one]
    rw [w1] at s1
    rw [w2] at s2
    exact ⟨s1, s2⟩
theorem ofInt_ap {n : Nat} {M : Rat} (h : (n : Rat) ≤ M) (hM : M ≤ 2 ^ 40) : Ap (floatOfInt .f64 (n : Int)) (n : Rat) (M / 2 ^ 53) := by
  have hn0 : (0 : Rat) ≤ (n : Rat) := by
    have := Rat.natCast_le_natCast.2 (Nat.zero_le n)
    simpa using this
  have k : Ie.key (floatOfInt .f64 (n : Int)) = K (-1074) ((n * Tn : Nat) : Int) := by
    have e : floatOfInt .f64 (n : Int) = D.write (.number false n 0) := by
      show D.write (.number _ _ 0) = _
      have : decide ((n : Int) < 0) = false := decide_eq_false (by omega)
      rw [this, Int.natAbs_natCast]
    rw [e]
    refine (key_number false n 0 (-1074) _ (by omega) ?_).1
    simp only [Bool.false_eq_true, if_false]
    unfold Ie.at_ Tn
    have : ((0 : Int) - -1074).toNat = n74 := by rw [n74_eq]; rfl
    rw [this]
  have e : (((n * Tn : Nat) : Int) : Rat) * tau = (n : Rat) := by
    rw [Rat.intCast_natCast, Rat.natCast_mul, Rat.mul_assoc, Rat.mul_comm (Tn : Rat) tau, tau_mul, Rat.mul_one]
  have r := round74 k (M := M) (by rw [e]; exact h) (by rw [e]; grind) hM
  rw [e] at r
  exact r

/-! ### below 2 ^ 29 -/
def c4pi : Nat := 4608412980311869571
def pA : Nat := 4605249456957292544
def pB : Nat := 4495793288086814720
def p3 : Nat := 4388835458085048688
def pi4 : Nat := 4605249457297304856
theorem ap_c4pi : Ap c4pi (5734161139222659 / 2 ^ 52) 0 := ap_of (by decide +kernel) (by rw [val_of (x := c4pi) 52 5734161139222659 (by decide +kernel)]; decide +kernel)
theorem ap_pA : Ap pA (6588397 / 2 ^ 23) 0 := ap_of (by decide +kernel) (by rw [val_of (x := pA) 23 6588397 (by decide +kernel)]; decide +kernel)
theorem ap_pB : Ap pB (1328173 / 2 ^ 45) 0 := ap_of (by decide +kernel) (by rw [val_of (x := pB) 45 1328173 (by decide +kernel)]; decide +kernel)
theorem ap_p3 : Ap p3 (427063790847255 / 2 ^ 97) 0 := ap_of (by decide +kernel) (by rw [val_of (x := p3) 97 427063790847255 (by decide +kernel)]; decide +kernel)
theorem ap_pi4 : Ap pi4 (884279719003555 / 2 ^ 50) 0 := ap_of (by decide +kernel) (by rw [val_of (x := pi4) 50 884279719003555 (by decide +kernel)]; decide +kernel)
/-- The phase, before it is mapped. -/
def phN (x : Nat) : Nat := ((floatToIntVal .f64 (fo .mul x c4pi) .u64).getD 0).toNat
/-- The phase as a float, mapped. -/
def phY (x : Nat) : Nat := if phN x % 2 = 1 then fo .add (floatOfInt .f64 (phN x : Int)) one else floatOfInt .f64 (phN x : Int)
def phZ (x : Nat) : Nat := fo .sub (fo .sub (fo .sub x (fo .mul (phY x) pA)) (fo .mul (phY x) pB)) (fo .mul (phY x) p3)
/-- All that the walk of the small road asks. -/
structure Small (x : Nat) : Prop where
  p : Small2.fin (fo .mul x c4pi) = true
  n : floatToIntVal .f64 (fo .mul x c4pi) .u64 = some (phN x : Int)
  lt : phN x < 2 ^ 40
  y0 : Small2.fin (floatOfInt .f64 (phN x : Int)) = true
  y : Small2.fin (phY x) = true
  a : Small2.fin (fo .mul (phY x) pA) = true
  s1 : Small2.fin (fo .sub x (fo .mul (phY x) pA)) = true
  b : Small2.fin (fo .mul (phY x) pB) = true
  s2 : Small2.fin (fo .sub (fo .sub x (fo .mul (phY x) pA)) (fo .mul (phY x) pB)) = true
  c : Small2.fin (fo .mul (phY x) p3) = true
  z : Red (phZ x)
theorem small_ok {x : Nat} (hf : Small2.fin x = true) (h0 : 0 ≤ V x) (h1 : val x ≤ 2 ^ 29) : Small x := by
  have x0 := val_nonneg h0
  have ax := Ap.self hf
  have bx : Bd (val x) (2 ^ 29) := ⟨h1, by grind⟩
  have bk : Bd (5734161139222659 / 2 ^ 52 : Rat) (4 / 3) := by unfold Bd; decide +kernel
  have mp := Ap.mul (M := 2 ^ 30) (d := 1 / 2 ^ 22) ax ap_c4pi bx bk (by decide +kernel) (by decide +kernel) (by decide +kernel) (by decide +kernel)
  have p0 : 0 ≤ val (fo .mul x c4pi) := mul_nonneg_val hf ap_c4pi.1 (Int.mul_nonneg h0 (by decide +kernel))
  have p1 := mp.2.1
  have p2 := mp.2.2
  have hn0 : val (fo .mul x c4pi) ≤ 683565277 := by grind
  obtain ⟨n, e1, e2, e3⟩ := trunc_ok mp.1 p0 (by grind)
  have en : phN x = n := by unfold phN; rw [e1]; rfl
  have hn1 : (n : Rat) ≤ 683565277 := by grind
  have hnn : n < 2 ^ 40 := by
    have : (n : Rat) ≤ ((683565277 : Nat) : Rat) := hn1
    have := Rat.natCast_le_natCast.1 this
    omega
  have y0 := ofInt_ap (n := n) (M := 2 ^ 30) (by grind) (by decide +kernel)
  have ao : Ap one 1 0 := ap_of fin_one val_one
  have hn00 : (0 : Rat) ≤ (n : Rat) := by
    have := Rat.natCast_le_natCast.2 (Nat.zero_le n)
    simpa using this
  -- the mapped phase
  obtain ⟨J, hJ, hJ1, hJ2, hJ3, hJ4⟩ : ∃ J : Rat, Ap (phY x) J (1 / 2 ^ 20) ∧ 0 ≤ J ∧ J ≤ 683565278 ∧ val (fo .mul x c4pi) - J ≤ 1 ∧ J - val (fo .mul x c4pi) ≤ 1 := by
    unfold phY
    rw [en]
    split
    · refine ⟨(n : Rat) + 1, ?_, by grind, by grind, by grind, by grind⟩
      exact Ap.add (M := 2 ^ 31) (B := 2 ^ 30) y0 ao ⟨by grind, by grind⟩ (by decide +kernel) (by decide +kernel) (by decide +kernel)
    · exact ⟨(n : Rat), y0.weak (by decide +kernel), by grind, by grind, by grind, by grind⟩
  have g1 : val x * (5734161139222659 / 2 ^ 52) - J ≤ 1 + 1 / 2 ^ 22 := by grind
  have g2 : J - val x * (5734161139222659 / 2 ^ 52) ≤ 1 + 1 / 2 ^ 22 := by grind
  have bJ : Bd J 683565278 := ⟨hJ2, by grind⟩
  have bA : Bd (6588397 / 2 ^ 23 : Rat) (4 / 5) := by unfold Bd; decide +kernel
  have bB : Bd (1328173 / 2 ^ 45 : Rat) (1328173 / 2 ^ 45) := by unfold Bd; decide +kernel
  have bC : Bd (427063790847255 / 2 ^ 97 : Rat) (1 / 2 ^ 48) := by unfold Bd; decide +kernel
  have a := Ap.mul (M := 2 ^ 30) (d := 1 / 2 ^ 19) hJ ap_pA bJ bA (by decide +kernel) (by decide +kernel) (by decide +kernel) (by decide +kernel)
  have d1 : Bd (val x - J * (6588397 / 2 ^ 23)) 27 := by unfold Bd; constructor <;> grind
  have s1 := Ap.sub (M := 32) (d := 1 / 2 ^ 18) ax a d1 (by decide +kernel) (by decide +kernel) (by decide +kernel)
  have b := Ap.mul (M := 32) (d := 1 / 2 ^ 30) hJ ap_pB bJ bB (by decide +kernel) (by decide +kernel) (by decide +kernel) (by decide +kernel)
  have d2 : Bd (val x - J * (6588397 / 2 ^ 23) - J * (1328173 / 2 ^ 45)) (7855 / 10000) := by unfold Bd; constructor <;> grind
  have s2 := Ap.sub (M := 1) (d := 1 / 2 ^ 17) s1 b d2 (by decide +kernel) (by decide +kernel) (by decide +kernel)
  have c := Ap.mul (M := 1 / 2 ^ 10) (d := 1 / 2 ^ 30) hJ ap_p3 bJ bC (by decide +kernel) (by decide +kernel) (by decide +kernel) (by decide +kernel)
  have d3 : Bd (val x - J * (6588397 / 2 ^ 23) - J * (1328173 / 2 ^ 45) - J * (427063790847255 / 2 ^ 97)) (7856 / 10000) := by
    have q := Bd.weak (C := 1 / 100000) (bJ.mul bC) (by decide +kernel)
    unfold Bd at *
    constructor <;> grind
  have s3 := Ap.sub (M := 1) (d := 1 / 2 ^ 16) s2 c d3 (by decide +kernel) (by decide +kernel) (by decide +kernel)
  exact ⟨mp.1, by rw [en]; exact e1, by rw [en]; exact hnn, by rw [en]; exact y0.1, hJ.1, a.1, s1.1, b.1, s2.1, c.1, s3.1, (s3.val_bd d3).weak (by decide +kernel)⟩

/-! ### from 2 ^ 29 on: a float of [0, 1), maybe less 1, times pi / 4 -/
def bgZ (odd : Bool) (z0 : Nat) : Nat := fo .mul (if odd then fo .sub z0 one else z0) pi4
theorem big_ok {z0 : Nat} (h : z0 < one) (odd : Bool) : Small2.fin z0 = true ∧ Small2.fin (if odd then fo .sub z0 one else z0) = true ∧ Red (bgZ odd z0) := by
  have ho : one = 4607182418800017408 := rfl
  have e1 : Ie.rg z0 = z0 := Nat.mod_eq_of_lt (by omega)
  have e2 : Ie.sg z0 = false := by
    unfold Ie.sg
    have : z0 / 2 ^ 63 = 0 := Nat.div_eq_of_lt (by omega)
    rw [this]
    rfl
  have ek : Ie.key z0 = (z0 : Int) := by
    unfold Ie.key
    rw [e1, e2]
    rfl
  have ek1 : Ie.key one = (4607182418800017408 : Int) := by decide +kernel
  have ek0 : Ie.key 0 = 0 := by decide +kernel
  have hf : Small2.fin z0 = true := by
    unfold Small2.fin
    rw [e1]
    exact decide_eq_true (by omega)
  have v1 := val_le_of_key hf fin_one (by rw [ek, ek1]; omega)
  have v0 := val_le_of_key fin_zero hf (by rw [ek, ek0]; omega)
  rw [val_one] at v1
  rw [val_zero] at v0
  refine ⟨hf, ?_⟩
  have bp : Bd (884279719003555 / 2 ^ 50 : Rat) (884279719003555 / 2 ^ 50) := by unfold Bd; decide +kernel
  unfold bgZ
  cases odd
  · simp only [Bool.false_eq_true, if_false]
    have bz : Bd (val z0) 1 := ⟨v1, by grind⟩
    have m := Ap.mul (M := 1) (d := 1 / 2 ^ 40) (Ap.self hf) ap_pi4 bz bp (by decide +kernel) (by decide +kernel) (by decide +kernel) (by decide +kernel)
    exact ⟨hf, m.1, (m.val_bd (bz.mul bp)).weak (by decide +kernel)⟩
  · simp only [if_true]
    have ao : Ap one 1 0 := ap_of fin_one val_one
    have bz : Bd (val z0 - 1) 1 := ⟨by grind, by grind⟩
    have s := Ap.sub (M := 1) (d := 1 / 2 ^ 50) (Ap.self hf) ao bz (by decide +kernel) (by decide +kernel) (by decide +kernel)
    have m := Ap.mul (M := 1) (d := 1 / 2 ^ 40) s ap_pi4 bz bp (by decide +kernel) (by decide +kernel) (by decide +kernel) (by decide +kernel)
    exact ⟨s.1, m.1, (m.val_bd (bz.mul bp)).weak (by decide +kernel)⟩
end Go.Proofs.YtknidlahblfnnaaDoor.Ce
