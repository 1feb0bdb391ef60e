/-
  Finite floats as integers of units of 2 ^ -1074: how sums, differences and products round, in plain mathematics. No condition.
-/
import Derived.Test.YtknidlahblfnnaaDoorFl
namespace Go.Proofs.YtknidlahblfnnaaDoor.FloorMath
open Fl Ieee

theorem rm_lt (k : Nat) : Ie.rm k < 2 ^ 53 := by
  unfold Ie.rm
  split <;> omega
theorem rq_lo (k : Nat) : -1074 ≤ Ie.rq k := by
  unfold Ie.rq; split <;> omega

theorem not_nan_le {x : Nat} (hn : nan x = false) : Ie.rg x ≤ 2047 * 2 ^ 52 := by
  rw [nan_eq] at hn
  have := of_decide_eq_false hn
  omega

theorem nan_word {s : Bool} {k : Nat} (h : k ≤ 2047 * 2 ^ 52) : nan (D.word s k) = false := by
  rw [nan_eq, D_eq, Ie.rg_word _ _ (by omega)]
  exact decide_eq_false (by omega)
theorem keyOf_word {s : Bool} {k : Nat} (h : k ≤ 2047 * 2 ^ 52) : Ie.key (D.word s k) = if s then -(k : Int) else (k : Int) := by
  rw [D_eq]; exact Ie.key_word s k (by omega)

end Go.Proofs.YtknidlahblfnnaaDoor.FloorMath
namespace Go.Proofs.YtknidlahblfnnaaDoor.Small2
open Go.RowKit Fl Ieee

theorem le_key {x y : Nat} (hx : nan x = false) (hy : nan y = false) : (D.order x y == some .lt || D.order x y == some .eq) = decide (Ie.key x ≤ Ie.key y) := by
  rw [lss_key hx hy, eql_key hx hy, ← Bool.decide_or]
  exact decide_eq_decide.2 (by omega)
theorem ge_key {x y : Nat} (hx : nan x = false) (hy : nan y = false) : (D.order x y == some .gt || D.order x y == some .eq) = decide (Ie.key y ≤ Ie.key x) := by
  rw [gtr_key hx hy, eql_key hx hy, ← Bool.decide_or]
  exact decide_eq_decide.2 (by omega)

/-- finite: no NaN and no infinity. -/
def fin (x : Nat) : Bool := decide (Ie.rg x < 2047 * 2 ^ 52)
theorem fin_not_nan {x : Nat} (h : fin x = true) : nan x = false := by
  unfold fin at h
  have := of_decide_eq_true h
  rw [nan_eq]; exact decide_eq_false (by omega)
theorem fin_read {x : Nat} (h : fin x = true) : D.read x = .number (Ie.sg x) (Ie.rm (Ie.rg x)) (Ie.rq (Ie.rg x)) := by
  unfold fin at h
  rw [D_eq, Ie.read_eq, if_pos (of_decide_eq_true h)]
theorem inf_read {x : Nat} (h : fin x = false) (hn : nan x = false) : D.read x = .infinity (Ie.sg x) ∧ Ie.rg x = 2047 * 2 ^ 52 := by
  unfold fin at h
  have h1 := of_decide_eq_false h
  have h2 := FloorMath.not_nan_le hn
  rw [D_eq, Ie.read_eq, if_neg h1, if_pos (by omega)]
  exact ⟨rfl, by omega⟩
theorem nan_read {x : Nat} (hn : nan x = true) : ∃ s t, D.read x = .nan s t := by
  unfold nan at hn
  cases h : D.read x <;> simp [h, Datum.isNaN] at hn
  exact ⟨_, _, rfl⟩

end Go.Proofs.YtknidlahblfnnaaDoor.Small2
namespace Go.Proofs.YtknidlahblfnnaaDoor.Mono
open Fl Small2 Ieee

/-- The value of a finite float in units of 2 ^ -1074. -/
def V (x : Nat) : Int := if Ie.sg x then -(Ie.at_ (Ie.rm (Ie.rg x)) (Ie.rq (Ie.rg x)) (-1074) : Int) else (Ie.at_ (Ie.rm (Ie.rg x)) (Ie.rq (Ie.rg x)) (-1074) : Int)

/-- The rung, with its sign, of v units of 2 ^ u, rounded. -/
def K (u : Int) (v : Int) : Int := if v < 0 then -(Ie.rung v.natAbs u : Int) else (Ie.rung v.natAbs u : Int)

theorem le2_unit {a b : Nat} (u : Int) (h : a ≤ b) : Ie.le2 a u b u := by
  rw [Ie.le2_at _ _ _ _ u (Int.le_refl _) (Int.le_refl _)]
  unfold Ie.at_
  exact Nat.mul_le_mul_right _ h

theorem rung_zero (u : Int) : Ie.rung 0 u = 0 := by unfold Ie.rung; rw [if_pos rfl]

theorem K_mono {u v v' : Int} (h : v ≤ v') : K u v ≤ K u v' := by
  unfold K
  by_cases h1 : v < 0
  · by_cases h2 : v' < 0
    · rw [if_pos h1, if_pos h2]
      have := Ie.rung_mono (le2_unit u (show v'.natAbs ≤ v.natAbs by omega))
      omega
    · rw [if_pos h1, if_neg h2]; omega
  · have h2 : ¬ v' < 0 := by omega
    rw [if_neg h1, if_neg h2]
    have := Ie.rung_mono (le2_unit u (show v.natAbs ≤ v'.natAbs by omega))
    omega
theorem K_neg (u v : Int) : K u (-v) = -K u v := by
  unfold K
  have e : (-v).natAbs = v.natAbs := by omega
  rw [e]
  by_cases h : v = 0
  · subst h
    have : Ie.rung (0 : Int).natAbs u = 0 := rung_zero u
    rw [this]; rfl
  · split <;> split <;> omega
theorem K_abs_le (u v : Int) : -(2047 * 2 ^ 52 : Nat) ≤ K u v ∧ K u v ≤ (2047 * 2 ^ 52 : Nat) := by
  have := Ie.rung_le v.natAbs u
  unfold K
  split <;> omega

theorem key_number (s : Bool) (m : Nat) (p u : Int) (v : Int) (hu : u ≤ p) (hv : (if s then -(Ie.at_ m p u : Int) else (Ie.at_ m p u : Int)) = v) :
    Ie.key (D.write (.number s m p)) = K u v ∧ nan (D.write (.number s m p)) = false := by
  rw [D_eq, Ie.write_number]
  have hr := Ie.rung_le m p
  refine ⟨?_, FloorMath.nan_word hr⟩
  have e := FloorMath.keyOf_word (s := s) hr
  rw [D_eq] at e
  rw [e]
  have hq : Ie.rung m p = Ie.rung (Ie.at_ m p u) u := by
    refine Ie.eqv_rung ?_
    rw [Ie.eqv_at _ _ _ _ u hu (Int.le_refl _)]
    unfold Ie.at_
    have : (u - u).toNat = 0 := by omega
    rw [this, Nat.pow_zero, Nat.mul_one]
  rw [hq]
  unfold K
  generalize Ie.at_ m p u = A at *
  have ha : v.natAbs = A := by subst hv; cases s <;> simp
  rw [ha]
  by_cases h0 : A = 0
  · subst h0
    have : Ie.rung 0 u = 0 := by unfold Ie.rung; rw [if_pos rfl]
    rw [this]
    cases s <;> simp
  · cases s
    · simp only [Bool.false_eq_true, if_false] at hv ⊢
      rw [if_neg (by omega)]
    · simp only [if_true] at hv ⊢
      rw [if_pos (by omega)]

theorem key_V {x : Nat} (h : fin x = true) : Ie.key x = K (-1074) (V x) := by
  have hle := FloorMath.not_nan_le (fin_not_nan h)
  have hlo := FloorMath.rq_lo (Ie.rg x)
  have hr := Ie.rung_of (Ie.rg x) hle
  have := (key_number (Ie.sg x) (Ie.rm (Ie.rg x)) (Ie.rq (Ie.rg x)) (-1074) (V x) hlo rfl).1
  rw [← this, D_eq, Ie.write_number, hr]
  have e := FloorMath.keyOf_word (s := Ie.sg x) hle
  rw [D_eq] at e
  rw [e]
  rfl

theorem V_le {x y : Nat} (hx : fin x = true) (hy : fin y = true) : Ie.key x ≤ Ie.key y ↔ V x ≤ V y := by
  constructor
  · intro h
    have lx := FloorMath.not_nan_le (fin_not_nan hx)
    have ly := FloorMath.not_nan_le (fin_not_nan hy)
    have a1 := Ie.rung_le_iff (Ie.rg x) (Ie.rg y) lx ly
    have a2 := Ie.rung_le_iff (Ie.rg y) (Ie.rg x) ly lx
    have px := FloorMath.rq_lo (Ie.rg x)
    have py := FloorMath.rq_lo (Ie.rg y)
    rw [Ie.le2_at _ _ _ _ (-1074) px py] at a1
    rw [Ie.le2_at _ _ _ _ (-1074) py px] at a2
    have z1 := Ie.at_zero (Ie.rm (Ie.rg x)) (Ie.rq (Ie.rg x)) (-1074)
    have z2 := Ie.at_zero (Ie.rm (Ie.rg y)) (Ie.rq (Ie.rg y)) (-1074)
    rw [Ie.rm_zero] at z1 z2
    unfold Ie.key at h
    unfold V
    generalize Ie.at_ (Ie.rm (Ie.rg x)) (Ie.rq (Ie.rg x)) (-1074) = A at *
    generalize Ie.at_ (Ie.rm (Ie.rg y)) (Ie.rq (Ie.rg y)) (-1074) = B at *
    generalize Ie.rg x = k at *
    generalize Ie.rg y = l at *
    clear lx ly px py hx hy
    cases h1 : Ie.sg x <;> cases h2 : Ie.sg y <;> rw [h1, h2] at h <;> simp only [Bool.false_eq_true, if_false, if_true] at h ⊢ <;> omega
  · intro h
    rw [key_V hx, key_V hy]
    exact K_mono h

theorem V_read {x : Nat} (h : fin x = true) : ∃ s m p, D.read x = .number s m p ∧ -1074 ≤ p ∧ V x = if s then -(Ie.at_ m p (-1074) : Int) else (Ie.at_ m p (-1074) : Int) :=
  ⟨_, _, _, fin_read h, FloorMath.rq_lo _, rfl⟩

theorem at_split (m : Nat) (p b : Int) (hb : b ≤ p) (h : -1074 ≤ b) : Ie.at_ m p (-1074) = Ie.at_ m p b * 2 ^ (b + 1074).toNat := by
  rw [Ie.at_shift m p b (-1074) hb h]
  congr 2

/-- A rounded sum of finite floats. -/
theorem add_key {x y r : Nat} (hx : fin x = true) (hy : fin y = true) (h : FR .add x y r) : Ie.key r = K (-1074) (V x + V y) ∧ nan r = false := by
  obtain ⟨s, m, p, e1, p1, v1⟩ := V_read hx
  obtain ⟨t, n, q, e2, p2, v2⟩ := V_read hy
  have e : floatBits .add .f64 x y = ((D.read x).sum (D.read y)).map D.write := rfl
  rw [e1, e2] at e
  simp only [Datum.sum, Option.map] at e
  unfold FR at h
  rw [e] at h
  have h : r = _ := h
  rw [h]
  have hb1 : min p q ≤ p := by omega
  have hb2 : min p q ≤ q := by omega
  have hb3 : -1074 ≤ min p q := by omega
  generalize min p q = b at *
  refine key_number _ _ _ _ _ hb3 ?_
  rw [v1, v2, at_split m p b hb1 hb3, at_split n q b hb2 hb3, Ie.signed_at, Ie.signed_at]
  generalize Ie.at_ m p b = A
  generalize Ie.at_ n q b = B
  unfold Ie.at_
  have e3 : (b - -1074).toNat = (b + 1074).toNat := by omega
  rw [e3]
  generalize (2 : Nat) ^ (b + 1074).toNat = Z
  have key : ∀ T : Int, (if (if T = 0 then s && t else decide (T < 0)) = true then -((T.natAbs * Z : Nat) : Int) else ((T.natAbs * Z : Nat) : Int)) = T * Z := by
    intro T
    by_cases h0 : T = 0
    · subst h0; simp
    · rw [if_neg h0]
      by_cases h1 : T < 0
      · rw [decide_eq_true h1]
        simp only [if_true]
        have : ((T.natAbs : Nat) : Int) = -T := by omega
        rw [Int.natCast_mul, this, Int.neg_mul, Int.neg_neg]
      · rw [decide_eq_false h1]
        simp only [Bool.false_eq_true, if_false]
        have : ((T.natAbs : Nat) : Int) = T := by omega
        rw [Int.natCast_mul, this]
  rw [key]
  rw [Int.natCast_mul, Int.natCast_mul]
  cases s <;> cases t <;> simp only [Bool.false_eq_true, if_false, if_true] <;> simp only [Int.add_mul, Int.neg_mul]

theorem V_opp {y : Nat} (hy : fin y = true) : ∃ s m p, (D.read y).opposite = .number s m p ∧ -1074 ≤ p ∧ -V y = if s then -(Ie.at_ m p (-1074) : Int) else (Ie.at_ m p (-1074) : Int) := by
  refine ⟨!Ie.sg y, _, _, by rw [fin_read hy]; rfl, FloorMath.rq_lo _, ?_⟩
  unfold V
  cases Ie.sg y <;> simp

theorem sub_key {x y r : Nat} (hx : fin x = true) (hy : fin y = true) (h : FR .sub x y r) : Ie.key r = K (-1074) (V x - V y) ∧ nan r = false := by
  obtain ⟨s, m, p, e1, p1, v1⟩ := V_read hx
  obtain ⟨t, n, q, e2, p2, v2⟩ := V_opp hy
  have e : floatBits .sub .f64 x y = ((D.read x).sum (D.read y).opposite).map D.write := rfl
  rw [e1, e2] at e
  simp only [Datum.sum, Option.map] at e
  unfold FR at h
  rw [e] at h
  have h : r = _ := h
  rw [h]
  have hb1 : min p q ≤ p := by omega
  have hb2 : min p q ≤ q := by omega
  have hb3 : -1074 ≤ min p q := by omega
  generalize min p q = b at *
  refine key_number _ _ _ _ _ hb3 ?_
  have e9 : V x - V y = V x + -V y := Int.sub_eq_add_neg
  rw [e9, v1, v2, at_split m p b hb1 hb3, at_split n q b hb2 hb3, Ie.signed_at, Ie.signed_at]
  generalize Ie.at_ m p b = A
  generalize Ie.at_ n q b = B
  unfold Ie.at_
  have e3 : (b - -1074).toNat = (b + 1074).toNat := by omega
  rw [e3]
  generalize (2 : Nat) ^ (b + 1074).toNat = Z
  have key : ∀ T : Int, (if (if T = 0 then s && t else decide (T < 0)) = true then -((T.natAbs * Z : Nat) : Int) else ((T.natAbs * Z : Nat) : Int)) = T * Z := by
    intro T
    by_cases h0 : T = 0
    · subst h0; simp
    · rw [if_neg h0]
      by_cases h1 : T < 0
      · rw [decide_eq_true h1]
        simp only [if_true]
        have : ((T.natAbs : Nat) : Int) = -T := by omega
        rw [Int.natCast_mul, this, Int.neg_mul, Int.neg_neg]
      · rw [decide_eq_false h1]
        simp only [Bool.false_eq_true, if_false]
        have : ((T.natAbs : Nat) : Int) = T := by omega
        rw [Int.natCast_mul, this]
  rw [key]
  rw [Int.natCast_mul, Int.natCast_mul]
  cases s <;> cases t <;> simp only [Bool.false_eq_true, if_false, if_true] <;> simp only [Int.add_mul, Int.neg_mul]

/-- A rounded product of finite floats. -/
theorem mul_key {x y r : Nat} (hx : fin x = true) (hy : fin y = true) (h : FR .mul x y r) : Ie.key r = K (-2148) (V x * V y) ∧ nan r = false := by
  obtain ⟨s, m, p, e1, p1, v1⟩ := V_read hx
  obtain ⟨t, n, q, e2, p2, v2⟩ := V_read hy
  have e : floatBits .mul .f64 x y = ((D.read x).product (D.read y)).map D.write := rfl
  rw [e1, e2] at e
  simp only [Datum.product, Option.map] at e
  unfold FR at h
  rw [e] at h
  have h : r = _ := h
  rw [h]
  refine key_number _ _ _ _ _ (by omega) ?_
  rw [v1, v2]
  have e3 : Ie.at_ (m * n) (p + q) (-2148) = Ie.at_ m p (-1074) * Ie.at_ n q (-1074) := by
    unfold Ie.at_
    have : (p + q - -2148).toNat = (p - -1074).toNat + (q - -1074).toNat := by omega
    rw [this, Nat.pow_add]
    simp only [Nat.mul_assoc, Nat.mul_left_comm]
  rw [e3]
  generalize Ie.at_ m p (-1074) = A
  generalize Ie.at_ n q (-1074) = B
  rw [Int.natCast_mul]
  cases s <;> cases t <;> simp [Int.neg_mul, Int.mul_neg]

end Go.Proofs.YtknidlahblfnnaaDoor.Mono
