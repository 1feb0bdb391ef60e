/-
  Rounded sums, products and square roots are monotone, in plain mathematics. No condition.
-/
import Derived.Test.YtnfmpgmkmlmnjaaSmall2
namespace Go.Proofs.Ytnfmpgmkmlmnjaa.Mono
open Fl Bits Small2 Ieee

/-- The value of a finite float in units of 2 ^ -1074. -/
def V (x : Nat) : Int := if Ie.sg x then -(Ie.at_ (Ie.rm (Ie.rg x)) (Ie.rq (Ie.rg x)) (-1074) : Int) else (Ie.at_ (Ie.rm (Ie.rg x)) (Ie.rq (Ie.rg x)) (-1074) : Int)

/-- The rung, with its sign, of v units of 2 ^ u, rounded. -/
def K (u : Int) (v : Int) : Int := if v < 0 then -(Ie.rung v.natAbs u : Int) else (Ie.rung v.natAbs u : Int)

theorem le2_unit {a b : Nat} (u : Int) (h : a ≤ b) : Ie.le2 a u b u := by
  rw [Ie.le2_at _ _ _ _ u (Int.le_refl _) (Int.le_refl _)]
  unfold Ie.at_
  exact Nat.mul_le_mul_right _ h

theorem rung_zero (u : Int) : Ie.rung 0 u = 0 := by unfold Ie.rung; rw [if_pos rfl]

theorem K_mono {u v v' : Int} (h : v ≤ v') : K u v ≤ K u v' := by
  unfold K
  by_cases h1 : v < 0
  · by_cases h2 : v' < 0
    · rw [if_pos h1, if_pos h2]
      have := Ie.rung_mono (le2_unit u (show v'.natAbs ≤ v.natAbs by omega))
      omega
    · rw [if_pos h1, if_neg h2]; omega
  · have h2 : ¬ v' < 0 := by omega
    rw [if_neg h1, if_neg h2]
    have := Ie.rung_mono (le2_unit u (show v.natAbs ≤ v'.natAbs by omega))
    omega
theorem K_neg (u v : Int) : K u (-v) = -K u v := by
  unfold K
  have e : (-v).natAbs = v.natAbs := by omega
  rw [e]
  by_cases h : v = 0
  · subst h
    have : Ie.rung (0 : Int).natAbs u = 0 := rung_zero u
    rw [this]; rfl
  · split <;> split <;> omega
theorem K_abs_le (u v : Int) : -(2047 * 2 ^ 52 : Nat) ≤ K u v ∧ K u v ≤ (2047 * 2 ^ 52 : Nat) := by
  have := Ie.rung_le v.natAbs u
  unfold K
  split <;> omega

theorem key_number (s : Bool) (m : Nat) (p u : Int) (v : Int) (hu : u ≤ p) (hv : (if s then -(Ie.at_ m p u : Int) else (Ie.at_ m p u : Int)) = v) :
    Ie.key (D.write (.number s m p)) = K u v ∧ nan (D.write (.number s m p)) = false := by
  rw [D_eq, Ie.write_number]
  have hr := Ie.rung_le m p
  refine ⟨?_, FloorMath.nan_word hr⟩
  have e := FloorMath.keyOf_word (s := s) hr
  rw [D_eq] at e
  rw [e]
  have hq : Ie.rung m p = Ie.rung (Ie.at_ m p u) u := by
    refine Ie.eqv_rung ?_
    rw [Ie.eqv_at _ _ _ _ u hu (Int.le_refl _)]
    unfold Ie.at_
    have : (u - u).toNat = 0 := by omega
    rw [this, Nat.pow_zero, Nat.mul_one]
  rw [hq]
  unfold K
  generalize Ie.at_ m p u = A at *
  have ha : v.natAbs = A := by subst hv; cases s <;> simp
  rw [ha]
  by_cases h0 : A = 0
  · subst h0
    have : Ie.rung 0 u = 0 := by unfold Ie.rung; rw [if_pos rfl]
    rw [this]
    cases s <;> simp
  · cases s
    · simp only [Bool.false_eq_true, if_false] at hv ⊢
      rw [if_neg (by omega)]
    · simp only [if_true] at hv ⊢
      rw [if_pos (by omega)]

theorem key_V {x : Nat} (h : fin x = true) : Ie.key x = K (-1074) (V x) := by
  have hle := FloorMath.not_nan_le (fin_not_nan h)
  have hlo := FloorMath.rq_lo (Ie.rg x)
  have hr := Ie.rung_of (Ie.rg x) hle
  have := (key_number (Ie.sg x) (Ie.rm (Ie.rg x)) (Ie.rq (Ie.rg x)) (-1074) (V x) hlo rfl).1
  rw [← this, D_eq, Ie.write_number, hr]
  have e := FloorMath.keyOf_word (s := Ie.sg x) hle
  rw [D_eq] at e
  rw [e]
  rfl

theorem V_le {x y : Nat} (hx : fin x = true) (hy : fin y = true) : Ie.key x ≤ Ie.key y ↔ V x ≤ V y := by
  constructor
  · intro h
    have lx := FloorMath.not_nan_le (fin_not_nan hx)
    have ly := FloorMath.not_nan_le (fin_not_nan hy)
    have a1 := Ie.rung_le_iff (Ie.rg x) (Ie.rg y) lx ly
    have a2 := Ie.rung_le_iff (Ie.rg y) (Ie.rg x) ly lx
    have px := FloorMath.rq_lo (Ie.rg x)
    have py := FloorMath.rq_lo (Ie.rg y)
    rw [Ie.le2_at _ _ _ _ (-1074) px py] at a1
    rw [Ie.le2_at _ _ _ _ (-1074) py px] at a2
    have z1 := Ie.at_zero (Ie.rm (Ie.rg x)) (Ie.rq (Ie.rg x)) (-1074)
    have z2 := Ie.at_zero (Ie.rm (Ie.rg y)) (Ie.rq (Ie.rg y)) (-1074)
    rw [Ie.rm_zero] at z1 z2
    unfold Ie.key at h
    unfold V
    generalize Ie.at_ (Ie.rm (Ie.rg x)) (Ie.rq (Ie.rg x)) (-1074) = A at *
    generalize Ie.at_ (Ie.rm (Ie.rg y)) (Ie.rq (Ie.rg y)) (-1074) = B at *
    generalize Ie.rg x = k at *
    generalize Ie.rg y = l at *
    clear lx ly px py hx hy
    cases h1 : Ie.sg x <;> cases h2 : Ie.sg y <;> rw [h1, h2] at h <;> simp only [Bool.false_eq_true, if_false, if_true] at h ⊢ <;> omega
  · intro h
    rw [key_V hx, key_V hy]
    exact K_mono h

theorem V_read {x : Nat} (h : fin x = true) : ∃ s m p, D.read x = .number s m p ∧ -1074 ≤ p ∧ V x = if s then -(Ie.at_ m p (-1074) : Int) else (Ie.at_ m p (-1074) : Int) :=
  ⟨_, _, _, fin_read h, FloorMath.rq_lo _, rfl⟩

theorem at_split (m : Nat) (p b : Int) (hb : b ≤ p) (h : -1074 ≤ b) : Ie.at_ m p (-1074) = Ie.at_ m p b * 2 ^ (b + 1074).toNat := by
  rw [Ie.at_shift m p b (-1074) hb h]
  congr 2

/-- A rounded sum of finite floats. -/
theorem add_key {x y r : Nat} (hx : fin x = true) (hy : fin y = true) (h : FR .add x y r) : Ie.key r = K (-1074) (V x + V y) ∧ nan r = false := by
  obtain ⟨s, m, p, e1, p1, v1⟩ := V_read hx
  obtain ⟨t, n, q, e2, p2, v2⟩ := V_read hy
  have e : floatBits .add .f64 x y = ((D.read x).sum (D.read y)).map D.write := rfl
  rw [e1, e2] at e
  simp only [Datum.sum, Option.map] at e
  unfold FR at h
  rw [e] at h
  have h : r = _ := h
  rw [h]
  have hb1 : min p q ≤ p := by omega
  have hb2 : min p q ≤ q := by omega
  have hb3 : -1074 ≤ min p q := by omega
  generalize min p q = b at *
  refine key_number _ _ _ _ _ hb3 ?_
  rw [v1, v2, at_split m p b hb1 hb3, at_split n q b hb2 hb3, Ie.signed_at, Ie.signed_at]
  generalize Ie.at_ m p b = A
  generalize Ie.at_ n q b = B
  unfold Ie.at_
  have e3 : (b - -1074).toNat = (b + 1074).toNat := by omega
  rw [e3]
  generalize (2 : Nat) ^ (b + 1074).toNat = Z
  have key : ∀ T : Int, (if (if T = 0 then s && t else decide (T < 0)) = true then -((T.natAbs * Z : Nat) : Int) else ((T.natAbs * Z : Nat) : Int)) = T * Z := by
    intro T
    by_cases h0 : T = 0
    · subst h0; simp
    · rw [if_neg h0]
      by_cases h1 : T < 0
      · rw [decide_eq_true h1]
        simp only [if_true]
        have : ((T.natAbs : Nat) : Int) = -T := by omega
        rw [Int.natCast_mul, this, Int.neg_mul, Int.neg_neg]
      · rw [decide_eq_false h1]
        simp only [Bool.false_eq_true, if_false]
        have : ((T.natAbs : Nat) : Int) = T := by omega
        rw [Int.natCast_mul, this]
  rw [key]
  rw [Int.natCast_mul, Int.natCast_mul]
  cases s <;> cases t <;> simp only [Bool.false_eq_true, if_false, if_true] <;> simp only [Int.add_mul, Int.neg_mul]

theorem V_opp {y : Nat} (hy : fin y = true) : ∃ s m p, (D.read y).opposite = .number s m p ∧ -1074 ≤ p ∧ -V y = if s then -(Ie.at_ m p (-1074) : Int) else (Ie.at_ m p (-1074) : Int) := by
  refine ⟨!Ie.sg y, _, _, by rw [fin_read hy]; rfl, FloorMath.rq_lo _, ?_⟩
  unfold V
  cases Ie.sg y <;> simp

theorem sub_key {x y r : Nat} (hx : fin x = true) (hy : fin y = true) (h : FR .sub x y r) : Ie.key r = K (-1074) (V x - V y) ∧ nan r = false := by
  obtain ⟨s, m, p, e1, p1, v1⟩ := V_read hx
  obtain ⟨t, n, q, e2, p2, v2⟩ := V_opp hy
  have e : floatBits .sub .f64 x y = ((D.read x).sum (D.read y).opposite).map D.write := rfl
  rw [e1, e2] at e
  simp only [Datum.sum, Option.map] at e
  unfold FR at h
  rw [e] at h
  have h : r = _ := h
  rw [h]
  have hb1 : min p q ≤ p := by omega
  have hb2 : min p q ≤ q := by omega
  have hb3 : -1074 ≤ min p q := by omega
  generalize min p q = b at *
  refine key_number _ _ _ _ _ hb3 ?_
  have e9 : V x - V y = V x + -V y := Int.sub_eq_add_neg
  rw [e9, v1, v2, at_split m p b hb1 hb3, at_split n q b hb2 hb3, Ie.signed_at, Ie.signed_at]
  generalize Ie.at_ m p b = A
  generalize Ie.at_ n q b = B
  unfold Ie.at_
  have e3 : (b - -1074).toNat = (b + 1074).toNat := by omega
  rw [e3]
  generalize (2 : Nat) ^ (b + 1074).toNat = Z
  have key : ∀ T : Int, (if (if T = 0 then s && t else decide (T < 0)) = true then -((T.natAbs * Z : Nat) : Int) else ((T.natAbs * Z : Nat) : Int)) = T * Z := by
    intro T
    by_cases h0 : T = 0
    · subst h0; simp
    · rw [if_neg h0]
      by_cases h1 : T < 0
      · rw [decide_eq_true h1]
        simp only [if_true]
        have : ((T.natAbs : Nat) : Int) = -T := by omega
        rw [Int.natCast_mul, this, Int.neg_mul, Int.neg_neg]
      · rw [decide_eq_false h1]
        simp only [Bool.false_eq_true, if_false]
        have : ((T.natAbs : Nat) : Int) = T := by omega
        rw [Int.natCast_mul, this]
  rw [key]
  rw [Int.natCast_mul, Int.natCast_mul]
  cases s <;> cases t <;> simp only [Bool.false_eq_true, if_false, if_true] <;> simp only [Int.add_mul, Int.neg_mul]

/-- A rounded product of finite floats. -/
theorem mul_key {x y r : Nat} (hx : fin x = true) (hy : fin y = true) (h : FR .mul x y r) : Ie.key r = K (-2148) (V x * V y) ∧ nan r = false := by
  obtain ⟨s, m, p, e1, p1, v1⟩ := V_read hx
  obtain ⟨t, n, q, e2, p2, v2⟩ := V_read hy
  have e : floatBits .mul .f64 x y = ((D.read x).product (D.read y)).map D.write := rfl
  rw [e1, e2] at e
  simp only [Datum.product, Option.map] at e
  unfold FR at h
  rw [e] at h
  have h : r = _ := h
  rw [h]
  refine key_number _ _ _ _ _ (by omega) ?_
  rw [v1, v2]
  have e3 : Ie.at_ (m * n) (p + q) (-2148) = Ie.at_ m p (-1074) * Ie.at_ n q (-1074) := by
    unfold Ie.at_
    have : (p + q - -2148).toNat = (p - -1074).toNat + (q - -1074).toNat := by omega
    rw [this, Nat.pow_add]
    simp only [Nat.mul_assoc, Nat.mul_left_comm]
  rw [e3]
  generalize Ie.at_ m p (-1074) = A
  generalize Ie.at_ n q (-1074) = B
  rw [Int.natCast_mul]
  cases s <;> cases t <;> simp [Int.neg_mul, Int.mul_neg]

/-! ### infinities -/
theorem inf_key {x : Nat} (h : fin x = false) (hn : nan x = false) : Ie.key x = if Ie.sg x then -((2047 * 2 ^ 52 : Nat) : Int) else ((2047 * 2 ^ 52 : Nat) : Int) := by
  have := (inf_read h hn).2
  unfold Ie.key; rw [this]
theorem add_inf_l {x y r : Nat} (hx : fin x = false) (hn : nan x = false) (hy : fin y = true) (h : FR .add x y r) : Ie.key r = Ie.key x ∧ nan r = false := by
  have e : floatBits .add .f64 x y = ((D.read x).sum (D.read y)).map D.write := rfl
  rw [(inf_read hx hn).1, fin_read hy] at e
  simp only [Datum.sum, Option.map] at e
  unfold FR at h
  rw [e] at h
  have h : r = D.word (Ie.sg x) (2047 * 2 ^ 52) := h
  rw [h, FloorMath.keyOf_word (Nat.le_refl _), inf_key hx hn]
  exact ⟨rfl, FloorMath.nan_word (Nat.le_refl _)⟩

/-- A sum with one finite float is monotone in the other. -/
theorem add_mono {x y c r s : Nat} (hx : nan x = false) (hy : nan y = false) (hc : fin c = true) (h : Ie.key x ≤ Ie.key y) (hr : FR .add x c r) (hs : FR .add y c s) :
    Ie.key r ≤ Ie.key s ∧ nan r = false ∧ nan s = false := by
  cases fx : fin x <;> cases fy : fin y
  · obtain ⟨a1, a2⟩ := add_inf_l fx hx hc hr
    obtain ⟨b1, b2⟩ := add_inf_l fy hy hc hs
    exact ⟨by omega, a2, b2⟩
  · obtain ⟨a1, a2⟩ := add_inf_l fx hx hc hr
    obtain ⟨b1, b2⟩ := add_key fy hc hs
    refine ⟨?_, a2, b2⟩
    have k1 := inf_key fx hx
    have k2 := (K_abs_le (-1074) (V y + V c)).1
    have fy' : Ie.rg y < 2047 * 2 ^ 52 := of_decide_eq_true fy
    have hk : Ie.key y < ((2047 * 2 ^ 52 : Nat) : Int) := by unfold Ie.key; split <;> omega
    cases hs : Ie.sg x
    · rw [hs] at k1; simp only [Bool.false_eq_true, if_false] at k1; omega
    · rw [hs] at k1; simp only [if_true] at k1; omega
  · obtain ⟨a1, a2⟩ := add_key fx hc hr
    obtain ⟨b1, b2⟩ := add_inf_l fy hy hc hs
    refine ⟨?_, a2, b2⟩
    have k1 := inf_key fy hy
    have k2 := (K_abs_le (-1074) (V x + V c)).2
    have fx' : Ie.rg x < 2047 * 2 ^ 52 := of_decide_eq_true fx
    have hk : -((2047 * 2 ^ 52 : Nat) : Int) < Ie.key x := by unfold Ie.key; split <;> omega
    cases hs : Ie.sg y
    · rw [hs] at k1; simp only [Bool.false_eq_true, if_false] at k1; omega
    · rw [hs] at k1; simp only [if_true] at k1; omega
  · obtain ⟨a1, a2⟩ := add_key fx hc hr
    obtain ⟨b1, b2⟩ := add_key fy hc hs
    refine ⟨?_, a2, b2⟩
    rw [a1, b1]
    have := (V_le fx fy).1 h
    exact K_mono (by omega)

/-- Lerp's three roundings are monotone. -/
theorem lerp_mono {lo hi u v d d' m n x y : Nat} (hlo : fin lo = true) (hhi : fin hi = true) (hu : fin u = true) (hv : fin v = true) (h1 : Ie.key lo ≤ Ie.key hi) (h2 : Ie.key u ≤ Ie.key v)
    (hd : FR .sub hi lo d) (hd' : FR .sub hi lo d') (fd : Ie.key d < (2047 * 2 ^ 52 : Nat))
    (hm : FR .mul d u m) (hn : FR .mul d' v n) (hx : FR .add m lo x) (hy : FR .add n lo y) : Ie.key x ≤ Ie.key y ∧ nan x = false ∧ nan y = false := by
  obtain ⟨kd, nd⟩ := sub_key hhi hlo hd
  obtain ⟨kd', nd'⟩ := sub_key hhi hlo hd'
  have hV := (V_le hlo hhi).1 h1
  have hV2 := (V_le hu hv).1 h2
  have pos : 0 ≤ Ie.key d := by
    rw [kd]
    have := K_mono (u := -1074) (show (0 : Int) ≤ V hi - V lo by omega)
    have z : K (-1074) 0 = 0 := by
      unfold K
      have : Ie.rung (0 : Int).natAbs (-1074) = 0 := rung_zero _
      rw [this]; rfl
    omega
  have hkk : Ie.key d' = Ie.key d := by rw [kd, kd']
  have fin_of : ∀ {z : Nat}, nan z = false → 0 ≤ Ie.key z → Ie.key z < (2047 * 2 ^ 52 : Nat) → fin z = true := by
    intro z hz h0 hl
    unfold fin
    refine decide_eq_true ?_
    unfold Ie.key at h0 hl
    have hle := FloorMath.not_nan_le hz
    cases hg : Ie.sg z <;> rw [hg] at h0 hl <;> simp only [Bool.false_eq_true, if_false, if_true] at h0 hl <;> omega
  have f1 := fin_of nd pos fd
  have f2 : fin d' = true := fin_of nd' (by omega) (by omega)
  obtain ⟨km, nm⟩ := mul_key f1 hu hm
  obtain ⟨kn, nn⟩ := mul_key f2 hv hn
  have hVd : V d' = V d := Int.le_antisymm ((V_le f2 f1).1 (by omega)) ((V_le f1 f2).1 (by omega))
  have posV : 0 ≤ V d := by
    have z : fin 0 = true := by decide
    have := (V_le z f1).1 (by rw [key_zero]; exact pos)
    have z0 : V 0 = 0 := by decide
    omega
  have hmn : Ie.key m ≤ Ie.key n := by
    rw [km, kn, hVd]
    exact K_mono (Int.mul_le_mul_of_nonneg_left hV2 posV)
  exact add_mono nm nn hlo hmn hx hy
end Go.Proofs.Ytnfmpgmkmlmnjaa.Mono
