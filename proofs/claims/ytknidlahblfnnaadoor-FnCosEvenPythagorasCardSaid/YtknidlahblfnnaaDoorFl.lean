/-
  Floats of 64 bits in a walk: what the four operations give (a NaN's bits are left open), what comparisons say, and when two floats are the same value. No condition.
-/
import Derived.WalkKit
import Derived.Below
import Derived.WalkLawsBesides
import Derived.Laws.FloatArith
import Derived.Deep.Draws
import Derived.Lib.Hide
import Derived.Test.YtknidlahblfnnaaDoorIe
namespace Go.Proofs.YtknidlahblfnnaaDoor.Fl
open Go Ieee

abbrev D : Format := FloatKind.f64.format

/-- The result of '+', '-', '*', '/' in the world w. -/
def fval (op : BinOp) (x y : Nat) (w : World) : Nat :=
  match floatBits op .f64 x y with
  | some r => r
  | none => Question.cut (.nanBits .f64 x y) (w.tape w.drawn (.nanBits .f64 x y))

/-- How many answers the operation draws. -/
def fcnt (op : BinOp) (x y : Nat) : Nat :=
  match floatBits op .f64 x y with
  | some _ => 0
  | none => 1

theorem run_arith (P : Program) (w : World) (op : BinOp) (hop : op = .add ∨ op = .sub ∨ op = .mul ∨ op = .quo) (t : TypeId) (x y : Nat) :
    (binOp op t (.float .f64 x) (.float .f64 y)).run P w = .ok (.float .f64 (fval op x y w)) (w.drewN (fcnt op x y)) := by
  cases h : floatBits op .f64 x y with
  | some r =>
    have e1 : fval op x y w = r := by simp [fval, h]
    have e2 : w.drewN (fcnt op x y) = w := by simp [fcnt, h, World.drewN_zero]
    rw [e1, e2]
    exact run_float_arith w op t .f64 x y r h
  | none =>
    have e1 : fval op x y w = Question.cut (.nanBits .f64 x y) (w.tape w.drawn (.nanBits .f64 x y)) := by simp [fval, h]
    have e2 : w.drewN (fcnt op x y) = w.drew := by simp [fcnt, h, World.drew_is_drewN]
    rw [e1, e2]
    unfold floatBits at h
    rcases hop with rfl | rfl | rfl | rfl <;> simp only at h <;> simp [binOp, Op.floatArith, h, Question.forced]

@[go_sem] theorem run_fadd (P : Program) (w : World) (t : TypeId) (x y : Nat) : (binOp .add t (.float .f64 x) (.float .f64 y)).run P w = .ok (.float .f64 (fval .add x y w)) (w.drewN (fcnt .add x y)) := run_arith P w _ (by simp) t x y
@[go_sem] theorem run_fsub (P : Program) (w : World) (t : TypeId) (x y : Nat) : (binOp .sub t (.float .f64 x) (.float .f64 y)).run P w = .ok (.float .f64 (fval .sub x y w)) (w.drewN (fcnt .sub x y)) := run_arith P w _ (by simp) t x y
@[go_sem] theorem run_fmul (P : Program) (w : World) (t : TypeId) (x y : Nat) : (binOp .mul t (.float .f64 x) (.float .f64 y)).run P w = .ok (.float .f64 (fval .mul x y w)) (w.drewN (fcnt .mul x y)) := run_arith P w _ (by simp) t x y
@[go_sem] theorem run_fquo (P : Program) (w : World) (t : TypeId) (x y : Nat) : (binOp .quo t (.float .f64 x) (.float .f64 y)).run P w = .ok (.float .f64 (fval .quo x y w)) (w.drewN (fcnt .quo x y)) := run_arith P w _ (by simp) t x y

@[go_sem] theorem run_store_float (P : Program) (w : World) (a : Addr) (m : Mode) (k : FloatKind) (n : Nat) : (store a (.float k n) m).run P w = stored P w a (.float k n) m := run_store P w a _ m rfl

/-- x is a NaN. -/
def nan (x : Nat) : Bool := (D.read x).isNaN
/-- What an operation may give: its one result, or some NaN. -/
def FR (op : BinOp) (x y r : Nat) : Prop :=
  match floatBits op .f64 x y with
  | some r' => r = r'
  | none => nan r = true

theorem nan_of_cut (x y t : Nat) : nan (Question.cut (.nanBits .f64 x y) t) = true := by
  unfold nan Format.read
  have e1 : D.signWeight = 9223372036854775808 := by decide
  have e2 : D.binade = 4503599627370496 := by decide
  have e3 : D.infRung = 9218868437227405312 := by decide
  have hc : Question.cut (.nanBits .f64 x y) t = (t % 2) * 9223372036854775808 + 9218868437227405312 + 1 + (t / 2) % 4503599627370495 := by
    unfold Question.cut; rfl
  rw [hc, e1, e2, e3]
  dsimp only
  have h : ((t % 2) * 9223372036854775808 + 9218868437227405312 + 1 + (t / 2) % 4503599627370495) % 9223372036854775808 = 9218868437227405313 + (t / 2) % 4503599627370495 := by omega
  rw [h, if_neg (by omega), if_neg (by omega), if_neg (by omega)]
  rfl

theorem fval_FR (op : BinOp) (x y : Nat) (w : World) : FR op x y (fval op x y w) := by
  unfold FR fval
  cases h : floatBits op .f64 x y with
  | some r => simp
  | none => simpa using nan_of_cut x y _

/-! ### data -/
theorem cmp_self (a : Int) : compare a a = .eq := by simp [compare, compareOfLessAndEq]

theorem order_self (x : Nat) : D.order x x = if nan x then none else some .eq := by
  unfold Format.order nan
  cases h : D.read x with
  | nan s t => simp [Datum.order, Datum.isNaN]
  | infinity s => cases s <;> simp [Datum.order, Datum.isNaN]
  | number s m i => simp [Datum.order, Datum.isNaN]

@[go_sem] theorem neq_self (x : Nat) : (D.order x x != some .eq) = nan x := by rw [order_self]; cases nan x <;> simp
@[go_sem] theorem eql_self (x : Nat) : (D.order x x == some .eq) = !nan x := by rw [order_self]; cases nan x <;> simp

/-- x is a zero of either sign. -/
def zero (x : Nat) : Bool := D.order x 0 == some .eq
def neg (x : Nat) : Bool := (D.read x).neg

@[go_sem] theorem eql_zero (x : Nat) : (D.order x 0 == some .eq) = zero x := rfl

theorem read_zero : D.read 0 = .number false 0 (-1074) := by decide
theorem read_one : D.read 4607182418800017408 = .number false 4503599627370496 (-52) := by decide

theorem zero_iff (x : Nat) : zero x = true ↔ ∃ s p, D.read x = .number s 0 p := by
  unfold zero Format.order
  rw [read_zero]
  cases h : D.read x with
  | nan s t => simp [Datum.order]
  | infinity s => cases s <;> simp [Datum.order]
  | number s m i =>
    simp only [Datum.order, beq_iff_eq, Option.some.injEq]
    constructor
    · intro he
      refine ⟨s, i, ?_⟩
      have : signed s m (i - min i (-1074)).toNat = signed false 0 ((-1074 : Int) - min i (-1074)).toNat := by
        simpa using he
      have hm : m = 0 := by
        unfold signed at this
        have hp : (2 : Int) ^ (i - min i (-1074)).toNat ≠ 0 := by
          exact Int.ne_of_gt (Int.pow_pos (by omega))
        cases s <;> simp [Nat.shiftLeft_eq] at this <;> simpa [hp] using Int.mul_eq_zero.1 this
      rw [hm]
    · rintro ⟨s', p, hp⟩
      cases hp
      have : signed s 0 (i - min i (-1074)).toNat = signed false 0 ((-1074 : Int) - min i (-1074)).toNat := by
        unfold signed; cases s <;> simp
      simp [this]

theorem D_eq : D = Ieee.double := rfl
theorem nan_eq (x : Nat) : nan x = decide (2047 * 2 ^ 52 < Ie.rg x) := by
  unfold nan
  rw [D_eq, Ie.read_eq]
  by_cases h1 : Ie.rg x < 2047 * 2 ^ 52
  · rw [if_pos h1, decide_eq_false (by omega)]; rfl
  · rw [if_neg h1]
    by_cases h2 : Ie.rg x = 2047 * 2 ^ 52
    · rw [if_pos h2, decide_eq_false (by omega)]; rfl
    · rw [if_neg h2, decide_eq_true (by omega)]; rfl
theorem neg_eq (x : Nat) : neg x = Ie.sg x := by
  unfold neg
  rw [D_eq, Ie.read_eq]
  split
  · rfl
  · split <;> rfl
theorem order_eq {x y : Nat} (hx : nan x = false) (hy : nan y = false) : D.order x y = some (compare (Ie.key x) (Ie.key y)) := by
  rw [nan_eq] at hx hy
  have hx' := of_decide_eq_false hx
  have hy' := of_decide_eq_false hy
  rw [D_eq]
  exact Ie.order_key x y (by omega) (by omega)
theorem key_zero : Ie.key 0 = 0 := by decide
theorem key_eq_zero (x : Nat) : Ie.key x = 0 ↔ Ie.rg x = 0 := by
  unfold Ie.key; split <;> omega
theorem nan_zero : nan 0 = false := by decide
theorem zero_eq (x : Nat) : zero x = decide (Ie.rg x = 0) := by
  unfold zero
  cases hn : nan x with
  | true =>
    rw [nan_eq] at hn
    have := of_decide_eq_true hn
    rw [decide_eq_false (by omega)]
    have : D.order x 0 = none := by
      unfold Format.order
      rw [D_eq, Ie.read_eq, if_neg (by omega), if_neg (by omega)]
      rfl
    rw [this]; rfl
  | false =>
    rw [order_eq hn nan_zero, key_zero]
    by_cases h : Ie.rg x = 0
    · rw [decide_eq_true h, (key_eq_zero x).2 h]; rfl
    · rw [decide_eq_false h]
      have : Ie.key x ≠ 0 := fun hk => h ((key_eq_zero x).1 hk)
      rcases Int.lt_or_gt_of_ne this with h' | h'
      · rw [Ie.cmp_lt h']; rfl
      · rw [Ie.cmp_gt h']; rfl
theorem eql_key {x y : Nat} (hx : nan x = false) (hy : nan y = false) : (D.order x y == some .eq) = decide (Ie.key x = Ie.key y) := by
  rw [order_eq hx hy]
  rcases Int.lt_trichotomy (Ie.key x) (Ie.key y) with h | h | h
  · rw [Ie.cmp_lt h, decide_eq_false (by omega)]; rfl
  · rw [Ie.cmp_eq h, decide_eq_true h]; rfl
  · rw [Ie.cmp_gt h, decide_eq_false (by omega)]; rfl
theorem lss_key {x y : Nat} (hx : nan x = false) (hy : nan y = false) : (D.order x y == some .lt) = decide (Ie.key x < Ie.key y) := by
  rw [order_eq hx hy]
  rcases Int.lt_trichotomy (Ie.key x) (Ie.key y) with h | h | h
  · rw [Ie.cmp_lt h, decide_eq_true h]; rfl
  · rw [Ie.cmp_eq h, decide_eq_false (by omega)]; rfl
  · rw [Ie.cmp_gt h, decide_eq_false (by omega)]; rfl
theorem gtr_key {x y : Nat} (hx : nan x = false) (hy : nan y = false) : (D.order x y == some .gt) = decide (Ie.key y < Ie.key x) := by
  rw [order_eq hx hy]
  rcases Int.lt_trichotomy (Ie.key x) (Ie.key y) with h | h | h
  · rw [Ie.cmp_lt h, decide_eq_false (by omega)]; rfl
  · rw [Ie.cmp_eq h, decide_eq_false (by omega)]; rfl
  · rw [Ie.cmp_gt h, decide_eq_true h]; rfl

theorem zero_key (x : Nat) : zero x = decide (Ie.key x = 0) := by
  rw [zero_eq]; exact decide_eq_decide.2 (key_eq_zero x).symm

theorem nan_none (x : Nat) : nan x = (D.order x 0 == none) := by
  cases h : nan x with
  | false => rw [order_eq h nan_zero]; rfl
  | true =>
    rw [nan_eq] at h
    have := of_decide_eq_true h
    have : D.order x 0 = none := by
      unfold Format.order
      rw [D_eq, Ie.read_eq, if_neg (by omega), if_neg (by omega)]
      rfl
    rw [this]; rfl
theorem nan_model_yes (x : Nat) (h : ¬D.order x 0 = some Ordering.lt ∧ zero x = false) : (!D.order x 0 == some Ordering.lt && !D.order x 0 == some Ordering.gt) = nan x ∧ (!D.order x 0 == some Ordering.gt) = nan x := by
  rw [nan_none]
  unfold zero at h
  cases ho : D.order x 0 with
  | none => simp
  | some o => cases o <;> simp_all
theorem nan_model_no (x : Nat) (h : ¬(¬D.order x 0 = some Ordering.lt ∧ zero x = false)) : false = nan x := by
  rw [nan_none]
  unfold zero at h
  cases ho : D.order x 0 with
  | none => simp [ho] at h
  | some o => simp

theorem nan_none_l (x y : Nat) (h : nan x = true) : D.order x y = none := by
  unfold nan at h; unfold Format.order
  cases hx : D.read x <;> simp [hx, Datum.isNaN] at h
  simp [Datum.order]
theorem nan_none_r (x y : Nat) (h : nan y = true) : D.order x y = none := by
  unfold nan at h; unfold Format.order
  cases hy : D.read y <;> simp [hy, Datum.isNaN] at h
  cases D.read x <;> simp [Datum.order]

/-- 1/x of a zero is the infinity of its sign. -/
theorem inv_zero (x r : Nat) (hz : zero x = true) (h : FR .quo 4607182418800017408 x r) : r = D.word (neg x) D.infRung := by
  obtain ⟨s, p, hx⟩ := (zero_iff x).1 hz
  have e : floatBits .quo .f64 4607182418800017408 x = some (D.word (neg x) D.infRung) := by
    unfold floatBits neg
    show D.div _ _ = _
    unfold Format.div
    rw [read_one, hx]
    simp [Datum.quotient, Format.write, Datum.neg]
  unfold FR at h
  rw [e] at h
  exact h

theorem inf_gt (s : Bool) : (D.order (D.word s D.infRung) 0 == some .gt) = !s := by cases s <;> decide
theorem inf_lt (s : Bool) : (D.order (D.word s D.infRung) 0 == some .lt) = s := by cases s <;> decide
theorem inf_eq (s t : Bool) : (D.order (D.word s D.infRung) (D.word t D.infRung) == some .eq) = (s == t) := by cases s <;> cases t <;> decide

theorem inv_gt (x : Nat) (w : World) (hz : zero x = true) : (D.order (fval .quo 4607182418800017408 x w) 0 == some .gt) = !neg x := by
  rw [inv_zero x _ hz (fval_FR _ _ _ _), inf_gt]
theorem inv_lt (x : Nat) (w : World) (hz : zero x = true) : (D.order (fval .quo 4607182418800017408 x w) 0 == some .lt) = neg x := by
  rw [inv_zero x _ hz (fval_FR _ _ _ _), inf_lt]
theorem inv_eq (x y : Nat) (w w' : World) (hx : zero x = true) (hy : zero y = true) : (D.order (fval .quo 4607182418800017408 x w) (fval .quo 4607182418800017408 y w') == some .eq) = (neg x == neg y) := by
  rw [inv_zero x _ hx (fval_FR _ _ _ _), inv_zero y _ hy (fval_FR _ _ _ _), inf_eq]

/-- The same value: NaNs as one class, zeros by their signs. -/
def same (x y : Nat) : Bool :=
  if nan x then nan y else if nan y then false else (D.order x y == some .eq) && (!(zero x) || (neg x == neg y))

theorem same_refl (x : Nat) : same x x = true := by
  unfold same
  cases h : nan x
  · simp [order_self, h]
  · simp

/-- Two zeros are the same value exactly when their signs agree. -/
theorem same_zeros {x y : Nat} (hx : nan x = false) (hy : nan y = false) (zx : zero x = true) (zy : zero y = true) : same x y = (neg x == neg y) := by
  unfold same
  rw [eql_key hx hy]
  rw [zero_key] at zx zy
  have a := of_decide_eq_true zx
  have b := of_decide_eq_true zy
  rw [zero_key]
  simp [hx, hy, a, b]
theorem same_other {x y : Nat} (hx : nan x = false) (hy : nan y = false) (zx : zero x = false ∨ zero y = false) : same x y = (D.order x y == some .eq) := by
  unfold same
  rw [eql_key hx hy]
  rw [zero_key] at *
  rw [zero_key] at zx
  simp only [decide_eq_false_iff_not] at zx
  simp only [hx, hy, if_false, Bool.false_eq_true]
  by_cases h : Ie.key x = Ie.key y
  · have h0 : ¬ Ie.key x = 0 := by omega
    simp [h, h0]
    rw [← h]; simp [h0]
  · simp [h]
theorem same_nan_l {x y : Nat} (hx : nan x = true) : same x y = nan y := by simp [same, hx]
theorem same_nan_r {x y : Nat} (hx : nan x = false) (hy : nan y = true) : same x y = false := by simp [same, hx, hy]

theorem same_ne {x y : Nat} (hx : nan x = false) (h : (D.order x y != some .eq) = true) : same x y = false := by
  have h' : (D.order x y == some .eq) = false := by simpa [bne] using h
  unfold same
  rw [h']
  cases nan y <;> simp [hx]
theorem eq_not_nan {x y : Nat} (h : (D.order x y != some .eq) = false) : nan y = false := by
  cases hn : nan y with
  | false => rfl
  | true =>
    have : D.order x y = none := by
      unfold nan at hn; unfold Format.order
      cases hy : D.read y <;> simp [hy, Datum.isNaN] at hn
      cases D.read x <;> simp [Datum.order]
    rw [this] at h
    simp at h
theorem eq_zero {x y : Nat} (hx : nan x = false) (h : (D.order x y != some .eq) = false) : zero y = zero x := by
  have hy := eq_not_nan h
  have h' : (D.order x y == some .eq) = true := by simpa [bne] using h
  rw [eql_key hx hy] at h'
  rw [zero_key, zero_key, of_decide_eq_true h']
theorem same_eq0 {x y : Nat} (hx : nan x = false) (h : (D.order x y != some .eq) = false) (hz : zero x = false) : same x y = true := by
  have h' : (D.order x y == some .eq) = true := by simpa [bne] using h
  rw [same_other hx (eq_not_nan h) (.inl hz), h']
theorem same_eq1 {x y : Nat} (hx : nan x = false) (h : (D.order x y != some .eq) = false) (hz : zero x = true) : same x y = (neg x == neg y) :=
  same_zeros hx (eq_not_nan h) hz (by rw [eq_zero hx h, hz])

theorem same_of_FR {op : BinOp} {x y r s : Nat} (h1 : FR op x y r) (h2 : FR op x y s) : same r s = true := by
  unfold FR at h1 h2
  cases h : floatBits op .f64 x y with
  | some t => simp only [h] at h1 h2; subst h1; subst h2; exact same_refl _
  | none => simp only [h] at h1 h2; simp [same, h1, h2]

theorem sum_comm (d e : Datum) : d.sum e = e.sum d := by
  cases d <;> cases e <;> simp only [Datum.sum]
  · rename_i s m i t n j
    rw [Int.min_comm j i, Int.add_comm (signed t n _), Bool.and_comm]
  · rename_i s t
    cases s <;> cases t <;> rfl

theorem FR_add_comm {x y r : Nat} (h : FR .add x y r) : FR .add y x r := by
  unfold FR floatBits at *
  have : FloatKind.f64.format.add x y = FloatKind.f64.format.add y x := by
    unfold Format.add; rw [sum_comm]
  simp only [this] at h
  exact h
end Go.Proofs.YtknidlahblfnnaaDoor.Fl
