/-
  Floats near rational numbers: Ap x X e says that x is finite and within e of X. How sums, differences and products keep it. No condition beyond sizes.
-/
import Derived.Test.YtknidlahblfnnaaDoorCeRat
namespace Go.Proofs.YtknidlahblfnnaaDoor.Ce
open Go Fl Small2 Mono Ieee

/-- The result of '+', '-', '*' of finite floats. -/
def fo (op : BinOp) (x y : Nat) : Nat := (floatBits op .f64 x y).getD 0
theorem fo_add {x y : Nat} (hx : fin x = true) (hy : fin y = true) : floatBits .add .f64 x y = some (fo .add x y) := by
  have e : floatBits .add .f64 x y = ((D.read x).sum (D.read y)).map D.write := rfl
  rw [fin_read hx, fin_read hy] at e
  unfold fo; rw [e]; rfl
theorem fo_sub {x y : Nat} (hx : fin x = true) (hy : fin y = true) : floatBits .sub .f64 x y = some (fo .sub x y) := by
  have e : floatBits .sub .f64 x y = ((D.read x).sum (D.read y).opposite).map D.write := rfl
  rw [fin_read hx, fin_read hy] at e
  unfold fo; rw [e]; rfl
theorem fo_mul {x y : Nat} (hx : fin x = true) (hy : fin y = true) : floatBits .mul .f64 x y = some (fo .mul x y) := by
  have e : floatBits .mul .f64 x y = ((D.read x).product (D.read y)).map D.write := rfl
  rw [fin_read hx, fin_read hy] at e
  unfold fo; rw [e]; rfl
theorem FR_of {op : BinOp} {x y : Nat} (h : floatBits op .f64 x y = some (fo op x y)) : FR op x y (fo op x y) := by
  unfold FR; rw [h]

def Ap (x : Nat) (X e : Rat) : Prop := fin x = true ∧ val x - X ≤ e ∧ -e ≤ val x - X
def Bd (X B : Rat) : Prop := X ≤ B ∧ -B ≤ X
theorem Bd.nonneg {X B : Rat} (h : Bd X B) : 0 ≤ B := by unfold Bd at h; grind
theorem Bd.mul {X Y B C : Rat} (h : Bd X B) (g : Bd Y C) : Bd (X * Y) (B * C) := by
  unfold Bd at *
  have p1 := Rat.mul_nonneg (a := B - X) (b := C + Y) (by grind) (by grind)
  have p2 := Rat.mul_nonneg (a := B + X) (b := C - Y) (by grind) (by grind)
  have p3 := Rat.mul_nonneg (a := B - X) (b := C - Y) (by grind) (by grind)
  have p4 := Rat.mul_nonneg (a := B + X) (b := C + Y) (by grind) (by grind)
  constructor <;> grind
theorem Bd.add {X Y B C : Rat} (h : Bd X B) (g : Bd Y C) : Bd (X + Y) (B + C) := by unfold Bd at *; grind
theorem Bd.sub {X Y B C : Rat} (h : Bd X B) (g : Bd Y C) : Bd (X - Y) (B + C) := by unfold Bd at *; grind
theorem Bd.weak {X B C : Rat} (h : Bd X B) (g : B ≤ C) : Bd X C := by unfold Bd at *; grind
theorem Ap.fin {x : Nat} {X e : Rat} (h : Ap x X e) : Small2.fin x = true := h.1
theorem Ap.weak {x : Nat} {X e f : Rat} (h : Ap x X e) (g : e ≤ f) : Ap x X f := ⟨h.1, Rat.le_trans h.2.1 g, by have := h.2.2; grind⟩
theorem Ap.bd {x : Nat} {X e : Rat} (h : Ap x X e) : Bd (val x - X) e := ⟨h.2.1, h.2.2⟩
theorem Ap.val_bd {x : Nat} {X e B : Rat} (h : Ap x X e) (g : Bd X B) : Bd (val x) (B + e) := by
  have := h.bd
  unfold Bd at *
  grind
theorem Ap.self {x : Nat} (h : Small2.fin x = true) : Ap x (val x) 0 := ⟨h, by grind, by grind⟩
theorem Ap.move {x : Nat} {X Y e f : Rat} (h : Ap x X e) (g : Bd (X - Y) f) : Ap x Y (e + f) := by
  obtain ⟨h1, h2, h3⟩ := h
  unfold Bd at g
  exact ⟨h1, by grind, by grind⟩

theorem Ap.add {x y : Nat} {X Y e f B M d : Rat} (hx : Ap x X e) (hy : Ap y Y f) (hB : Bd (X + Y) B) (hM : B + e + f ≤ M) (h40 : M ≤ 2 ^ 40) (hd : e + f + M / 2 ^ 53 ≤ d) : Ap (fo .add x y) (X + Y) d := by
  have a := hx.bd
  have b := hy.bd
  unfold Bd at *
  obtain ⟨r1, r2, r3⟩ := add_val hx.1 hy.1 (FR_of (fo_add hx.1 hy.1)) (M := M) (by grind) (by grind) h40
  exact ⟨r1, by grind, by grind⟩
theorem Ap.sub {x y : Nat} {X Y e f B M d : Rat} (hx : Ap x X e) (hy : Ap y Y f) (hB : Bd (X - Y) B) (hM : B + e + f ≤ M) (h40 : M ≤ 2 ^ 40) (hd : e + f + M / 2 ^ 53 ≤ d) : Ap (fo .sub x y) (X - Y) d := by
  have a := hx.bd
  have b := hy.bd
  unfold Bd at *
  obtain ⟨r1, r2, r3⟩ := sub_val hx.1 hy.1 (FR_of (fo_sub hx.1 hy.1)) (M := M) (by grind) (by grind) h40
  exact ⟨r1, by grind, by grind⟩
theorem Ap.mul {x y : Nat} {X Y e f B C M d : Rat} (hx : Ap x X e) (hy : Ap y Y f) (hX : Bd X B) (hY : Bd Y C) (hM : B * C + (e * C + (B * f + e * f)) ≤ M) (h40 : M ≤ 2 ^ 40) (h100 : 1 / 2 ^ 100 ≤ M) (hd : e * C + (B * f + e * f) + M / 2 ^ 52 ≤ d) : Ap (fo .mul x y) (X * Y) d := by
  have a := hx.bd
  have b := hy.bd
  have p1 := a.mul hY
  have p2 := hX.mul b
  have p3 := a.mul b
  have p4 := hX.mul hY
  have e1 : val x * val y = X * Y + ((val x - X) * Y + (X * (val y - Y) + (val x - X) * (val y - Y))) := by grind
  obtain ⟨r1, r2, r3⟩ := mul_val hx.1 hy.1 (FR_of (fo_mul hx.1 hy.1)) (M := M) (by unfold Bd at *; grind) (by unfold Bd at *; grind) h40 h100
  unfold Bd at *
  exact ⟨r1, by grind, by grind⟩
theorem V_nonneg_of_key {x : Nat} (h : 0 ≤ Ie.key x) : 0 ≤ V x := by
  rw [V_W]
  unfold Wk
  rw [if_neg (by omega)]
  exact Int.natCast_nonneg _
theorem val_nonneg {x : Nat} (h : 0 ≤ V x) : 0 ≤ val x := by
  unfold val
  exact Rat.mul_nonneg (Rat.intCast_nonneg.2 h) (Rat.le_of_lt tau_pos)
theorem K_nonneg {u v : Int} (h : 0 ≤ v) : 0 ≤ K u v := by
  have := K_mono (u := u) h
  have e : K u 0 = 0 := by
    unfold K
    rw [if_neg (by omega)]
    show (Ie.rung 0 u : Int) = 0
    rw [rung_zero]
    rfl
  omega
theorem mul_nonneg_val {x y : Nat} (hx : Small2.fin x = true) (hy : Small2.fin y = true) (h : 0 ≤ V x * V y) : 0 ≤ val (fo .mul x y) := by
  refine val_nonneg (V_nonneg_of_key ?_)
  rw [(mul_key hx hy (FR_of (fo_mul hx hy))).1]
  exact K_nonneg h
/-- A float's value, read off. -/
theorem val_of {x : Nat} (k : Nat) (n : Int) (h : V x * 2 ^ k = n * 2 ^ 1074) : val x = (n : Rat) / 2 ^ k := by
  have e : ((V x : Int) : Rat) * 2 ^ k = (n : Rat) * (Tn : Rat) := by
    have h1 : ((V x * 2 ^ k : Int) : Rat) = ((n * 2 ^ 1074 : Int) : Rat) := by rw [h]
    rw [Rat.intCast_mul, Rat.intCast_mul, Rat.intCast_pow, Rat.intCast_pow] at h1
    rw [show ((2 : Int) : Rat) = 2 from rfl] at h1
    have hT : (Tn : Rat) = 2 ^ n74 := by unfold Tn; rw [Rat.natCast_pow]; rfl
    rw [h1, hT, n74_eq]
  have hp : (0 : Rat) < 2 ^ k := by
    have := Rat.natCast_lt_natCast.2 (Nat.two_pow_pos k)
    rw [Rat.natCast_pow] at this
    simpa using this
  have hm := tau_mul
  unfold val
  generalize (2 : Rat) ^ k = p at *
  generalize (Tn : Rat) = N at *
  generalize tau = t at *
  generalize (n : Rat) = m at *
  generalize ((V x : Int) : Rat) = v at *
  grind
theorem val_le {x y : Nat} (h : val x ≤ val y) : V x ≤ V y := by
  have := Rat.mul_le_mul_of_nonneg_right h (Rat.le_of_lt Tn_rat)
  unfold val at this
  rw [Rat.mul_assoc, Rat.mul_assoc, tau_mul, Rat.mul_one, Rat.mul_one] at this
  exact Rat.intCast_le_intCast.1 this
theorem key_le_of_val {x y : Nat} (hx : Small2.fin x = true) (hy : Small2.fin y = true) (h : val x ≤ val y) : Ie.key x ≤ Ie.key y := (V_le hx hy).2 (val_le h)
theorem val_le_of_key {x y : Nat} (hx : Small2.fin x = true) (hy : Small2.fin y = true) (h : Ie.key x ≤ Ie.key y) : val x ≤ val y := by
  have := Rat.intCast_le_intCast.2 ((V_le hx hy).1 h)
  exact Rat.mul_le_mul_of_nonneg_right this (Rat.le_of_lt tau_pos)
end Go.Proofs.YtknidlahblfnnaaDoor.Ce
