/-
  The two polynomials of math.sin and math.cos as floats: within 2 / 2^52 of the exact ones; the sum of their squares is 1 within 18 / 2^52; neither passes 1. No program in sight.
-/
import Derived.Test.YtknidlahblfnnaaDoorCeNum
namespace Go.Proofs.YtknidlahblfnnaaDoor.Ce
open Go Fl Small2 Mono Ieee

def E : Rat := 1 / 2 ^ 52
def one : Nat := 4607182418800017408
def half : Nat := 4602678819172646912
def tol : Nat := 4397347889687374747
theorem fin_one : Small2.fin one = true := by decide +kernel
theorem fin_half : Small2.fin half = true := by decide +kernel
theorem fin_tol : Small2.fin tol = true := by decide +kernel
theorem fin_zero : Small2.fin 0 = true := by decide +kernel
theorem val_one : val one = 1 := by rw [val_of (x := one) 0 1 (by decide +kernel)]; decide +kernel
theorem val_half : val half = 1 / 2 := by rw [val_of (x := half) 1 1 (by decide +kernel)]; decide +kernel
theorem val_zero : val 0 = 0 := by rw [val_of (x := 0) 0 0 (by decide +kernel)]; decide +kernel
theorem val_tol : val tol = (6338253001141147 : Int) / 2 ^ 99 := val_of 99 6338253001141147 (by decide +kernel)
theorem ap_of {x : Nat} {q : Rat} (hf : Small2.fin x = true) (h : val x = q) : Ap x q 0 := ⟨hf, by rw [h]; grind, by rw [h]; grind⟩

/-- Horner's scheme for six coefficients, the highest first. -/
def hor (c0 c1 c2 c3 c4 c5 t : Nat) : Nat :=
  fo .add (fo .mul (fo .add (fo .mul (fo .add (fo .mul (fo .add (fo .mul (fo .add (fo .mul c0 t) c1) t) c2) t) c3) t) c4) t) c5
theorem horner {c0 c1 c2 c3 c4 c5 t : Nat} {C0 C1 C2 C3 C4 C5 T : Rat}
    (h0 : Ap c0 C0 0) (h1 : Ap c1 C1 0) (h2 : Ap c2 C2 0) (h3 : Ap c3 C3 0) (h4 : Ap c4 C4 0) (h5 : Ap c5 C5 0) (ht : Ap t T 0)
    (b0 : Bd C0 (1 / 2 ^ 32)) (b1 : Bd C1 (1 / 2 ^ 25)) (b2 : Bd C2 (1 / 2 ^ 18)) (b3 : Bd C3 (1 / 2 ^ 12)) (b4 : Bd C4 (1 / 2 ^ 6)) (b5 : Bd C5 (1 / 5)) (bt : Bd T (5 / 8)) :
    Ap (hor c0 c1 c2 c3 c4 c5 t) (C5 + T * (C4 + T * (C3 + T * (C2 + T * (C1 + T * C0))))) (E / 2) := by
  have x0 := h0
  have B0 := b0
  have m1 := Ap.mul (M := 1 / 2 ^ 32) (d := 1 / 2 ^ 83) x0 ht B0 bt (by decide +kernel) (by decide +kernel) (by decide +kernel) (by decide +kernel)
  have D1 := Bd.weak (C := 1 / 2 ^ 32) (B0.mul bt) (by decide +kernel)
  have B1 := Bd.weak (C := 1 / 2 ^ 24) (D1.add b1) (by decide +kernel)
  have x1 := Ap.add (M := 1 / 2 ^ 23) (d := 1 / 2 ^ 75) m1 h1 B1 (by decide +kernel) (by decide +kernel) (by decide +kernel)
  have m2 := Ap.mul (M := 1 / 2 ^ 23) (d := 1 / 2 ^ 74) x1 ht B1 bt (by decide +kernel) (by decide +kernel) (by decide +kernel) (by decide +kernel)
  have D2 := Bd.weak (C := 1 / 2 ^ 24) (B1.mul bt) (by decide +kernel)
  have B2 := Bd.weak (C := 1 / 2 ^ 17) (D2.add b2) (by decide +kernel)
  have x2 := Ap.add (M := 1 / 2 ^ 16) (d := 1 / 2 ^ 68) m2 h2 B2 (by decide +kernel) (by decide +kernel) (by decide +kernel)
  have m3 := Ap.mul (M := 1 / 2 ^ 16) (d := 1 / 2 ^ 67) x2 ht B2 bt (by decide +kernel) (by decide +kernel) (by decide +kernel) (by decide +kernel)
  have D3 := Bd.weak (C := 1 / 2 ^ 17) (B2.mul bt) (by decide +kernel)
  have B3 := Bd.weak (C := 1 / 2 ^ 11) (D3.add b3) (by decide +kernel)
  have x3 := Ap.add (M := 1 / 2 ^ 10) (d := 1 / 2 ^ 62) m3 h3 B3 (by decide +kernel) (by decide +kernel) (by decide +kernel)
  have m4 := Ap.mul (M := 1 / 2 ^ 10) (d := 1 / 2 ^ 61) x3 ht B3 bt (by decide +kernel) (by decide +kernel) (by decide +kernel) (by decide +kernel)
  have D4 := Bd.weak (C := 1 / 2 ^ 11) (B3.mul bt) (by decide +kernel)
  have B4 := Bd.weak (C := 1 / 2 ^ 5) (D4.add b4) (by decide +kernel)
  have x4 := Ap.add (M := 1 / 2 ^ 4) (d := 1 / 2 ^ 56) m4 h4 B4 (by decide +kernel) (by decide +kernel) (by decide +kernel)
  have m5 := Ap.mul (M := 1 / 2 ^ 4) (d := 1 / 2 ^ 55) x4 ht B4 bt (by decide +kernel) (by decide +kernel) (by decide +kernel) (by decide +kernel)
  have D5 := Bd.weak (C := 1 / 2 ^ 5) (B4.mul bt) (by decide +kernel)
  have B5 := Bd.weak (C := 1 / 4) (D5.add b5) (by decide +kernel)
  have x5 := Ap.add (M := 1 / 2) (d := E / 2) m5 h5 B5 (by decide +kernel) (by decide +kernel) (by decide +kernel)
  have e : C5 + T * (C4 + T * (C3 + T * (C2 + T * (C1 + T * C0)))) = (((((C0 * T + C1) * T + C2) * T + C3) * T + C4) * T + C5) := by grind
  rw [e]
  exact x5
def s0 : Nat := 4460209587652500685
theorem val_s0 : Ap s0 (6149556183080141 / 2 ^ 85) 0 := ap_of (by decide +kernel) (by rw [val_of (x := s0) 85 (6149556183080141) (by decide +kernel)]; decide +kernel)
def s1 : Nat := 13716528389658582877
theorem val_s1 : Ap s1 (-7571123942793053 / 2 ^ 78) 0 := ap_of (by decide +kernel) (by rw [val_of (x := s1) 78 (-7571123942793053) (by decide +kernel)]; decide +kernel)
def s2 : Nat := 4523617212962785441
theorem val_s2 : Ap s2 (6506786710177953 / 2 ^ 71) 0 := ap_of (by decide +kernel) (by rw [val_of (x := s2) 71 (6506786710177953) (by decide +kernel)]; decide +kernel)
def s3 : Nat := 13774824197404483331
theorem val_s3 : Ap s3 (-7320136532877059 / 2 ^ 65) 0 := ap_of (by decide +kernel) (by rw [val_of (x := s3) 65 (-7320136532877059) (by decide +kernel)]; decide +kernel)
def s4 : Nat := 4575957461383575504
theorem val_s4 : Ap s4 (4803839602522064 / 2 ^ 59) 0 := ap_of (by decide +kernel) (by rw [val_of (x := s4) 59 (4803839602522064) (by decide +kernel)]; decide +kernel)
def s5 : Nat := 13818544856648471880
theorem val_s5 : Ap s5 (-6004799503160648 / 2 ^ 55) 0 := ap_of (by decide +kernel) (by rw [val_of (x := s5) 55 (-6004799503160648) (by decide +kernel)]; decide +kernel)
def c0 : Nat := 13666448263388469915
theorem val_c0 : Ap c0 (-7030593573755547 / 2 ^ 89) 0 := ap_of (by decide +kernel) (by rw [val_of (x := c0) 89 (-7030593573755547) (by decide +kernel)]; decide +kernel)
def c1 : Nat := 4477121864728985349
theorem val_c1 : Ap c1 (5047434750082821 / 2 ^ 81) 0 := ap_of (by decide +kernel) (by rw [val_of (x := c1) 81 (5047434750082821) (by decide +kernel)]; decide +kernel)
def c2 : Nat := 13732177093698800582
theorem val_c2 : Ap c2 (-5205429473528774 / 2 ^ 74) 0 := ap_of (by decide +kernel) (by rw [val_of (x := c2) 74 (-5205429473528774) (by decide +kernel)]; decide +kernel)
def c3 : Nat := 4537941361668146421
theorem val_c3 : Ap c3 (7320136533427445 / 2 ^ 68) 0 := ap_of (by decide +kernel) (by rw [val_of (x := c3) 68 (7320136533427445) (by decide +kernel)]; decide +kernel)
def c4 : Nat := 13787419979223748497
theorem val_c4 : Ap c4 (-6405119470030737 / 2 ^ 62) 0 := ap_of (by decide +kernel) (by rw [val_of (x := c4) 62 (-6405119470030737) (by decide +kernel)]; decide +kernel)
def c5 : Nat := 4586165620538955083
theorem val_c5 : Ap c5 (6004799503160651 / 2 ^ 57) 0 := ap_of (by decide +kernel) (by rw [val_of (x := c5) 57 (6004799503160651) (by decide +kernel)]; decide +kernel)

theorem sin6_ev (T : Rat) : (-6004799503160648 / 2 ^ 55 : Rat) + T * (4803839602522064 / 2 ^ 59 + T * (-7320136532877059 / 2 ^ 65 + T * (6506786710177953 / 2 ^ 71 + T * (-7571123942793053 / 2 ^ 78 + T * (6149556183080141 / 2 ^ 85))))) = ev sin6 T := by
  simp only [sin6, ev]; grind
theorem cos6_ev (T : Rat) : (6004799503160651 / 2 ^ 57 : Rat) + T * (-6405119470030737 / 2 ^ 62 + T * (7320136533427445 / 2 ^ 68 + T * (-5205429473528774 / 2 ^ 74 + T * (5047434750082821 / 2 ^ 81 + T * (-7030593573755547 / 2 ^ 89))))) = ev cos6 T := by
  simp only [cos6, ev]; grind
theorem hor_s {t : Nat} {T : Rat} (ht : Ap t T 0) (bt : Bd T (5 / 8)) : Ap (hor s0 s1 s2 s3 s4 s5 t) (ev sin6 T) (E / 2) := by
  rw [← sin6_ev]
  exact horner val_s0 val_s1 val_s2 val_s3 val_s4 val_s5 ht (by unfold Bd; decide +kernel) (by unfold Bd; decide +kernel) (by unfold Bd; decide +kernel) (by unfold Bd; decide +kernel) (by unfold Bd; decide +kernel) (by unfold Bd; decide +kernel) bt
theorem hor_c {t : Nat} {T : Rat} (ht : Ap t T 0) (bt : Bd T (5 / 8)) : Ap (hor c0 c1 c2 c3 c4 c5 t) (ev cos6 T) (E / 2) := by
  rw [← cos6_ev]
  exact horner val_c0 val_c1 val_c2 val_c3 val_c4 val_c5 ht (by unfold Bd; decide +kernel) (by unfold Bd; decide +kernel) (by unfold Bd; decide +kernel) (by unfold Bd; decide +kernel) (by unfold Bd; decide +kernel) (by unfold Bd; decide +kernel) bt
theorem bd_s {T : Rat} (h0 : 0 ≤ T) (h1 : T ≤ 5 / 8) : Bd (ev sin6 T) (1 / 5) := by
  have h := ev_abs sin6 T h0 (by grind)
  exact Bd.weak (B := sumAbs sin6) ⟨h.1, h.2⟩ (by decide +kernel)
theorem bd_c {T : Rat} (h0 : 0 ≤ T) (h1 : T ≤ 5 / 8) : Bd (ev cos6 T) (1 / 20) := by
  have h := ev_abs cos6 T h0 (by grind)
  exact Bd.weak (B := sumAbs cos6) ⟨h.1, h.2⟩ (by decide +kernel)

def sq (z : Nat) : Nat := fo .mul z z
/-- The sine polynomial at z. -/
def polS (z : Nat) : Nat := fo .add z (fo .mul (fo .mul z (sq z)) (hor s0 s1 s2 s3 s4 s5 (sq z)))
/-- The cosine polynomial at z. -/
def polC (z : Nat) : Nat := fo .add (fo .sub one (fo .mul half (sq z))) (fo .mul (fo .mul (sq z) (sq z)) (hor c0 c1 c2 c3 c4 c5 (sq z)))

/-- z is finite and at most 0.786. -/
def Red (z : Nat) : Prop := Small2.fin z = true ∧ Bd (val z) (393 / 500)
theorem sq_ok {z : Nat} (h : Red z) : Small2.fin (sq z) = true ∧ 0 ≤ val (sq z) ∧ val (sq z) ≤ 5 / 8 ∧ Bd (val z * val z - val (sq z)) (5 / 8 * E) := by
  obtain ⟨hf, hb⟩ := h
  have m := Ap.mul (M := 31 / 50) (d := 5 / 8 * E) (Ap.self hf) (Ap.self hf) hb hb (by decide +kernel) (by decide +kernel) (by decide +kernel) (by decide +kernel)
  have b := hb.mul hb
  have n := mul_nonneg_val hf hf (by rcases Int.le_total 0 (V z) with h | h; exact Int.mul_nonneg h h; exact Int.mul_nonneg_of_nonpos_of_nonpos h h)
  have e : (393 / 500 * (393 / 500) + 5 / 8 * E : Rat) ≤ 5 / 8 := by decide +kernel
  refine ⟨m.1, n, ?_, ?_⟩
  · have := m.2.1
    unfold Bd at b
    unfold sq
    grind
  · have := m.bd
    unfold Bd at *
    unfold sq
    grind
theorem bdT {T : Rat} (h0 : 0 ≤ T) (h1 : T ≤ 5 / 8) : Bd T (5 / 8) := ⟨h1, by grind⟩
theorem polS_ap {z : Nat} (h : Red z) : Ap (polS z) (val z * ev pS (val (sq z))) (2 * E) ∧ Bd (val z * ev pS (val (sq z))) (19 / 20) := by
  obtain ⟨f1, n1, l1, g1⟩ := sq_ok h
  obtain ⟨hf, hb⟩ := h
  have at0 := Ap.self f1
  have az := Ap.self hf
  have bt := bdT n1 l1
  have hh := hor_s at0 bt
  have bs := bd_s n1 l1
  unfold polS
  generalize sq z = t at *
  generalize hor s0 s1 s2 s3 s4 s5 t = q at *
  have e : val z * ev pS (val t) = val z + val z * val t * ev sin6 (val t) := by simp only [pS, ev]; grind
  rw [e]
  have m1 := Ap.mul (M := 1 / 2) (d := E / 2) az at0 hb bt (by decide +kernel) (by decide +kernel) (by decide +kernel) (by decide +kernel)
  have d1 := Bd.weak (C := 1 / 2) (hb.mul bt) (by decide +kernel)
  have m2 := Ap.mul (M := 1 / 4) (d := 3 / 4 * E) m1 hh d1 bs (by decide +kernel) (by decide +kernel) (by decide +kernel) (by decide +kernel)
  have d2 := Bd.weak (C := 19 / 20) (hb.add (d1.mul bs)) (by decide +kernel)
  exact ⟨Ap.add (M := 1) (d := 2 * E) az m2 d2 (by decide +kernel) (by decide +kernel) (by decide +kernel), d2⟩
theorem bd_pC {T : Rat} (h0 : 0 ≤ T) (h1 : T ≤ 5 / 8) : Bd (ev pC T) 1 := by
  have b := bd_c h0 h1
  have e : ev pC T = 1 - 1 / 2 * T + T * T * ev cos6 T := by simp only [pC, ev]; grind
  rw [e]
  have bt := bdT h0 h1
  have p0 := bt.mul b
  unfold Bd at p0
  have p1 := Rat.mul_le_mul_of_nonneg_left p0.1 h0
  have p2 := Rat.mul_le_mul_of_nonneg_left p0.2 h0
  unfold Bd
  constructor <;> grind
theorem polC_ap {z : Nat} (h : Red z) : Ap (polC z) (ev pC (val (sq z))) (2 * E) ∧ Bd (ev pC (val (sq z))) 1 := by
  obtain ⟨f1, n1, l1, g1⟩ := sq_ok h
  have at0 := Ap.self f1
  have bt := bdT n1 l1
  have hh := hor_c at0 bt
  have bs := bd_c n1 l1
  have bp := bd_pC n1 l1
  unfold polC
  generalize sq z = t at *
  generalize hor c0 c1 c2 c3 c4 c5 t = q at *
  have e : ev pC (val t) = 1 - 1 / 2 * val t + val t * val t * ev cos6 (val t) := by simp only [pC, ev]; grind
  rw [e] at bp ⊢
  have ah : Ap half (1 / 2) 0 := ap_of fin_half val_half
  have ao : Ap one 1 0 := ap_of fin_one val_one
  have bh : Bd (1 / 2 : Rat) (1 / 2) := by unfold Bd; decide +kernel
  have m1 := Ap.mul (M := 11 / 32) (d := 11 / 32 * E) ah at0 bh bt (by decide +kernel) (by decide +kernel) (by decide +kernel) (by decide +kernel)
  have b1 : Bd (1 - 1 / 2 * val t) 1 := by unfold Bd; constructor <;> grind
  have m2 := Ap.sub (M := 17 / 16) (d := 15 / 16 * E) ao m1 b1 (by decide +kernel) (by decide +kernel) (by decide +kernel)
  have m3 := Ap.mul (M := 13 / 32) (d := 13 / 32 * E) at0 at0 bt bt (by decide +kernel) (by decide +kernel) (by decide +kernel) (by decide +kernel)
  have b3 := Bd.weak (C := 13 / 32) (bt.mul bt) (by decide +kernel)
  have m4 := Ap.mul (M := 1 / 32) (d := 1 / 3 * E) m3 hh b3 bs (by decide +kernel) (by decide +kernel) (by decide +kernel) (by decide +kernel)
  exact ⟨Ap.add (M := 17 / 16) (d := 2 * E) m2 m4 bp (by decide +kernel) (by decide +kernel) (by decide +kernel), bp⟩
/-- The sum of the squares. -/
theorem squares {z : Nat} (h : Red z) : Bd (val z * ev pS (val (sq z)) * (val z * ev pS (val (sq z))) + ev pC (val (sq z)) * ev pC (val (sq z)) - 1) (3 * E) := by
  obtain ⟨f1, n1, l1, g1⟩ := sq_ok h
  have q := sumsq n1 l1
  rw [ev_pQ] at q
  have bs := bd_s n1 l1
  have bt := bdT n1 l1
  have bS : Bd (ev pS (val (sq z))) (9 / 8) := by
    have e : ev pS (val (sq z)) = 1 + val (sq z) * ev sin6 (val (sq z)) := by simp only [pS, ev]
    rw [e]
    have b := bt.mul bs
    unfold Bd at *
    constructor <;> grind
  have b2 := g1.mul (bS.mul bS)
  generalize ev pS (val (sq z)) = S at *
  generalize ev pC (val (sq z)) = C at *
  generalize val (sq z) = T at *
  generalize val z = Z at *
  have e : Z * S * (Z * S) + C * C - 1 = (T * (S * S) + C * C - 1) + (Z * Z - T) * (S * S) := by grind
  rw [e]
  have w : (5 / 8 * E * (9 / 8 * (9 / 8)) : Rat) ≤ E := by decide +kernel
  have w2 : (1 / 2 ^ 51 : Rat) = 2 * E := by decide +kernel
  rw [w2] at q
  unfold Bd at *
  constructor <;> grind
/-- The law's last comparison, s and c near the two polynomials, in either order. -/
def dist (s c : Nat) : Nat := fo .sub (fo .add (fo .mul s s) (fo .mul c c)) one
theorem dist_ap {s c : Nat} {S C : Rat} (hs : Ap s S (2 * E)) (hc : Ap c C (2 * E)) (bs : Bd S 1) (bc : Bd C 1) (h : Bd (S * S + C * C - 1) (3 * E)) :
    Small2.fin (fo .mul s s) = true ∧ Small2.fin (fo .mul c c) = true ∧ Small2.fin (fo .add (fo .mul s s) (fo .mul c c)) = true ∧ Ap (dist s c) 0 (20 * E) := by
  have m1 := Ap.mul (M := 17 / 16) (d := 6 * E) hs hs bs bs (by decide +kernel) (by decide +kernel) (by decide +kernel) (by decide +kernel)
  have m2 := Ap.mul (M := 17 / 16) (d := 6 * E) hc hc bc bc (by decide +kernel) (by decide +kernel) (by decide +kernel) (by decide +kernel)
  have b1 : Bd (S * S + C * C) 2 := by
    have := (bs.mul bs).add (bc.mul bc)
    exact this.weak (by decide +kernel)
  have m3 := Ap.add (M := 3) (d := 14 * E) m1 m2 b1 (by decide +kernel) (by decide +kernel) (by decide +kernel)
  have ao : Ap one 1 0 := ap_of fin_one val_one
  have m4 := Ap.sub (M := 1) (d := 15 * E) m3 ao h (by decide +kernel) (by decide +kernel) (by decide +kernel)
  refine ⟨m1.1, m2.1, m3.1, ?_⟩
  have g : Bd (S * S + C * C - 1 - 0) (3 * E) := by
    rw [show S * S + C * C - 1 - 0 = S * S + C * C - 1 by grind]
    exact h
  exact (m4.move g).weak (by decide +kernel)
theorem within_tol {d : Nat} (h : Ap d 0 (20 * E)) : Ie.key d ≤ Ie.key tol ∧ Ie.key (fo .sub 0 tol) ≤ Ie.key d ∧ Small2.fin (fo .sub 0 tol) = true := by
  have vt := val_tol
  have at0 : Ap tol ((6338253001141147 : Int) / 2 ^ 99) 0 := ap_of fin_tol vt
  have az : Ap 0 0 0 := ap_of fin_zero val_zero
  have bt : Bd (0 - ((6338253001141147 : Int) : Rat) / 2 ^ 99) (1 / 2 ^ 40) := by unfold Bd; decide +kernel
  have m := Ap.sub (M := 1 / 2 ^ 40) (d := 1 / 2 ^ 93) az at0 bt (by decide +kernel) (by decide +kernel) (by decide +kernel)
  obtain ⟨h1, h2, h3⟩ := h
  have w1 : (20 * E : Rat) ≤ ((6338253001141147 : Int) : Rat) / 2 ^ 99 := by decide +kernel
  have w2 : (20 * E + 1 / 2 ^ 93 : Rat) ≤ ((6338253001141147 : Int) : Rat) / 2 ^ 99 := by decide +kernel
  obtain ⟨m1, m2, m3⟩ := m
  refine ⟨key_le_of_val h1 fin_tol ?_, key_le_of_val m1 h1 ?_, m1⟩
  · rw [vt]; grind
  · grind
/-- A sum is at most 1 where the exact one is at most 1 + 2^-60. -/
theorem key_one_of {x y : Nat} (hx : Small2.fin x = true) (hy : Small2.fin y = true) (h : val x + val y ≤ 1 + 1 / 2 ^ 60) : Ie.key (fo .add x y) ≤ Ie.key one := by
  rw [(add_key hx hy (FR_of (fo_add hx hy))).1]
  have e : V x + V y ≤ 2 ^ 1074 + 2 ^ 1014 := by
    have h1 := Rat.mul_le_mul_of_nonneg_right h (Rat.le_of_lt Tn_rat)
    have h2 : (val x + val y) * (Tn : Rat) = ((V x + V y : Int) : Rat) := by
      rw [Rat.intCast_add]
      have hm := tau_mul
      unfold val
      generalize ((V x : Int) : Rat) = a at *
      generalize ((V y : Int) : Rat) = b at *
      grind
    have h3 : ((1 : Rat) + 1 / 2 ^ 60) * (Tn : Rat) = ((2 ^ 1074 + 2 ^ 1014 : Int) : Rat) := by
      unfold Tn
      rw [n74_eq]
      decide +kernel
    rw [h2, h3] at h1
    exact Rat.intCast_le_intCast.1 h1
  have k : K (-1074) (2 ^ 1074 + 2 ^ 1014) = Ie.key one := by decide +kernel
  rw [← k]
  exact K_mono e
theorem val_sub_le {h : Nat} (hf : Small2.fin h = true) (h0 : 0 ≤ val h) (h2 : Small2.fin (fo .sub one h) = true) : val (fo .sub one h) ≤ 1 := by
  have k := (sub_key fin_one hf (FR_of (fo_sub fin_one hf))).1
  have hv : 0 ≤ V h := by
    have := val_le (x := 0) (y := h) (by rw [val_zero]; exact h0)
    have e : V 0 = 0 := by decide +kernel
    omega
  have k2 := key_V fin_one
  have := K_mono (u := -1074) (show V one - V h ≤ V one by omega)
  rw [← k, ← k2] at this
  have := val_le_of_key h2 fin_one this
  rwa [val_one] at this
/-- The cosine polynomial is at most 1. -/
theorem polC_le {z : Nat} (h : Red z) : Ie.key (polC z) ≤ Ie.key one := by
  obtain ⟨f1, n1, l1, g1⟩ := sq_ok h
  have at0 := Ap.self f1
  have bt := bdT n1 l1
  have hh := hor_c at0 bt
  have bs := bd_c n1 l1
  unfold polC
  generalize sq z = t at *
  generalize hor c0 c1 c2 c3 c4 c5 t = q at *
  have ah : Ap half (1 / 2) 0 := ap_of fin_half val_half
  have ao : Ap one 1 0 := ap_of fin_one val_one
  have bh : Bd (1 / 2 : Rat) (1 / 2) := by unfold Bd; decide +kernel
  have vn : 0 ≤ val (fo .mul half t) := mul_nonneg_val fin_half f1 (by
    have v1 : 0 ≤ V half := by decide +kernel
    have v2 : 0 ≤ V t := by
      have := val_le (x := 0) (y := t) (by rw [val_zero]; exact n1)
      have e : V 0 = 0 := by decide +kernel
      omega
    exact Int.mul_nonneg v1 v2)
  have bq : Bd (val q) (1 / 16) := (hh.val_bd bs).weak (by decide +kernel)
  have aq := Ap.self hh.1
  rcases (Rat.le_total : val t ≤ 1 / 2 ^ 50 ∨ 1 / 2 ^ 50 ≤ val t) with c | c
  · have bt2 : Bd (val t) (1 / 2 ^ 50) := ⟨c, by grind⟩
    have m1 := Ap.mul (M := 1 / 2 ^ 50) (d := 1 / 2 ^ 100) ah at0 bh bt2 (by decide +kernel) (by decide +kernel) (by decide +kernel) (by decide +kernel)
    have b1 : Bd (1 - 1 / 2 * val t) 1 := by unfold Bd; constructor <;> grind
    have m2 := Ap.sub (M := 2) (d := 2 * E) ao m1 b1 (by decide +kernel) (by decide +kernel) (by decide +kernel)
    have m3 := Ap.mul (M := 1 / 2 ^ 100) (d := 1 / 2 ^ 100) at0 at0 bt2 bt2 (by decide +kernel) (by decide +kernel) (by decide +kernel) (by decide +kernel)
    have b3 := bt2.mul bt2
    have m4 := Ap.mul (M := 1 / 2 ^ 99) (d := 1 / 2 ^ 99) m3 aq b3 bq (by decide +kernel) (by decide +kernel) (by decide +kernel) (by decide +kernel)
    have b4 := m4.val_bd (b3.mul bq)
    refine key_one_of m2.1 m4.1 ?_
    have v := val_sub_le m1.1 vn m2.1
    have w : (1 / 2 ^ 50 * (1 / 2 ^ 50) * (1 / 16) + 1 / 2 ^ 99 : Rat) ≤ 1 / 2 ^ 60 := by decide +kernel
    unfold Bd at b4
    grind
  · have hT : (1 / 2 ^ 100 : Rat) ≤ 1 / 2 ^ 50 * (1 / 64) := by decide +kernel
    have hT40 : (5 / 8 : Rat) ≤ 2 ^ 40 := by decide +kernel
    have hE : (0 : Rat) ≤ E ∧ E ≤ 1 / 2 ^ 52 ∧ (1 / 2 ^ 52 : Rat) ≤ 1 / 1000 := by decide +kernel
    obtain ⟨T, eT⟩ : ∃ T, T = val t := ⟨_, rfl⟩
    rw [← eT] at at0 bt n1 l1 c
    have bt3 : Bd T T := ⟨by grind, by grind⟩
    have m1 := Ap.mul (M := T) (d := T / 2 ^ 52) ah at0 bh bt3 (by grind) (by grind) (by grind) (by grind)
    have b1 : Bd (1 - 1 / 2 * T) 1 := by unfold Bd; constructor <;> grind
    have b1' : Bd (val (fo .mul half t) - 1 / 2 * T) (T / 2 ^ 52) := m1.bd
    have ah2 := Ap.self m1.1
    have b5 : Bd (1 - val (fo .mul half t)) 1 := by unfold Bd at *; constructor <;> grind
    have m2 := Ap.sub (M := 1) (d := 1 / 2 ^ 53) ao ah2 b5 (by decide +kernel) (by decide +kernel) (by decide +kernel)
    have bt4 : Bd T (5 / 8) := bt
    have b3 : Bd (T * T) (5 / 8 * T) := bt4.mul bt3
    have m3 := Ap.mul (M := 5 / 8 * T) (d := T / 2 ^ 52) at0 at0 bt4 bt3 (by grind) (by grind) (by grind) (by grind)
    have b6 := m3.val_bd b3
    have am := Ap.self m3.1
    have b7 : Bd (val (fo .mul t t)) (11 / 16 * T) := b6.weak (by grind)
    have m4 := Ap.mul (M := 1 / 16 * T) (d := T / 2 ^ 52) am aq b7 bq (by grind) (by grind) (by grind) (by grind)
    have b8 := m4.val_bd (b7.mul bq)
    refine key_one_of m2.1 m4.1 ?_
    have b9 := m2.bd
    unfold Bd at *
    grind
/-- Each of the two polynomials is between -1 and 1. -/
theorem key_between {x : Nat} {X : Rat} (h : Ap x X (2 * E)) (b : Bd X (19 / 20)) : -Ie.key one ≤ Ie.key x ∧ Ie.key x ≤ Ie.key one := by
  have bb := h.val_bd b
  have w : (19 / 20 + 2 * E : Rat) ≤ 1 := by decide +kernel
  have b2 := bb.weak w
  have m1 : Small2.fin 13830554455654793216 = true := by decide +kernel
  have m2 : val 13830554455654793216 = -1 := by rw [val_of (x := 13830554455654793216) 0 (-1) (by decide +kernel)]; decide +kernel
  have m3 : Ie.key 13830554455654793216 = -Ie.key one := by decide +kernel
  constructor
  · rw [← m3]
    exact key_le_of_val m1 h.1 (by rw [m2]; exact b2.2)
  · exact key_le_of_val h.1 fin_one (by rw [val_one]; exact b2.1)
theorem polS_between {z : Nat} (h : Red z) : -Ie.key one ≤ Ie.key (polS z) ∧ Ie.key (polS z) ≤ Ie.key one := key_between (polS_ap h).1 (polS_ap h).2
theorem polC_between {z : Nat} (h : Red z) : -Ie.key one ≤ Ie.key (polC z) ∧ Ie.key (polC z) ≤ Ie.key one := by
  refine ⟨?_, polC_le h⟩
  obtain ⟨a, b⟩ := polC_ap h
  obtain ⟨f1, n1, l1, g1⟩ := sq_ok h
  have c : 0 ≤ ev pC (val (sq z)) := by
    have bc := bd_c n1 l1
    have e : ev pC (val (sq z)) = 1 - 1 / 2 * val (sq z) + val (sq z) * val (sq z) * ev cos6 (val (sq z)) := by simp only [pC, ev]; grind
    rw [e]
    have p := ((bdT n1 l1).mul (bdT n1 l1)).mul bc
    unfold Bd at p
    grind
  have m1 : Small2.fin 13830554455654793216 = true := by decide +kernel
  have m2 : val 13830554455654793216 = -1 := by rw [val_of (x := 13830554455654793216) 0 (-1) (by decide +kernel)]; decide +kernel
  have m3 : Ie.key 13830554455654793216 = -Ie.key one := by decide +kernel
  rw [← m3]
  refine key_le_of_val m1 a.1 ?_
  have := a.2.2
  have w : (2 * E : Rat) ≤ 1 := by decide +kernel
  rw [m2]
  grind
end Go.Proofs.YtknidlahblfnnaaDoor.Ce
