/-
  Every step of the two polynomials is finite: no operation of theirs draws. No program in sight.
-/
import Derived.Test.YtknidlahblfnnaaDoorCeRed
namespace Go.Proofs.YtknidlahblfnnaaDoor.Ce
open Go Fl Small2 Mono Ieee

abbrev OkM (x y : Nat) : Prop := floatBits .mul .f64 x y = some (fo .mul x y)
abbrev OkA (x y : Nat) : Prop := floatBits .add .f64 x y = some (fo .add x y)
abbrev OkS (x y : Nat) : Prop := floatBits .sub .f64 x y = some (fo .sub x y)
/-- Each step of Horner's scheme. -/
structure HorOk (c0 c1 c2 c3 c4 c5 t : Nat) : Prop where
  g1 : OkM c0 t
  h1 : OkA (fo .mul c0 t) c1
  g2 : OkM (fo .add (fo .mul c0 t) c1) t
  h2 : OkA (fo .mul (fo .add (fo .mul c0 t) c1) t) c2
  g3 : OkM (fo .add (fo .mul (fo .add (fo .mul c0 t) c1) t) c2) t
  h3 : OkA (fo .mul (fo .add (fo .mul (fo .add (fo .mul c0 t) c1) t) c2) t) c3
  g4 : OkM (fo .add (fo .mul (fo .add (fo .mul (fo .add (fo .mul c0 t) c1) t) c2) t) c3) t
  h4 : OkA (fo .mul (fo .add (fo .mul (fo .add (fo .mul (fo .add (fo .mul c0 t) c1) t) c2) t) c3) t) c4
  g5 : OkM (fo .add (fo .mul (fo .add (fo .mul (fo .add (fo .mul (fo .add (fo .mul c0 t) c1) t) c2) t) c3) t) c4) t
  h5 : OkA (fo .mul (fo .add (fo .mul (fo .add (fo .mul (fo .add (fo .mul (fo .add (fo .mul c0 t) c1) t) c2) t) c3) t) c4) t) c5
  fin : Small2.fin (fo .add (fo .mul (fo .add (fo .mul (fo .add (fo .mul (fo .add (fo .mul (fo .add (fo .mul c0 t) c1) t) c2) t) c3) t) c4) t) c5) = true
theorem horner_ok {c0 c1 c2 c3 c4 c5 t : Nat} {C0 C1 C2 C3 C4 C5 T : Rat}
    (h0 : Ap c0 C0 0) (h1 : Ap c1 C1 0) (h2 : Ap c2 C2 0) (h3 : Ap c3 C3 0) (h4 : Ap c4 C4 0) (h5 : Ap c5 C5 0) (ht : Ap t T 0)
    (b0 : Bd C0 (1 / 2 ^ 32)) (b1 : Bd C1 (1 / 2 ^ 25)) (b2 : Bd C2 (1 / 2 ^ 18)) (b3 : Bd C3 (1 / 2 ^ 12)) (b4 : Bd C4 (1 / 2 ^ 6)) (b5 : Bd C5 (1 / 5)) (bt : Bd T (5 / 8)) :
    HorOk c0 c1 c2 c3 c4 c5 t := by
  have x0 := h0
  have B0 := b0
  have m1 := Ap.mul (M := 1 / 2 ^ 32) (d := 1 / 2 ^ 83) x0 ht B0 bt (by decide +kernel) (by decide +kernel) (by decide +kernel) (by decide +kernel)
  have D1 := Bd.weak (C := 1 / 2 ^ 32) (B0.mul bt) (by decide +kernel)
  have B1 := Bd.weak (C := 1 / 2 ^ 24) (D1.add b1) (by decide +kernel)
  have x1 := Ap.add (M := 1 / 2 ^ 23) (d := 1 / 2 ^ 75) m1 h1 B1 (by decide +kernel) (by decide +kernel) (by decide +kernel)
  have m2 := Ap.mul (M := 1 / 2 ^ 23) (d := 1 / 2 ^ 74) x1 ht B1 bt (by decide +kernel) (by decide +kernel) (by decide +kernel) (by decide +kernel)
  have D2 := Bd.weak (C := 1 / 2 ^ 24) (B1.mul bt) (by decide +kernel)
  have B2 := Bd.weak (C := 1 / 2 ^ 17) (D2.add b2) (by decide +kernel)
  have x2 := Ap.add (M := 1 / 2 ^ 16) (d := 1 / 2 ^ 68) m2 h2 B2 (by decide +kernel) (by decide +kernel) (by decide +kernel)
  have m3 := Ap.mul (M := 1 / 2 ^ 16) (d := 1 / 2 ^ 67) x2 ht B2 bt (by decide +kernel) (by decide +kernel) (by decide +kernel) (by decide +kernel)
  have D3 := Bd.weak (C := 1 / 2 ^ 17) (B2.mul bt) (by decide +kernel)
  have B3 := Bd.weak (C := 1 / 2 ^ 11) (D3.add b3) (by decide +kernel)
  have x3 := Ap.add (M := 1 / 2 ^ 10) (d := 1 / 2 ^ 62) m3 h3 B3 (by decide +kernel) (by decide +kernel) (by decide +kernel)
  have m4 := Ap.mul (M := 1 / 2 ^ 10) (d := 1 / 2 ^ 61) x3 ht B3 bt (by decide +kernel) (by decide +kernel) (by decide +kernel) (by decide +kernel)
  have D4 := Bd.weak (C := 1 / 2 ^ 11) (B3.mul bt) (by decide +kernel)
  have B4 := Bd.weak (C := 1 / 2 ^ 5) (D4.add b4) (by decide +kernel)
  have x4 := Ap.add (M := 1 / 2 ^ 4) (d := 1 / 2 ^ 56) m4 h4 B4 (by decide +kernel) (by decide +kernel) (by decide +kernel)
  have m5 := Ap.mul (M := 1 / 2 ^ 4) (d := 1 / 2 ^ 55) x4 ht B4 bt (by decide +kernel) (by decide +kernel) (by decide +kernel) (by decide +kernel)
  have D5 := Bd.weak (C := 1 / 2 ^ 5) (B4.mul bt) (by decide +kernel)
  have B5 := Bd.weak (C := 1 / 4) (D5.add b5) (by decide +kernel)
  have x5 := Ap.add (M := 1 / 2) (d := E / 2) m5 h5 B5 (by decide +kernel) (by decide +kernel) (by decide +kernel)
  exact ⟨fo_mul x0.1 ht.1, fo_add m1.1 h1.1, fo_mul x1.1 ht.1, fo_add m2.1 h2.1, fo_mul x2.1 ht.1, fo_add m3.1 h3.1, fo_mul x3.1 ht.1, fo_add m4.1 h4.1, fo_mul x4.1 ht.1, fo_add m5.1 h5.1, x5.1⟩
theorem hor_s_ok {t : Nat} {T : Rat} (ht : Ap t T 0) (bt : Bd T (5 / 8)) : HorOk s0 s1 s2 s3 s4 s5 t :=
  horner_ok val_s0 val_s1 val_s2 val_s3 val_s4 val_s5 ht (by unfold Bd; decide +kernel) (by unfold Bd; decide +kernel) (by unfold Bd; decide +kernel) (by unfold Bd; decide +kernel) (by unfold Bd; decide +kernel) (by unfold Bd; decide +kernel) bt
theorem hor_c_ok {t : Nat} {T : Rat} (ht : Ap t T 0) (bt : Bd T (5 / 8)) : HorOk c0 c1 c2 c3 c4 c5 t :=
  horner_ok val_c0 val_c1 val_c2 val_c3 val_c4 val_c5 ht (by unfold Bd; decide +kernel) (by unfold Bd; decide +kernel) (by unfold Bd; decide +kernel) (by unfold Bd; decide +kernel) (by unfold Bd; decide +kernel) (by unfold Bd; decide +kernel) bt
/-- Each step of the sine polynomial. -/
structure SOk (z : Nat) : Prop where
  t : OkM z z
  k1 : OkM z (sq z)
  h : HorOk s0 s1 s2 s3 s4 s5 (sq z)
  k2 : OkM (fo .mul z (sq z)) (hor s0 s1 s2 s3 s4 s5 (sq z))
  r : OkA z (fo .mul (fo .mul z (sq z)) (hor s0 s1 s2 s3 s4 s5 (sq z)))
/-- Each step of the cosine polynomial. -/
structure COk (z : Nat) : Prop where
  t : OkM z z
  k1 : OkM half (sq z)
  k2 : OkS one (fo .mul half (sq z))
  k3 : OkM (sq z) (sq z)
  h : HorOk c0 c1 c2 c3 c4 c5 (sq z)
  k4 : OkM (fo .mul (sq z) (sq z)) (hor c0 c1 c2 c3 c4 c5 (sq z))
  r : OkA (fo .sub one (fo .mul half (sq z))) (fo .mul (fo .mul (sq z) (sq z)) (hor c0 c1 c2 c3 c4 c5 (sq z)))
theorem sOk {z : Nat} (h : Red z) : SOk z := by
  obtain ⟨f1, n1, l1, g1⟩ := sq_ok h
  obtain ⟨hf, hb⟩ := h
  have at0 := Ap.self f1
  have az := Ap.self hf
  have bt := bdT n1 l1
  have hh := hor_s at0 bt
  have hk := hor_s_ok at0 bt
  have bs := bd_s n1 l1
  have m1 := Ap.mul (M := 1 / 2) (d := E / 2) az at0 hb bt (by decide +kernel) (by decide +kernel) (by decide +kernel) (by decide +kernel)
  have d1 := Bd.weak (C := 1 / 2) (hb.mul bt) (by decide +kernel)
  have m2 := Ap.mul (M := 1 / 4) (d := 3 / 4 * E) m1 hh d1 bs (by decide +kernel) (by decide +kernel) (by decide +kernel) (by decide +kernel)
  exact ⟨fo_mul hf hf, fo_mul hf f1, hk, fo_mul m1.1 hh.1, fo_add hf m2.1⟩
theorem cOk {z : Nat} (h : Red z) : COk z := by
  obtain ⟨f1, n1, l1, g1⟩ := sq_ok h
  have hf := h.1
  have at0 := Ap.self f1
  have bt := bdT n1 l1
  have hh := hor_c at0 bt
  have hk := hor_c_ok at0 bt
  have bs := bd_c n1 l1
  have ah : Ap half (1 / 2) 0 := ap_of fin_half val_half
  have ao : Ap one 1 0 := ap_of fin_one val_one
  have bh : Bd (1 / 2 : Rat) (1 / 2) := by unfold Bd; decide +kernel
  have m1 := Ap.mul (M := 11 / 32) (d := 11 / 32 * E) ah at0 bh bt (by decide +kernel) (by decide +kernel) (by decide +kernel) (by decide +kernel)
  have b1 : Bd (1 - 1 / 2 * val (sq z)) 1 := by unfold Bd; constructor <;> grind
  have m2 := Ap.sub (M := 17 / 16) (d := 15 / 16 * E) ao m1 b1 (by decide +kernel) (by decide +kernel) (by decide +kernel)
  have m3 := Ap.mul (M := 13 / 32) (d := 13 / 32 * E) at0 at0 bt bt (by decide +kernel) (by decide +kernel) (by decide +kernel) (by decide +kernel)
  have b3 := Bd.weak (C := 13 / 32) (bt.mul bt) (by decide +kernel)
  have m4 := Ap.mul (M := 1 / 32) (d := 1 / 3 * E) m3 hh b3 bs (by decide +kernel) (by decide +kernel) (by decide +kernel) (by decide +kernel)
  exact ⟨fo_mul hf hf, fo_mul fin_half f1, fo_sub fin_one m1.1, fo_mul f1 f1, hk, fo_mul m3.1 hh.1, fo_add m2.1 m4.1⟩
end Go.Proofs.YtknidlahblfnnaaDoor.Ce
