/-
  The bytes of a decoded rune. No condition.
-/
import Derived.Test.YtcijcifhdakhoaaFmtDec
import Derived.Laws.BitsLemmas
namespace Go.Proofs.YtcijcifhdakhoaaFmt.U8
open Go.RowKit Go.Lib Go.Proofs.YtcijcifhdakhoaaFmt.Hash Go.Proofs.YtcijcifhdakhoaaFmt.Dec

abbrev bt (s : ByteArray) (k : Nat) : Nat := (s.get! k).toNat
theorem bt_lt (s : ByteArray) (k : Nat) : bt s k < 256 := (s.get! k).toNat_lt
theorem bt_eq (s : ByteArray) (k : Nat) (h : k < s.size) : (s[k]'h).toNat = bt s k := by
  have e : s[k]'h = s.get! k := by
    show s.data[k] = s.data[k]!
    rw [getElem!_pos s.data k h]
  rw [e]
def ct (s : ByteArray) (i lo hi : Nat) : Bool := decide (i < s.size ∧ lo ≤ bt s i ∧ bt s i ≤ hi)
section
variable (s : ByteArray) (i : Nat)
theorem dec1 (h : bt s i < 128) : Utf8.decode s i = (bt s i, 1) := by
  unfold bt at *
  unfold Utf8.decode
  dsimp only
  simp only [Nat.add_zero]
  rw [if_pos (by omega)]
theorem contK (j : Nat) : (decide (j < s.size) && (s.get! j).toNat / 64 == 2) = ct s j 128 191 := by
  rw [Bool.eq_iff_iff]
  simp only [ct, bt, Bool.and_eq_true, decide_eq_true_eq, beq_iff_eq]
  omega
theorem ct_split (j lo hi : Nat) (h1 : 128 ≤ lo) (h2 : hi ≤ 191) : ct s j lo hi = (ct s j 128 191 && decide (lo ≤ bt s j ∧ bt s j ≤ hi)) := by
  rw [Bool.eq_iff_iff]
  simp only [ct, Bool.and_eq_true, decide_eq_true_eq]
  omega
def v3 : Nat := bt s i % 16 * 4096 + bt s (i + 1) % 64 * 64 + bt s (i + 2) % 64
def v4 : Nat := bt s i % 8 * 262144 + bt s (i + 1) % 64 * 4096 + bt s (i + 2) % 64 * 64 + bt s (i + 3) % 64
theorem decU : Utf8.decode s i =
    if bt s i < 128 then (bt s i, 1)
    else if (bt s i / 32 == 6 && ct s (i + 1) 128 191) = true then (if bt s i % 32 * 64 + bt s (i + 1) % 64 ≥ 128 then (bt s i % 32 * 64 + bt s (i + 1) % 64, 2) else (65533, 1))
    else if (bt s i / 16 == 14 && ct s (i + 1) 128 191 && ct s (i + 2) 128 191) = true then
      (if (decide (v3 s i ≥ 2048) && Utf8.valid ((v3 s i : Nat) : Int)) = true then (v3 s i, 3) else (65533, 1))
    else if (bt s i / 8 == 30 && ct s (i + 1) 128 191 && ct s (i + 2) 128 191 && ct s (i + 3) 128 191) = true then
      (if (decide (v4 s i ≥ 65536) && Utf8.valid ((v4 s i : Nat) : Int)) = true then (v4 s i, 4) else (65533, 1))
    else (65533, 1) := by
  rw [← contK s (i + 1), ← contK s (i + 2), ← contK s (i + 3)]
  rfl
theorem ct_bt {j lo hi : Nat} (h : ct s j lo hi = true) : lo ≤ bt s j ∧ bt s j ≤ hi := by
  simp only [ct, decide_eq_true_eq] at h
  exact h.2
theorem valid_of {c : Nat} (h : c < 55296 ∨ 57343 < c) (h' : c ≤ 1114111) : Utf8.valid (c : Int) = true := by
  simp only [Utf8.valid, Bool.and_eq_true, Bool.or_eq_true, decide_eq_true_eq]
  omega
theorem not_valid {c : Nat} (h : (55296 ≤ c ∧ c ≤ 57343) ∨ 1114111 < c) : Utf8.valid (c : Int) = false := by
  rw [← Bool.not_eq_true]
  simp only [Utf8.valid, Bool.and_eq_true, Bool.or_eq_true, decide_eq_true_eq]
  omega
theorem dec2 (h : 194 ≤ bt s i ∧ bt s i ≤ 223) : Utf8.decode s i = if ct s (i + 1) 128 191 then (bt s i % 32 * 64 + bt s (i + 1) % 64, 2) else (65533, 1) := by
  rw [decU]
  have e1 : (bt s i / 32 == 6) = true := by rw [beq_iff_eq]; omega
  have e2 : (bt s i / 16 == 14) = false := by rw [beq_eq_false_iff_ne]; omega
  have e3 : (bt s i / 8 == 30) = false := by rw [beq_eq_false_iff_ne]; omega
  rw [if_neg (by omega), e1, e2, e3]
  cases hk : ct s (i + 1) 128 191
  · rfl
  · simp only [Bool.and_self, if_true]
    rw [if_pos (by omega)]
def lo1 (b : Nat) : Nat := if b = 224 then 160 else if b = 240 then 144 else 128
def hi1 (b : Nat) : Nat := if b = 237 then 159 else if b = 244 then 143 else 191
theorem lo_rng (b : Nat) : 128 ≤ lo1 b ∧ hi1 b ≤ 191 := by
  unfold lo1 hi1
  constructor <;> (repeat' split) <;> omega
theorem dec3 (h : 224 ≤ bt s i ∧ bt s i ≤ 239) : Utf8.decode s i = if (ct s (i + 1) (lo1 (bt s i)) (hi1 (bt s i)) && ct s (i + 2) 128 191) = true then (v3 s i, 3) else (65533, 1) := by
  have q3 : v3 s i = bt s i % 16 * 4096 + bt s (i + 1) % 64 * 64 + bt s (i + 2) % 64 := rfl
  have q4 : v4 s i = bt s i % 8 * 262144 + bt s (i + 1) % 64 * 4096 + bt s (i + 2) % 64 * 64 + bt s (i + 3) % 64 := rfl
  rw [decU, ct_split s (i + 1) _ _ (lo_rng _).1 (lo_rng _).2]
  have e1 : (bt s i / 32 == 6) = false := by rw [beq_eq_false_iff_ne]; omega
  have e2 : (bt s i / 16 == 14) = true := by rw [beq_iff_eq]; omega
  have e3 : (bt s i / 8 == 30) = false := by rw [beq_eq_false_iff_ne]; omega
  rw [if_neg (by omega), e1, e2, e3]
  cases hk : ct s (i + 1) 128 191
  · rfl
  · cases hl : ct s (i + 2) 128 191
    · simp
    · have k1 := ct_bt s hk
      have k2 := ct_bt s hl
      by_cases hd : lo1 (bt s i) ≤ bt s (i + 1) ∧ bt s (i + 1) ≤ hi1 (bt s i)
      · rw [decide_eq_true hd]
        have hv : (decide (v3 s i ≥ 2048) && Utf8.valid ((v3 s i : Nat) : Int)) = true := by
          unfold lo1 hi1 at hd
          rw [decide_eq_true (by split at hd <;> (try split at hd) <;> (try split at hd) <;> omega), valid_of (by split at hd <;> (try split at hd) <;> (try split at hd) <;> omega) (by omega)]
          rfl
        rw [hv]
        rfl
      · rw [decide_eq_false hd]
        have hv : (decide (v3 s i ≥ 2048) && Utf8.valid ((v3 s i : Nat) : Int)) = false := by
          unfold lo1 hi1 at hd
          by_cases h24 : bt s i = 224
          · rw [decide_eq_false (by simp [h24] at hd; omega)]
            rfl
          · by_cases h37 : bt s i = 237
            · rw [not_valid (by simp [h37] at hd; omega), Bool.and_false]
            · exfalso
              split at hd <;> (try split at hd) <;> (try split at hd) <;> omega
        rw [hv]
        rfl
theorem dec4 (h : 240 ≤ bt s i ∧ bt s i ≤ 244) : Utf8.decode s i = if (ct s (i + 1) (lo1 (bt s i)) (hi1 (bt s i)) && ct s (i + 2) 128 191 && ct s (i + 3) 128 191) = true then (v4 s i, 4) else (65533, 1) := by
  have q3 : v3 s i = bt s i % 16 * 4096 + bt s (i + 1) % 64 * 64 + bt s (i + 2) % 64 := rfl
  have q4 : v4 s i = bt s i % 8 * 262144 + bt s (i + 1) % 64 * 4096 + bt s (i + 2) % 64 * 64 + bt s (i + 3) % 64 := rfl
  rw [decU, ct_split s (i + 1) _ _ (lo_rng _).1 (lo_rng _).2]
  have e1 : (bt s i / 32 == 6) = false := by rw [beq_eq_false_iff_ne]; omega
  have e2 : (bt s i / 16 == 14) = false := by rw [beq_eq_false_iff_ne]; omega
  have e3 : (bt s i / 8 == 30) = true := by rw [beq_iff_eq]; omega
  rw [if_neg (by omega), e1, e2, e3]
  cases hk : ct s (i + 1) 128 191
  · rfl
  · cases hl : ct s (i + 2) 128 191
    · simp
    · cases hm : ct s (i + 3) 128 191
      · simp
      · have k1 := ct_bt s hk
        have k2 := ct_bt s hl
        have k3 := ct_bt s hm
        by_cases hd : lo1 (bt s i) ≤ bt s (i + 1) ∧ bt s (i + 1) ≤ hi1 (bt s i)
        · rw [decide_eq_true hd]
          have hv : (decide (v4 s i ≥ 65536) && Utf8.valid ((v4 s i : Nat) : Int)) = true := by
            unfold lo1 hi1 at hd
            rw [decide_eq_true (by split at hd <;> (try split at hd) <;> (try split at hd) <;> omega), valid_of (by split at hd <;> (try split at hd) <;> (try split at hd) <;> (try split at hd) <;> omega) (by split at hd <;> (try split at hd) <;> (try split at hd) <;> (try split at hd) <;> omega)]
            rfl
          rw [hv]
          rfl
        · rw [decide_eq_false hd]
          have hv : (decide (v4 s i ≥ 65536) && Utf8.valid ((v4 s i : Nat) : Int)) = false := by
            unfold lo1 hi1 at hd
            by_cases h24 : bt s i = 240
            · rw [decide_eq_false (by simp [h24] at hd; omega)]
              rfl
            · by_cases h37 : bt s i = 244
              · rw [not_valid (by simp [h37] at hd; omega), Bool.and_false]
              · exfalso
                split at hd <;> (try split at hd) <;> (try split at hd) <;> omega
          rw [hv]
          rfl
theorem dec5 (h : 128 ≤ bt s i) (h' : ¬ (194 ≤ bt s i ∧ bt s i ≤ 244)) : Utf8.decode s i = (65533, 1) := by
  have q4 : v4 s i = bt s i % 8 * 262144 + bt s (i + 1) % 64 * 4096 + bt s (i + 2) % 64 * 64 + bt s (i + 3) % 64 := rfl
  have h0 := bt_lt s i
  rw [decU, if_neg (by omega)]
  by_cases c : bt s i / 32 = 6
  · have e2 : (bt s i / 16 == 14) = false := by rw [beq_eq_false_iff_ne]; omega
    have e3 : (bt s i / 8 == 30) = false := by rw [beq_eq_false_iff_ne]; omega
    rw [e2, e3]
    have h1 := bt_lt s (i + 1)
    rw [if_neg (show ¬ bt s i % 32 * 64 + bt s (i + 1) % 64 ≥ 128 by omega)]
    split <;> rfl
  · have e1 : (bt s i / 32 == 6) = false := by rw [beq_eq_false_iff_ne]; omega
    have e2 : (bt s i / 16 == 14) = false := by rw [beq_eq_false_iff_ne]; omega
    rw [e1, e2]
    by_cases c3 : bt s i / 8 = 30
    · rw [not_valid (Or.inr (show 1114111 < v4 s i by omega)), Bool.and_false]
      simp
    · have e3 : (bt s i / 8 == 30) = false := by rw [beq_eq_false_iff_ne]; omega
      rw [e3]
      rfl
end
theorem mask (i : Nat) (hi : i ≤ 8) (x : Nat) (h : x < 256) : bits .and .u8 (x : Int) (2 ^ i - 1) = ((x % 2 ^ i : Nat) : Int) := by
  rw [bits_mask .u8 8 (by decide) wraps_u8 i hi x (by omega) (by omega)]
  simp
theorem wraps_i64 (n : Int) (h₀ : 0 ≤ n) (h₁ : n < 2 ^ 63) : IntKind.i64.wrap n = n := by
  simp [IntKind.wrap, IntKind.bits, IntKind.signed]
  omega
theorem join (i : Nat) (x y : Nat) (hx : x % 2 ^ i = 0) (hx1 : x < 2 ^ 30) (hy : y < 2 ^ i) (hi : i ≤ 18) : bits .or .i64 (x : Int) (y : Int) = ((x + y : Nat) : Int) := by
  have hp : 2 ^ i ≤ 2 ^ 18 := Nat.pow_le_pow_right (by decide) hi
  rw [bits_join .i64 63 (by decide) wraps_i64 i x y (by omega) (by exact_mod_cast hx) (by omega) (by omega) (by exact_mod_cast hy) (by omega)]
  simp
theorem ct_lt {s : ByteArray} {j lo hi : Nat} (h : ct s j lo hi = true) : j < s.size := by
  simp only [ct, decide_eq_true_eq] at h
  exact h.1
theorem join2 (a b : Nat) : bits .or .i64 ((a : Int) % 32 * 64) ((b : Int) % 64) = (a : Int) % 32 * 64 + (b : Int) % 64 := by
  have h := join 6 (a % 32 * 64) (b % 64) (by omega) (by omega) (by omega) (by omega)
  rw [show ((a % 32 * 64 : Nat) : Int) = (a : Int) % 32 * 64 from by omega, show ((b % 64 : Nat) : Int) = (b : Int) % 64 from by omega] at h
  rw [h]
  omega
theorem join3a (a b : Nat) : bits .or .i64 ((a : Int) % 16 * 4096) ((b : Int) % 64 * 64) = (a : Int) % 16 * 4096 + (b : Int) % 64 * 64 := by
  have h := join 12 (a % 16 * 4096) (b % 64 * 64) (by omega) (by omega) (by omega) (by omega)
  rw [show ((a % 16 * 4096 : Nat) : Int) = (a : Int) % 16 * 4096 from by omega, show ((b % 64 * 64 : Nat) : Int) = (b : Int) % 64 * 64 from by omega] at h
  rw [h]
  omega
theorem join3b (a b c : Nat) : bits .or .i64 ((a : Int) % 16 * 4096 + (b : Int) % 64 * 64) ((c : Int) % 64) = (a : Int) % 16 * 4096 + (b : Int) % 64 * 64 + (c : Int) % 64 := by
  have h := join 6 (a % 16 * 4096 + b % 64 * 64) (c % 64) (by omega) (by omega) (by omega) (by omega)
  rw [show ((a % 16 * 4096 + b % 64 * 64 : Nat) : Int) = (a : Int) % 16 * 4096 + (b : Int) % 64 * 64 from by omega, show ((c % 64 : Nat) : Int) = (c : Int) % 64 from by omega] at h
  rw [h]
  omega
theorem join4a (a b : Nat) : bits .or .i64 ((a : Int) % 8 * 262144) ((b : Int) % 64 * 4096) = (a : Int) % 8 * 262144 + (b : Int) % 64 * 4096 := by
  have h := join 18 (a % 8 * 262144) (b % 64 * 4096) (by omega) (by omega) (by omega) (by omega)
  rw [show ((a % 8 * 262144 : Nat) : Int) = (a : Int) % 8 * 262144 from by omega, show ((b % 64 * 4096 : Nat) : Int) = (b : Int) % 64 * 4096 from by omega] at h
  rw [h]
  omega
theorem join4b (a b c : Nat) : bits .or .i64 ((a : Int) % 8 * 262144 + (b : Int) % 64 * 4096) ((c : Int) % 64 * 64) = (a : Int) % 8 * 262144 + (b : Int) % 64 * 4096 + (c : Int) % 64 * 64 := by
  have h := join 12 (a % 8 * 262144 + b % 64 * 4096) (c % 64 * 64) (by omega) (by omega) (by omega) (by omega)
  rw [show ((a % 8 * 262144 + b % 64 * 4096 : Nat) : Int) = (a : Int) % 8 * 262144 + (b : Int) % 64 * 4096 from by omega, show ((c % 64 * 64 : Nat) : Int) = (c : Int) % 64 * 64 from by omega] at h
  rw [h]
  omega
theorem join4c (a b c d : Nat) : bits .or .i64 ((a : Int) % 8 * 262144 + (b : Int) % 64 * 4096 + (c : Int) % 64 * 64) ((d : Int) % 64) = (a : Int) % 8 * 262144 + (b : Int) % 64 * 4096 + (c : Int) % 64 * 64 + (d : Int) % 64 := by
  have h := join 6 (a % 8 * 262144 + b % 64 * 4096 + c % 64 * 64) (d % 64) (by omega) (by omega) (by omega) (by omega)
  rw [show ((a % 8 * 262144 + b % 64 * 4096 + c % 64 * 64 : Nat) : Int) = (a : Int) % 8 * 262144 + (b : Int) % 64 * 4096 + (c : Int) % 64 * 64 from by omega, show ((d % 64 : Nat) : Int) = (d : Int) % 64 from by omega] at h
  rw [h]
  omega
/-- The decoder finds a rune (no error) at i. -/
def GoodR (s : ByteArray) (i : Nat) : Prop := Utf8.decode s i ≠ (65533, 1)
/-- The four shapes of a good rune. -/
def Shape (s : ByteArray) (i : Nat) : Prop :=
  (bt s i < 128 ∧ Utf8.decode s i = (bt s i, 1)) ∨
  (194 ≤ bt s i ∧ bt s i ≤ 223 ∧ i + 1 < s.size ∧ 128 ≤ bt s (i + 1) ∧ bt s (i + 1) ≤ 191 ∧ Utf8.decode s i = (bt s i % 32 * 64 + bt s (i + 1) % 64, 2)) ∨
  (224 ≤ bt s i ∧ bt s i ≤ 239 ∧ i + 2 < s.size ∧ lo1 (bt s i) ≤ bt s (i + 1) ∧ bt s (i + 1) ≤ hi1 (bt s i) ∧ 128 ≤ bt s (i + 2) ∧ bt s (i + 2) ≤ 191 ∧ Utf8.decode s i = (v3 s i, 3)) ∨
  (240 ≤ bt s i ∧ bt s i ≤ 244 ∧ i + 3 < s.size ∧ lo1 (bt s i) ≤ bt s (i + 1) ∧ bt s (i + 1) ≤ hi1 (bt s i) ∧ 128 ≤ bt s (i + 2) ∧ bt s (i + 2) ≤ 191 ∧ 128 ≤ bt s (i + 3) ∧ bt s (i + 3) ≤ 191 ∧ Utf8.decode s i = (v4 s i, 4))
theorem ct_all {s : ByteArray} {j lo hi : Nat} (h : ct s j lo hi = true) : j < s.size ∧ lo ≤ bt s j ∧ bt s j ≤ hi := by
  simp only [ct, decide_eq_true_eq] at h
  exact h
theorem shape {s : ByteArray} {i : Nat} (h : GoodR s i) : Shape s i := by
  unfold GoodR at h
  by_cases c1 : bt s i < 128
  · exact .inl ⟨c1, dec1 s i c1⟩
  by_cases c2 : 194 ≤ bt s i ∧ bt s i ≤ 223
  · have hd := dec2 s i c2
    cases q : ct s (i + 1) 128 191
    · rw [q] at hd; exact absurd hd h
    · rw [q] at hd
      obtain ⟨a, b, c⟩ := ct_all q
      exact .inr (.inl ⟨c2.1, c2.2, a, b, c, hd⟩)
  by_cases c3 : 224 ≤ bt s i ∧ bt s i ≤ 239
  · have hd := dec3 s i c3
    cases q : ct s (i + 1) (lo1 (bt s i)) (hi1 (bt s i)) <;> cases q2 : ct s (i + 2) 128 191
    · rw [q, q2] at hd; exact absurd hd h
    · rw [q, q2] at hd; exact absurd hd h
    · rw [q, q2] at hd; exact absurd hd h
    · rw [q, q2] at hd
      obtain ⟨a, b, c⟩ := ct_all q
      obtain ⟨a2, b2, c2⟩ := ct_all q2
      exact .inr (.inr (.inl ⟨c3.1, c3.2, a2, b, c, b2, c2, hd⟩))
  by_cases c4 : 240 ≤ bt s i ∧ bt s i ≤ 244
  · have hd := dec4 s i c4
    cases q : ct s (i + 1) (lo1 (bt s i)) (hi1 (bt s i)) <;> cases q2 : ct s (i + 2) 128 191 <;> cases q3 : ct s (i + 3) 128 191
    all_goals first
      | (rw [q, q2, q3] at hd; exact absurd hd h)
      | (rw [q, q2, q3] at hd
         obtain ⟨a, b, c⟩ := ct_all q
         obtain ⟨a2, b2, c2⟩ := ct_all q2
         obtain ⟨a3, b3, c3⟩ := ct_all q3
         exact .inr (.inr (.inr ⟨c4.1, c4.2, a3, b, c, b2, c2, b3, c3, hd⟩)))
  · exact absurd (dec5 s i (by omega) (by omega)) h
end Go.Proofs.YtcijcifhdakhoaaFmt.U8
