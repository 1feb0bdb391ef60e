/-
  zzDecode answers as the model's decoder. Condition: at most 2^20 bytes.
-/
import Derived.Test.YtacekiapcipidaaDoorDec
import Derived.Laws.BitsLemmas
namespace Go.Proofs.YtacekiapcipidaaDoor.DecK
open Go.RowKit Go.Lib Go.Proofs.YtacekiapcipidaaDoor.Hash Go.Proofs.YtacekiapcipidaaDoor.Dec

abbrev bt (s : ByteArray) (k : Nat) : Nat := (s.get! k).toNat
theorem bt_lt (s : ByteArray) (k : Nat) : bt s k < 256 := (s.get! k).toNat_lt
theorem bt_eq (s : ByteArray) (k : Nat) (h : k < s.size) : (s[k]'h).toNat = bt s k := by
  have e : s[k]'h = s.get! k := by
    show s.data[k] = s.data[k]!
    rw [getElem!_pos s.data k h]
  rw [e]
def ct (s : ByteArray) (i lo hi : Nat) : Bool := decide (i < s.size ∧ lo ≤ bt s i ∧ bt s i ≤ hi)
theorem cont (s : ByteArray) (i lo hi : Nat) (w : World) (hi0 : i ≤ 1048580) (hs : s.size ≤ 1048576) (hl : lo ≤ 255) (hh : hi ≤ 255) :
    Calls Tryd.prog 20 #[.string s, .int .i64 i, .int .u8 lo, .int .u8 hi] w fun e w' => e = .returned (.bool (ct s i lo hi)) ∧ w = w' := by
  by_cases h : i < s.size
  · have e := bt_eq s i h
    by_cases h1 : lo ≤ bt s i
    · by_cases h2 : bt s i ≤ hi
      · rw [show ct s i lo hi = true from by simp [ct, h, h1, h2]]
        rw [← e] at h1 h2
        go_enter Tryd.func20, Tryd.ntmps20
        go_wp2_with fail
        go_ret
        exact ⟨by simp <;> omega, rfl⟩
      · rw [show ct s i lo hi = false from by simp [ct, h, h1, h2] <;> omega]
        rw [← e] at h1 h2
        go_enter Tryd.func20, Tryd.ntmps20
        go_wp2_with fail
        go_ret
        exact ⟨by simp <;> omega, rfl⟩
    · rw [show ct s i lo hi = false from by simp [ct, h, h1] <;> omega]
      rw [← e] at h1
      go_enter Tryd.func20, Tryd.ntmps20
      go_wp2_with fail
      go_ret
      exact ⟨rfl, rfl⟩
  · rw [show ct s i lo hi = false from by simp [ct, h]]
    go_enter Tryd.func20, Tryd.ntmps20
    go_wp2_with fail
    go_ret
    exact ⟨rfl, rfl⟩
section
variable (s : ByteArray) (i : Nat)
theorem dec1 (h : bt s i < 128) : Utf8.decode s i = (bt s i, 1) := by
  unfold bt at *
  unfold Utf8.decode
  dsimp only
  simp only [Nat.add_zero]
  rw [if_pos (by omega)]
theorem contK (j : Nat) : (decide (j < s.size) && (s.get! j).toNat / 64 == 2) = ct s j 128 191 := by
  rw [Bool.eq_iff_iff]
  simp only [ct, bt, Bool.and_eq_true, decide_eq_true_eq, beq_iff_eq]
  omega
theorem ct_split (j lo hi : Nat) (h1 : 128 ≤ lo) (h2 : hi ≤ 191) : ct s j lo hi = (ct s j 128 191 && decide (lo ≤ bt s j ∧ bt s j ≤ hi)) := by
  rw [Bool.eq_iff_iff]
  simp only [ct, Bool.and_eq_true, decide_eq_true_eq]
  omega
def v3 : Nat := bt s i % 16 * 4096 + bt s (i + 1) % 64 * 64 + bt s (i + 2) % 64
def v4 : Nat := bt s i % 8 * 262144 + bt s (i + 1) % 64 * 4096 + bt s (i + 2) % 64 * 64 + bt s (i + 3) % 64
theorem decU : Utf8.decode s i =
    if bt s i < 128 then (bt s i, 1)
    else if (bt s i / 32 == 6 && ct s (i + 1) 128 191) = true then (if bt s i % 32 * 64 + bt s (i + 1) % 64 ≥ 128 then (bt s i % 32 * 64 + bt s (i + 1) % 64, 2) else (65533, 1))
    else if (bt s i / 16 == 14 && ct s (i + 1) 128 191 && ct s (i + 2) 128 191) = true then
      (if (decide (v3 s i ≥ 2048) && Utf8.valid ((v3 s i : Nat) : Int)) = true then (v3 s i, 3) else (65533, 1))
    else if (bt s i / 8 == 30 && ct s (i + 1) 128 191 && ct s (i + 2) 128 191 && ct s (i + 3) 128 191) = true then
      (if (decide (v4 s i ≥ 65536) && Utf8.valid ((v4 s i : Nat) : Int)) = true then (v4 s i, 4) else (65533, 1))
    else (65533, 1) := by
  rw [← contK s (i + 1), ← contK s (i + 2), ← contK s (i + 3)]
  rfl
theorem ct_bt {j lo hi : Nat} (h : ct s j lo hi = true) : lo ≤ bt s j ∧ bt s j ≤ hi := by
  simp only [ct, decide_eq_true_eq] at h
  exact h.2
theorem valid_of {c : Nat} (h : c < 55296 ∨ 57343 < c) (h' : c ≤ 1114111) : Utf8.valid (c : Int) = true := by
  simp only [Utf8.valid, Bool.and_eq_true, Bool.or_eq_true, decide_eq_true_eq]
  omega
theorem not_valid {c : Nat} (h : (55296 ≤ c ∧ c ≤ 57343) ∨ 1114111 < c) : Utf8.valid (c : Int) = false := by
  rw [← Bool.not_eq_true]
  simp only [Utf8.valid, Bool.and_eq_true, Bool.or_eq_true, decide_eq_true_eq]
  omega
theorem dec2 (h : 194 ≤ bt s i ∧ bt s i ≤ 223) : Utf8.decode s i = if ct s (i + 1) 128 191 then (bt s i % 32 * 64 + bt s (i + 1) % 64, 2) else (65533, 1) := by
  rw [decU]
  have e1 : (bt s i / 32 == 6) = true := by rw [beq_iff_eq]; omega
  have e2 : (bt s i / 16 == 14) = false := by rw [beq_eq_false_iff_ne]; omega
  have e3 : (bt s i / 8 == 30) = false := by rw [beq_eq_false_iff_ne]; omega
  rw [if_neg (by omega), e1, e2, e3]
  cases hk : ct s (i + 1) 128 191
  · rfl
  · simp only [Bool.and_self, if_true]
    rw [if_pos (by omega)]
def lo1 (b : Nat) : Nat := if b = 224 then 160 else if b = 240 then 144 else 128
def hi1 (b : Nat) : Nat := if b = 237 then 159 else if b = 244 then 143 else 191
theorem lo_rng (b : Nat) : 128 ≤ lo1 b ∧ hi1 b ≤ 191 := by
  unfold lo1 hi1
  constructor <;> (repeat' split) <;> omega
theorem dec3 (h : 224 ≤ bt s i ∧ bt s i ≤ 239) : Utf8.decode s i = if (ct s (i + 1) (lo1 (bt s i)) (hi1 (bt s i)) && ct s (i + 2) 128 191) = true then (v3 s i, 3) else (65533, 1) := by
  have q3 : v3 s i = bt s i % 16 * 4096 + bt s (i + 1) % 64 * 64 + bt s (i + 2) % 64 := rfl
  have q4 : v4 s i = bt s i % 8 * 262144 + bt s (i + 1) % 64 * 4096 + bt s (i + 2) % 64 * 64 + bt s (i + 3) % 64 := rfl
  rw [decU, ct_split s (i + 1) _ _ (lo_rng _).1 (lo_rng _).2]
  have e1 : (bt s i / 32 == 6) = false := by rw [beq_eq_false_iff_ne]; omega
  have e2 : (bt s i / 16 == 14) = true := by rw [beq_iff_eq]; omega
  have e3 : (bt s i / 8 == 30) = false := by rw [beq_eq_false_iff_ne]; omega
  rw [if_neg (by omega), e1, e2, e3]
  cases hk : ct s (i + 1) 128 191
  · rfl
  · cases hl : ct s (i + 2) 128 191
    · simp
    · have k1 := ct_bt s hk
      have k2 := ct_bt s hl
      by_cases hd : lo1 (bt s i) ≤ bt s (i + 1) ∧ bt s (i + 1) ≤ hi1 (bt s i)
      · rw [decide_eq_true hd]
        have hv : (decide (v3 s i ≥ 2048) && Utf8.valid ((v3 s i : Nat) : Int)) = true := by
          unfold lo1 hi1 at hd
          rw [decide_eq_true (by split at hd <;> (try split at hd) <;> (try split at hd) <;> omega), valid_of (by split at hd <;> (try split at hd) <;> (try split at hd) <;> omega) (by omega)]
          rfl
        rw [hv]
        rfl
      · rw [decide_eq_false hd]
        have hv : (decide (v3 s i ≥ 2048) && Utf8.valid ((v3 s i : Nat) : Int)) = false := by
          unfold lo1 hi1 at hd
          by_cases h24 : bt s i = 224
          · rw [decide_eq_false (by simp [h24] at hd; omega)]
            rfl
          · by_cases h37 : bt s i = 237
            · rw [not_valid (by simp [h37] at hd; omega), Bool.and_false]
            · exfalso
              split at hd <;> (try split at hd) <;> (try split at hd) <;> omega
        rw [hv]
        rfl
theorem dec4 (h : 240 ≤ bt s i ∧ bt s i ≤ 244) : Utf8.decode s i = if (ct s (i + 1) (lo1 (bt s i)) (hi1 (bt s i)) && ct s (i + 2) 128 191 && ct s (i + 3) 128 191) = true then (v4 s i, 4) else (65533, 1) := by
  have q3 : v3 s i = bt s i % 16 * 4096 + bt s (i + 1) % 64 * 64 + bt s (i + 2) % 64 := rfl
  have q4 : v4 s i = bt s i % 8 * 262144 + bt s (i + 1) % 64 * 4096 + bt s (i + 2) % 64 * 64 + bt s (i + 3) % 64 := rfl
  rw [decU, ct_split s (i + 1) _ _ (lo_rng _).1 (lo_rng _).2]
  have e1 : (bt s i / 32 == 6) = false := by rw [beq_eq_false_iff_ne]; omega
  have e2 : (bt s i / 16 == 14) = false := by rw [beq_eq_false_iff_ne]; omega
  have e3 : (bt s i / 8 == 30) = true := by rw [beq_iff_eq]; omega
  rw [if_neg (by omega), e1, e2, e3]
  cases hk : ct s (i + 1) 128 191
  · rfl
  · cases hl : ct s (i + 2) 128 191
    · simp
    · cases hm : ct s (i + 3) 128 191
      · simp
      · have k1 := ct_bt s hk
        have k2 := ct_bt s hl
        have k3 := ct_bt s hm
        by_cases hd : lo1 (bt s i) ≤ bt s (i + 1) ∧ bt s (i + 1) ≤ hi1 (bt s i)
        · rw [decide_eq_true hd]
          have hv : (decide (v4 s i ≥ 65536) && Utf8.valid ((v4 s i : Nat) : Int)) = true := by
            unfold lo1 hi1 at hd
            rw [decide_eq_true (by split at hd <;> (try split at hd) <;> (try split at hd) <;> omega), valid_of (by split at hd <;> (try split at hd) <;> (try split at hd) <;> (try split at hd) <;> omega) (by split at hd <;> (try split at hd) <;> (try split at hd) <;> (try split at hd) <;> omega)]
            rfl
          rw [hv]
          rfl
        · rw [decide_eq_false hd]
          have hv : (decide (v4 s i ≥ 65536) && Utf8.valid ((v4 s i : Nat) : Int)) = false := by
            unfold lo1 hi1 at hd
            by_cases h24 : bt s i = 240
            · rw [decide_eq_false (by simp [h24] at hd; omega)]
              rfl
            · by_cases h37 : bt s i = 244
              · rw [not_valid (by simp [h37] at hd; omega), Bool.and_false]
              · exfalso
                split at hd <;> (try split at hd) <;> (try split at hd) <;> omega
          rw [hv]
          rfl
theorem dec5 (h : 128 ≤ bt s i) (h' : ¬ (194 ≤ bt s i ∧ bt s i ≤ 244)) : Utf8.decode s i = (65533, 1) := by
  have q4 : v4 s i = bt s i % 8 * 262144 + bt s (i + 1) % 64 * 4096 + bt s (i + 2) % 64 * 64 + bt s (i + 3) % 64 := rfl
  have h0 := bt_lt s i
  rw [decU, if_neg (by omega)]
  by_cases c : bt s i / 32 = 6
  · have e2 : (bt s i / 16 == 14) = false := by rw [beq_eq_false_iff_ne]; omega
    have e3 : (bt s i / 8 == 30) = false := by rw [beq_eq_false_iff_ne]; omega
    rw [e2, e3]
    have h1 := bt_lt s (i + 1)
    rw [if_neg (show ¬ bt s i % 32 * 64 + bt s (i + 1) % 64 ≥ 128 by omega)]
    split <;> rfl
  · have e1 : (bt s i / 32 == 6) = false := by rw [beq_eq_false_iff_ne]; omega
    have e2 : (bt s i / 16 == 14) = false := by rw [beq_eq_false_iff_ne]; omega
    rw [e1, e2]
    by_cases c3 : bt s i / 8 = 30
    · rw [not_valid (Or.inr (show 1114111 < v4 s i by omega)), Bool.and_false]
      simp
    · have e3 : (bt s i / 8 == 30) = false := by rw [beq_eq_false_iff_ne]; omega
      rw [e3]
      rfl
end
theorem mask (i : Nat) (hi : i ≤ 8) (x : Nat) (h : x < 256) : bits .and .u8 (x : Int) (2 ^ i - 1) = ((x % 2 ^ i : Nat) : Int) := by
  rw [bits_mask .u8 8 (by decide) wraps_u8 i hi x (by omega) (by omega)]
  simp
theorem wraps_i64 (n : Int) (h₀ : 0 ≤ n) (h₁ : n < 2 ^ 63) : IntKind.i64.wrap n = n := by
  simp [IntKind.wrap, IntKind.bits, IntKind.signed]
  omega
theorem join (i : Nat) (x y : Nat) (hx : x % 2 ^ i = 0) (hx1 : x < 2 ^ 30) (hy : y < 2 ^ i) (hi : i ≤ 18) : bits .or .i64 (x : Int) (y : Int) = ((x + y : Nat) : Int) := by
  have hp : 2 ^ i ≤ 2 ^ 18 := Nat.pow_le_pow_right (by decide) hi
  rw [bits_join .i64 63 (by decide) wraps_i64 i x y (by omega) (by exact_mod_cast hx) (by omega) (by omega) (by exact_mod_cast hy) (by omega)]
  simp
theorem contI (s : ByteArray) (i j lo hi : Nat) (w : World) (hi0 : i + j ≤ 1048580) (hs : s.size ≤ 1048576) (hl : lo ≤ 255) (hh : hi ≤ 255) :
    Calls Tryd.prog 20 #[.string s, .int .i64 ((i : Int) + (j : Int)), .int .u8 lo, .int .u8 hi] w fun e w' => e = .returned (.bool (ct s (i + j) lo hi)) ∧ w = w' := by
  have h := cont s (i + j) lo hi w hi0 hs hl hh
  rw [show ((i + j : Nat) : Int) = (i : Int) + (j : Int) from by omega] at h
  exact h
theorem ct_lt {s : ByteArray} {j lo hi : Nat} (h : ct s j lo hi = true) : j < s.size := by
  simp only [ct, decide_eq_true_eq] at h
  exact h.1
theorem join2 (a b : Nat) : bits .or .i64 ((a : Int) % 32 * 64) ((b : Int) % 64) = (a : Int) % 32 * 64 + (b : Int) % 64 := by
  have h := join 6 (a % 32 * 64) (b % 64) (by omega) (by omega) (by omega) (by omega)
  rw [show ((a % 32 * 64 : Nat) : Int) = (a : Int) % 32 * 64 from by omega, show ((b % 64 : Nat) : Int) = (b : Int) % 64 from by omega] at h
  rw [h]
  omega
theorem join3a (a b : Nat) : bits .or .i64 ((a : Int) % 16 * 4096) ((b : Int) % 64 * 64) = (a : Int) % 16 * 4096 + (b : Int) % 64 * 64 := by
  have h := join 12 (a % 16 * 4096) (b % 64 * 64) (by omega) (by omega) (by omega) (by omega)
  rw [show ((a % 16 * 4096 : Nat) : Int) = (a : Int) % 16 * 4096 from by omega, show ((b % 64 * 64 : Nat) : Int) = (b : Int) % 64 * 64 from by omega] at h
  rw [h]
  omega
theorem join3b (a b c : Nat) : bits .or .i64 ((a : Int) % 16 * 4096 + (b : Int) % 64 * 64) ((c : Int) % 64) = (a : Int) % 16 * 4096 + (b : Int) % 64 * 64 + (c : Int) % 64 := by
  have h := join 6 (a % 16 * 4096 + b % 64 * 64) (c % 64) (by omega) (by omega) (by omega) (by omega)
  rw [show ((a % 16 * 4096 + b % 64 * 64 : Nat) : Int) = (a : Int) % 16 * 4096 + (b : Int) % 64 * 64 from by omega, show ((c % 64 : Nat) : Int) = (c : Int) % 64 from by omega] at h
  rw [h]
  omega
theorem join4a (a b : Nat) : bits .or .i64 ((a : Int) % 8 * 262144) ((b : Int) % 64 * 4096) = (a : Int) % 8 * 262144 + (b : Int) % 64 * 4096 := by
  have h := join 18 (a % 8 * 262144) (b % 64 * 4096) (by omega) (by omega) (by omega) (by omega)
  rw [show ((a % 8 * 262144 : Nat) : Int) = (a : Int) % 8 * 262144 from by omega, show ((b % 64 * 4096 : Nat) : Int) = (b : Int) % 64 * 4096 from by omega] at h
  rw [h]
  omega
theorem join4b (a b c : Nat) : bits .or .i64 ((a : Int) % 8 * 262144 + (b : Int) % 64 * 4096) ((c : Int) % 64 * 64) = (a : Int) % 8 * 262144 + (b : Int) % 64 * 4096 + (c : Int) % 64 * 64 := by
  have h := join 12 (a % 8 * 262144 + b % 64 * 4096) (c % 64 * 64) (by omega) (by omega) (by omega) (by omega)
  rw [show ((a % 8 * 262144 + b % 64 * 4096 : Nat) : Int) = (a : Int) % 8 * 262144 + (b : Int) % 64 * 4096 from by omega, show ((c % 64 * 64 : Nat) : Int) = (c : Int) % 64 * 64 from by omega] at h
  rw [h]
  omega
theorem join4c (a b c d : Nat) : bits .or .i64 ((a : Int) % 8 * 262144 + (b : Int) % 64 * 4096 + (c : Int) % 64 * 64) ((d : Int) % 64) = (a : Int) % 8 * 262144 + (b : Int) % 64 * 4096 + (c : Int) % 64 * 64 + (d : Int) % 64 := by
  have h := join 6 (a % 8 * 262144 + b % 64 * 4096 + c % 64 * 64) (d % 64) (by omega) (by omega) (by omega) (by omega)
  rw [show ((a % 8 * 262144 + b % 64 * 4096 + c % 64 * 64 : Nat) : Int) = (a : Int) % 8 * 262144 + (b : Int) % 64 * 4096 + (c : Int) % 64 * 64 from by omega, show ((d % 64 : Nat) : Int) = (d : Int) % 64 from by omega] at h
  rw [h]
  omega
abbrev DecPost (s : ByteArray) (i : Nat) (w : World) (r : Nat × Nat) (e : Ending) (w' : World) : Prop :=
  e = .returned (.tuple #[.int .i64 r.1, .int .i64 r.2]) ∧ w = w'
set_option maxRecDepth 20000 in
set_option maxHeartbeats 2000000 in
theorem decA (s : ByteArray) (i : Nat) (w : World) (hs : s.size ≤ 1048576) (h : i < s.size) (c1 : bt s i < 128) :
    Calls Tryd.prog 18 #[.string s, .int .i64 i] w fun e w' => e = .returned (.tuple #[.int .i64 (Utf8.decode s i).1, .int .i64 (Utf8.decode s i).2]) ∧ w = w' := by
  have e := bt_eq s i h
  have hb := bt_lt s i
  rw [dec1 s i c1]
  go_enter Tryd.func18, Tryd.ntmps18
  go_wp2_with fail
  exact bodyPost_ret (v := .tuple #[.int .i64 (bt s i), .int .i64 1]) (by simp [results, Tryd.results18, go_sem]) rfl ⟨rfl, rfl⟩
set_option maxRecDepth 20000 in
set_option maxHeartbeats 2000000 in
theorem decB (s : ByteArray) (i : Nat) (w : World) (hs : s.size ≤ 1048576) (h : i < s.size) (c2 : 194 ≤ bt s i ∧ bt s i ≤ 223) :
    Calls Tryd.prog 18 #[.string s, .int .i64 i] w fun e w' => e = .returned (.tuple #[.int .i64 (Utf8.decode s i).1, .int .i64 (Utf8.decode s i).2]) ∧ w = w' := by
  have e := bt_eq s i h
  have hb := bt_lt s i
  rw [dec2 s i c2]
  have hc1 := contI s i 1 128 191 w (by omega) hs (by omega) (by omega)
  obtain ⟨c3, c4⟩ := c2
  cases q1 : ct s (i + 1) 128 191
  · rw [q1] at hc1
    replace hc1 := Lib.hid hc1
    replace q1 := Lib.hid q1
    go_enter Tryd.func18, Tryd.ntmps18
    go_wp2_with (first | (go_at_call 20; refine hc1.out.mono ?_) | fail)
    rintro _ _ ⟨rfl, rfl⟩
    go_wp2_with fail
    exact bodyPost_ret (v := .tuple #[.int .i64 65533, .int .i64 1]) (by simp [results, Tryd.results18, go_sem]) rfl ⟨rfl, rfl⟩
  · rw [q1] at hc1
    replace hc1 := Lib.hid hc1
    have k1 := ct_lt q1
    have e1 := bt_eq s (i + 1) k1
    have b1 := bt_lt s (i + 1)
    replace q1 := Lib.hid q1
    have j1 := join2 (bt s i) (bt s (i + 1))
    go_enter Tryd.func18, Tryd.ntmps18
    go_wp2_with (first | (go_at_call 20; refine hc1.out.mono ?_) | fail)
    rintro _ _ ⟨rfl, rfl⟩
    go_wp2_with fail
    exact bodyPost_ret (v := .tuple #[.int .i64 ((bt s i % 32 * 64 + bt s (i + 1) % 64 : Nat) : Int), .int .i64 2]) (by simp [results, Tryd.results18, go_sem]) rfl ⟨rfl, rfl⟩

set_option maxRecDepth 20000 in
set_option maxHeartbeats 4000000 in
theorem decC1 (s : ByteArray) (i : Nat) (w : World) (hs : s.size ≤ 1048576) (h : i < s.size) (c3 : 224 ≤ bt s i) (c4 : bt s i ≤ 224) :
    Calls Tryd.prog 18 #[.string s, .int .i64 i] w fun e w' => e = .returned (.tuple #[.int .i64 (Utf8.decode s i).1, .int .i64 (Utf8.decode s i).2]) ∧ ∃ n, w' = w.drewN n := by
  have e := bt_eq s i h
  have hb := bt_lt s i
  have l1 : lo1 (bt s i) = 160 := by unfold lo1; split <;> (try split) <;> omega
  have l2 : hi1 (bt s i) = 191 := by unfold hi1; split <;> (try split) <;> omega
  rw [dec3 s i (by omega), l1, l2, v3]
  clear l1 l2
  have hc1 := contI s i 1 160 191 w (by omega) hs (by omega) (by omega)
  have hc2 := contI s i 2 128 191 w (by omega) hs (by omega) (by omega)
  cases q1 : ct s (i + 1) 160 191
  · rw [q1] at hc1
    replace hc1 := Lib.hid hc1
    clear hc2
    replace q1 := Lib.hid q1
    go_enter Tryd.func18, Tryd.ntmps18
    go_wp2_with (first | (go_at_call 20; refine hc1.out.mono ?_) | fail)
    rintro _ _ ⟨rfl, rfl⟩
    go_wp2_with fail
    exact bodyPost_ret (v := .tuple #[.int .i64 65533, .int .i64 1]) (by simp [results, Tryd.results18, go_sem]) rfl ⟨rfl, 0, rfl⟩
  · rw [q1] at hc1
    replace hc1 := Lib.hid hc1
    have k1 := ct_lt q1
    have e1 := bt_eq s (i + 1) k1
    have b1 := bt_lt s (i + 1)
    have t1 : ((i : Int) + 1).toNat = i + 1 := by omega
    have m1 : ((i : Int) + 1) < (s.size : Int) := by omega
    replace q1 := Lib.hid q1
    cases q2 : ct s (i + 2) 128 191
    · rw [q2] at hc2
      replace hc2 := Lib.hid hc2
      replace q2 := Lib.hid q2
      go_enter Tryd.func18, Tryd.ntmps18
      go_wp2_with (first | (go_at_call 20; refine hc1.out.mono ?_) | fail)
      rintro _ _ ⟨rfl, rfl⟩
      go_wp2_with (first | (go_at_call 20; refine hc2.out.mono ?_) | fail)
      rintro _ _ ⟨rfl, rfl⟩
      go_wp2_with fail
      exact bodyPost_ret (v := .tuple #[.int .i64 65533, .int .i64 1]) (by simp [results, Tryd.results18, go_sem]) rfl ⟨rfl, 0, rfl⟩
    · rw [q2] at hc2
      replace hc2 := Lib.hid hc2
      have k2 := ct_lt q2
      have e2 := bt_eq s (i + 2) k2
      have b2 := bt_lt s (i + 2)
      have t2 : ((i : Int) + 2).toNat = i + 2 := by omega
      have m2 : ((i : Int) + 2) < (s.size : Int) := by omega
      replace q2 := Lib.hid q2
      simp only [Bool.and_self, Bool.and_true, if_true]
      have j1 := join3a (bt s i) (bt s (i + 1))
      have j2 := join3b (bt s i) (bt s (i + 1)) (bt s (i + 2))
      go_enter Tryd.func18, Tryd.ntmps18
      go_wp2_with (first | (go_at_call 20; refine hc1.out.mono ?_) | fail)
      rintro _ _ ⟨rfl, rfl⟩
      go_wp2_with (first | (go_at_call 20; refine hc2.out.mono ?_) | fail)
      rintro _ _ ⟨rfl, rfl⟩
      go_wp2_with fail
      go_region
      go_wp2_with fail
      exact bodyPost_ret (v := .tuple #[.int .i64 (((bt s i % 16 * 4096 + bt s (i + 1) % 64 * 64 + bt s (i + 2) % 64 : Nat)) : Int), .int .i64 3]) (by simp [results, Tryd.results18, go_sem]) rfl ⟨rfl, 1, rfl⟩


set_option maxRecDepth 20000 in
set_option maxHeartbeats 4000000 in
theorem decC2 (s : ByteArray) (i : Nat) (w : World) (hs : s.size ≤ 1048576) (h : i < s.size) (c3 : 237 ≤ bt s i) (c4 : bt s i ≤ 237) :
    Calls Tryd.prog 18 #[.string s, .int .i64 i] w fun e w' => e = .returned (.tuple #[.int .i64 (Utf8.decode s i).1, .int .i64 (Utf8.decode s i).2]) ∧ ∃ n, w' = w.drewN n := by
  have e := bt_eq s i h
  have hb := bt_lt s i
  have l1 : lo1 (bt s i) = 128 := by unfold lo1; split <;> (try split) <;> omega
  have l2 : hi1 (bt s i) = 159 := by unfold hi1; split <;> (try split) <;> omega
  rw [dec3 s i (by omega), l1, l2, v3]
  clear l1 l2
  have hc1 := contI s i 1 128 159 w (by omega) hs (by omega) (by omega)
  have hc2 := contI s i 2 128 191 w (by omega) hs (by omega) (by omega)
  cases q1 : ct s (i + 1) 128 159
  · rw [q1] at hc1
    replace hc1 := Lib.hid hc1
    clear hc2
    replace q1 := Lib.hid q1
    go_enter Tryd.func18, Tryd.ntmps18
    go_wp2_with (first | (go_at_call 20; refine hc1.out.mono ?_) | fail)
    rintro _ _ ⟨rfl, rfl⟩
    go_wp2_with fail
    exact bodyPost_ret (v := .tuple #[.int .i64 65533, .int .i64 1]) (by simp [results, Tryd.results18, go_sem]) rfl ⟨rfl, 0, rfl⟩
  · rw [q1] at hc1
    replace hc1 := Lib.hid hc1
    have k1 := ct_lt q1
    have e1 := bt_eq s (i + 1) k1
    have b1 := bt_lt s (i + 1)
    have t1 : ((i : Int) + 1).toNat = i + 1 := by omega
    have m1 : ((i : Int) + 1) < (s.size : Int) := by omega
    replace q1 := Lib.hid q1
    cases q2 : ct s (i + 2) 128 191
    · rw [q2] at hc2
      replace hc2 := Lib.hid hc2
      replace q2 := Lib.hid q2
      go_enter Tryd.func18, Tryd.ntmps18
      go_wp2_with (first | (go_at_call 20; refine hc1.out.mono ?_) | fail)
      rintro _ _ ⟨rfl, rfl⟩
      go_wp2_with (first | (go_at_call 20; refine hc2.out.mono ?_) | fail)
      rintro _ _ ⟨rfl, rfl⟩
      go_wp2_with fail
      exact bodyPost_ret (v := .tuple #[.int .i64 65533, .int .i64 1]) (by simp [results, Tryd.results18, go_sem]) rfl ⟨rfl, 0, rfl⟩
    · rw [q2] at hc2
      replace hc2 := Lib.hid hc2
      have k2 := ct_lt q2
      have e2 := bt_eq s (i + 2) k2
      have b2 := bt_lt s (i + 2)
      have t2 : ((i : Int) + 2).toNat = i + 2 := by omega
      have m2 : ((i : Int) + 2) < (s.size : Int) := by omega
      replace q2 := Lib.hid q2
      simp only [Bool.and_self, Bool.and_true, if_true]
      have j1 := join3a (bt s i) (bt s (i + 1))
      have j2 := join3b (bt s i) (bt s (i + 1)) (bt s (i + 2))
      go_enter Tryd.func18, Tryd.ntmps18
      go_wp2_with (first | (go_at_call 20; refine hc1.out.mono ?_) | fail)
      rintro _ _ ⟨rfl, rfl⟩
      go_wp2_with (first | (go_at_call 20; refine hc2.out.mono ?_) | fail)
      rintro _ _ ⟨rfl, rfl⟩
      go_wp2_with fail
      go_region
      go_wp2_with fail
      exact bodyPost_ret (v := .tuple #[.int .i64 (((bt s i % 16 * 4096 + bt s (i + 1) % 64 * 64 + bt s (i + 2) % 64 : Nat)) : Int), .int .i64 3]) (by simp [results, Tryd.results18, go_sem]) rfl ⟨rfl, 1, rfl⟩


set_option maxRecDepth 20000 in
set_option maxHeartbeats 4000000 in
theorem decC3 (s : ByteArray) (i : Nat) (w : World) (hs : s.size ≤ 1048576) (h : i < s.size) (c3 : 225 ≤ bt s i) (c4 : bt s i ≤ 239) (c5 : bt s i ≠ 237) :
    Calls Tryd.prog 18 #[.string s, .int .i64 i] w fun e w' => e = .returned (.tuple #[.int .i64 (Utf8.decode s i).1, .int .i64 (Utf8.decode s i).2]) ∧ ∃ n, w' = w.drewN n := by
  have e := bt_eq s i h
  have hb := bt_lt s i
  have l1 : lo1 (bt s i) = 128 := by unfold lo1; split <;> (try split) <;> omega
  have l2 : hi1 (bt s i) = 191 := by unfold hi1; split <;> (try split) <;> omega
  rw [dec3 s i (by omega), l1, l2, v3]
  clear l1 l2
  have hc1 := contI s i 1 128 191 w (by omega) hs (by omega) (by omega)
  have hc2 := contI s i 2 128 191 w (by omega) hs (by omega) (by omega)
  cases q1 : ct s (i + 1) 128 191
  · rw [q1] at hc1
    replace hc1 := Lib.hid hc1
    clear hc2
    replace q1 := Lib.hid q1
    go_enter Tryd.func18, Tryd.ntmps18
    go_wp2_with (first | (go_at_call 20; refine hc1.out.mono ?_) | fail)
    rintro _ _ ⟨rfl, rfl⟩
    go_wp2_with fail
    exact bodyPost_ret (v := .tuple #[.int .i64 65533, .int .i64 1]) (by simp [results, Tryd.results18, go_sem]) rfl ⟨rfl, 0, rfl⟩
  · rw [q1] at hc1
    replace hc1 := Lib.hid hc1
    have k1 := ct_lt q1
    have e1 := bt_eq s (i + 1) k1
    have b1 := bt_lt s (i + 1)
    have t1 : ((i : Int) + 1).toNat = i + 1 := by omega
    have m1 : ((i : Int) + 1) < (s.size : Int) := by omega
    replace q1 := Lib.hid q1
    cases q2 : ct s (i + 2) 128 191
    · rw [q2] at hc2
      replace hc2 := Lib.hid hc2
      replace q2 := Lib.hid q2
      go_enter Tryd.func18, Tryd.ntmps18
      go_wp2_with (first | (go_at_call 20; refine hc1.out.mono ?_) | fail)
      rintro _ _ ⟨rfl, rfl⟩
      go_wp2_with (first | (go_at_call 20; refine hc2.out.mono ?_) | fail)
      rintro _ _ ⟨rfl, rfl⟩
      go_wp2_with fail
      exact bodyPost_ret (v := .tuple #[.int .i64 65533, .int .i64 1]) (by simp [results, Tryd.results18, go_sem]) rfl ⟨rfl, 0, rfl⟩
    · rw [q2] at hc2
      replace hc2 := Lib.hid hc2
      have k2 := ct_lt q2
      have e2 := bt_eq s (i + 2) k2
      have b2 := bt_lt s (i + 2)
      have t2 : ((i : Int) + 2).toNat = i + 2 := by omega
      have m2 : ((i : Int) + 2) < (s.size : Int) := by omega
      replace q2 := Lib.hid q2
      simp only [Bool.and_self, Bool.and_true, if_true]
      have j1 := join3a (bt s i) (bt s (i + 1))
      have j2 := join3b (bt s i) (bt s (i + 1)) (bt s (i + 2))
      go_enter Tryd.func18, Tryd.ntmps18
      go_wp2_with (first | (go_at_call 20; refine hc1.out.mono ?_) | fail)
      rintro _ _ ⟨rfl, rfl⟩
      go_wp2_with (first | (go_at_call 20; refine hc2.out.mono ?_) | fail)
      rintro _ _ ⟨rfl, rfl⟩
      go_wp2_with fail
      go_region
      go_wp2_with fail
      exact bodyPost_ret (v := .tuple #[.int .i64 (((bt s i % 16 * 4096 + bt s (i + 1) % 64 * 64 + bt s (i + 2) % 64 : Nat)) : Int), .int .i64 3]) (by simp [results, Tryd.results18, go_sem]) rfl ⟨rfl, 1, rfl⟩


set_option maxRecDepth 20000 in
set_option maxHeartbeats 4000000 in
theorem decD1 (s : ByteArray) (i : Nat) (w : World) (hs : s.size ≤ 1048576) (h : i < s.size) (c3 : 240 ≤ bt s i) (c4 : bt s i ≤ 240) :
    Calls Tryd.prog 18 #[.string s, .int .i64 i] w fun e w' => e = .returned (.tuple #[.int .i64 (Utf8.decode s i).1, .int .i64 (Utf8.decode s i).2]) ∧ ∃ n, w' = w.drewN n := by
  have e := bt_eq s i h
  have hb := bt_lt s i
  have l1 : lo1 (bt s i) = 144 := by unfold lo1; split <;> (try split) <;> omega
  have l2 : hi1 (bt s i) = 191 := by unfold hi1; split <;> (try split) <;> omega
  rw [dec4 s i (by omega), l1, l2, v4]
  clear l1 l2
  have hc1 := contI s i 1 144 191 w (by omega) hs (by omega) (by omega)
  have hc2 := contI s i 2 128 191 w (by omega) hs (by omega) (by omega)
  have hc3 := contI s i 3 128 191 w (by omega) hs (by omega) (by omega)
  cases q1 : ct s (i + 1) 144 191
  · rw [q1] at hc1
    replace hc1 := Lib.hid hc1
    clear hc2
    clear hc3
    replace q1 := Lib.hid q1
    go_enter Tryd.func18, Tryd.ntmps18
    go_wp2_with (first | (go_at_call 20; refine hc1.out.mono ?_) | fail)
    rintro _ _ ⟨rfl, rfl⟩
    go_wp2_with fail
    exact bodyPost_ret (v := .tuple #[.int .i64 65533, .int .i64 1]) (by simp [results, Tryd.results18, go_sem]) rfl ⟨rfl, 0, rfl⟩
  · rw [q1] at hc1
    replace hc1 := Lib.hid hc1
    have k1 := ct_lt q1
    have e1 := bt_eq s (i + 1) k1
    have b1 := bt_lt s (i + 1)
    have t1 : ((i : Int) + 1).toNat = i + 1 := by omega
    have m1 : ((i : Int) + 1) < (s.size : Int) := by omega
    replace q1 := Lib.hid q1
    cases q2 : ct s (i + 2) 128 191
    · rw [q2] at hc2
      replace hc2 := Lib.hid hc2
      clear hc3
      replace q2 := Lib.hid q2
      go_enter Tryd.func18, Tryd.ntmps18
      go_wp2_with (first | (go_at_call 20; refine hc1.out.mono ?_) | fail)
      rintro _ _ ⟨rfl, rfl⟩
      go_wp2_with (first | (go_at_call 20; refine hc2.out.mono ?_) | fail)
      rintro _ _ ⟨rfl, rfl⟩
      go_wp2_with fail
      exact bodyPost_ret (v := .tuple #[.int .i64 65533, .int .i64 1]) (by simp [results, Tryd.results18, go_sem]) rfl ⟨rfl, 0, rfl⟩
    · rw [q2] at hc2
      replace hc2 := Lib.hid hc2
      have k2 := ct_lt q2
      have e2 := bt_eq s (i + 2) k2
      have b2 := bt_lt s (i + 2)
      have t2 : ((i : Int) + 2).toNat = i + 2 := by omega
      have m2 : ((i : Int) + 2) < (s.size : Int) := by omega
      replace q2 := Lib.hid q2
      cases q3 : ct s (i + 3) 128 191
      · rw [q3] at hc3
        replace hc3 := Lib.hid hc3
        replace q3 := Lib.hid q3
        go_enter Tryd.func18, Tryd.ntmps18
        go_wp2_with (first | (go_at_call 20; refine hc1.out.mono ?_) | fail)
        rintro _ _ ⟨rfl, rfl⟩
        go_wp2_with (first | (go_at_call 20; refine hc2.out.mono ?_) | fail)
        rintro _ _ ⟨rfl, rfl⟩
        go_wp2_with (first | (go_at_call 20; refine hc3.out.mono ?_) | fail)
        rintro _ _ ⟨rfl, rfl⟩
        go_wp2_with fail
        exact bodyPost_ret (v := .tuple #[.int .i64 65533, .int .i64 1]) (by simp [results, Tryd.results18, go_sem]) rfl ⟨rfl, 0, rfl⟩
      · rw [q3] at hc3
        replace hc3 := Lib.hid hc3
        have k3 := ct_lt q3
        have e3 := bt_eq s (i + 3) k3
        have b3 := bt_lt s (i + 3)
        have t3 : ((i : Int) + 3).toNat = i + 3 := by omega
        have m3 : ((i : Int) + 3) < (s.size : Int) := by omega
        replace q3 := Lib.hid q3
        simp only [Bool.and_self, Bool.and_true, if_true]
        have j1 := join4a (bt s i) (bt s (i + 1))
        have j2 := join4b (bt s i) (bt s (i + 1)) (bt s (i + 2))
        have j3 := join4c (bt s i) (bt s (i + 1)) (bt s (i + 2)) (bt s (i + 3))
        go_enter Tryd.func18, Tryd.ntmps18
        go_wp2_with (first | (go_at_call 20; refine hc1.out.mono ?_) | fail)
        rintro _ _ ⟨rfl, rfl⟩
        go_wp2_with (first | (go_at_call 20; refine hc2.out.mono ?_) | fail)
        rintro _ _ ⟨rfl, rfl⟩
        go_wp2_with (first | (go_at_call 20; refine hc3.out.mono ?_) | fail)
        rintro _ _ ⟨rfl, rfl⟩
        go_wp2_with fail
        go_region
        go_wp2_with fail
        exact bodyPost_ret (v := .tuple #[.int .i64 (((bt s i % 8 * 262144 + bt s (i + 1) % 64 * 4096 + bt s (i + 2) % 64 * 64 + bt s (i + 3) % 64 : Nat)) : Int), .int .i64 4]) (by simp [results, Tryd.results18, go_sem]) rfl ⟨rfl, 1, rfl⟩



set_option maxRecDepth 20000 in
set_option maxHeartbeats 4000000 in
theorem decD2 (s : ByteArray) (i : Nat) (w : World) (hs : s.size ≤ 1048576) (h : i < s.size) (c3 : 244 ≤ bt s i) (c4 : bt s i ≤ 244) :
    Calls Tryd.prog 18 #[.string s, .int .i64 i] w fun e w' => e = .returned (.tuple #[.int .i64 (Utf8.decode s i).1, .int .i64 (Utf8.decode s i).2]) ∧ ∃ n, w' = w.drewN n := by
  have e := bt_eq s i h
  have hb := bt_lt s i
  have l1 : lo1 (bt s i) = 128 := by unfold lo1; split <;> (try split) <;> omega
  have l2 : hi1 (bt s i) = 143 := by unfold hi1; split <;> (try split) <;> omega
  rw [dec4 s i (by omega), l1, l2, v4]
  clear l1 l2
  have hc1 := contI s i 1 128 143 w (by omega) hs (by omega) (by omega)
  have hc2 := contI s i 2 128 191 w (by omega) hs (by omega) (by omega)
  have hc3 := contI s i 3 128 191 w (by omega) hs (by omega) (by omega)
  cases q1 : ct s (i + 1) 128 143
  · rw [q1] at hc1
    replace hc1 := Lib.hid hc1
    clear hc2
    clear hc3
    replace q1 := Lib.hid q1
    go_enter Tryd.func18, Tryd.ntmps18
    go_wp2_with (first | (go_at_call 20; refine hc1.out.mono ?_) | fail)
    rintro _ _ ⟨rfl, rfl⟩
    go_wp2_with fail
    exact bodyPost_ret (v := .tuple #[.int .i64 65533, .int .i64 1]) (by simp [results, Tryd.results18, go_sem]) rfl ⟨rfl, 0, rfl⟩
  · rw [q1] at hc1
    replace hc1 := Lib.hid hc1
    have k1 := ct_lt q1
    have e1 := bt_eq s (i + 1) k1
    have b1 := bt_lt s (i + 1)
    have t1 : ((i : Int) + 1).toNat = i + 1 := by omega
    have m1 : ((i : Int) + 1) < (s.size : Int) := by omega
    replace q1 := Lib.hid q1
    cases q2 : ct s (i + 2) 128 191
    · rw [q2] at hc2
      replace hc2 := Lib.hid hc2
      clear hc3
      replace q2 := Lib.hid q2
      go_enter Tryd.func18, Tryd.ntmps18
      go_wp2_with (first | (go_at_call 20; refine hc1.out.mono ?_) | fail)
      rintro _ _ ⟨rfl, rfl⟩
      go_wp2_with (first | (go_at_call 20; refine hc2.out.mono ?_) | fail)
      rintro _ _ ⟨rfl, rfl⟩
      go_wp2_with fail
      exact bodyPost_ret (v := .tuple #[.int .i64 65533, .int .i64 1]) (by simp [results, Tryd.results18, go_sem]) rfl ⟨rfl, 0, rfl⟩
    · rw [q2] at hc2
      replace hc2 := Lib.hid hc2
      have k2 := ct_lt q2
      have e2 := bt_eq s (i + 2) k2
      have b2 := bt_lt s (i + 2)
      have t2 : ((i : Int) + 2).toNat = i + 2 := by omega
      have m2 : ((i : Int) + 2) < (s.size : Int) := by omega
      replace q2 := Lib.hid q2
      cases q3 : ct s (i + 3) 128 191
      · rw [q3] at hc3
        replace hc3 := Lib.hid hc3
        replace q3 := Lib.hid q3
        go_enter Tryd.func18, Tryd.ntmps18
        go_wp2_with (first | (go_at_call 20; refine hc1.out.mono ?_) | fail)
        rintro _ _ ⟨rfl, rfl⟩
        go_wp2_with (first | (go_at_call 20; refine hc2.out.mono ?_) | fail)
        rintro _ _ ⟨rfl, rfl⟩
        go_wp2_with (first | (go_at_call 20; refine hc3.out.mono ?_) | fail)
        rintro _ _ ⟨rfl, rfl⟩
        go_wp2_with fail
        exact bodyPost_ret (v := .tuple #[.int .i64 65533, .int .i64 1]) (by simp [results, Tryd.results18, go_sem]) rfl ⟨rfl, 0, rfl⟩
      · rw [q3] at hc3
        replace hc3 := Lib.hid hc3
        have k3 := ct_lt q3
        have e3 := bt_eq s (i + 3) k3
        have b3 := bt_lt s (i + 3)
        have t3 : ((i : Int) + 3).toNat = i + 3 := by omega
        have m3 : ((i : Int) + 3) < (s.size : Int) := by omega
        replace q3 := Lib.hid q3
        simp only [Bool.and_self, Bool.and_true, if_true]
        have j1 := join4a (bt s i) (bt s (i + 1))
        have j2 := join4b (bt s i) (bt s (i + 1)) (bt s (i + 2))
        have j3 := join4c (bt s i) (bt s (i + 1)) (bt s (i + 2)) (bt s (i + 3))
        go_enter Tryd.func18, Tryd.ntmps18
        go_wp2_with (first | (go_at_call 20; refine hc1.out.mono ?_) | fail)
        rintro _ _ ⟨rfl, rfl⟩
        go_wp2_with (first | (go_at_call 20; refine hc2.out.mono ?_) | fail)
        rintro _ _ ⟨rfl, rfl⟩
        go_wp2_with (first | (go_at_call 20; refine hc3.out.mono ?_) | fail)
        rintro _ _ ⟨rfl, rfl⟩
        go_wp2_with fail
        go_region
        go_wp2_with fail
        exact bodyPost_ret (v := .tuple #[.int .i64 (((bt s i % 8 * 262144 + bt s (i + 1) % 64 * 4096 + bt s (i + 2) % 64 * 64 + bt s (i + 3) % 64 : Nat)) : Int), .int .i64 4]) (by simp [results, Tryd.results18, go_sem]) rfl ⟨rfl, 1, rfl⟩



set_option maxRecDepth 20000 in
set_option maxHeartbeats 4000000 in
theorem decD3 (s : ByteArray) (i : Nat) (w : World) (hs : s.size ≤ 1048576) (h : i < s.size) (c3 : 241 ≤ bt s i) (c4 : bt s i ≤ 243) :
    Calls Tryd.prog 18 #[.string s, .int .i64 i] w fun e w' => e = .returned (.tuple #[.int .i64 (Utf8.decode s i).1, .int .i64 (Utf8.decode s i).2]) ∧ ∃ n, w' = w.drewN n := by
  have e := bt_eq s i h
  have hb := bt_lt s i
  have l1 : lo1 (bt s i) = 128 := by unfold lo1; split <;> (try split) <;> omega
  have l2 : hi1 (bt s i) = 191 := by unfold hi1; split <;> (try split) <;> omega
  rw [dec4 s i (by omega), l1, l2, v4]
  clear l1 l2
  have hc1 := contI s i 1 128 191 w (by omega) hs (by omega) (by omega)
  have hc2 := contI s i 2 128 191 w (by omega) hs (by omega) (by omega)
  have hc3 := contI s i 3 128 191 w (by omega) hs (by omega) (by omega)
  cases q1 : ct s (i + 1) 128 191
  · rw [q1] at hc1
    replace hc1 := Lib.hid hc1
    clear hc2
    clear hc3
    replace q1 := Lib.hid q1
    go_enter Tryd.func18, Tryd.ntmps18
    go_wp2_with (first | (go_at_call 20; refine hc1.out.mono ?_) | fail)
    rintro _ _ ⟨rfl, rfl⟩
    go_wp2_with fail
    exact bodyPost_ret (v := .tuple #[.int .i64 65533, .int .i64 1]) (by simp [results, Tryd.results18, go_sem]) rfl ⟨rfl, 0, rfl⟩
  · rw [q1] at hc1
    replace hc1 := Lib.hid hc1
    have k1 := ct_lt q1
    have e1 := bt_eq s (i + 1) k1
    have b1 := bt_lt s (i + 1)
    have t1 : ((i : Int) + 1).toNat = i + 1 := by omega
    have m1 : ((i : Int) + 1) < (s.size : Int) := by omega
    replace q1 := Lib.hid q1
    cases q2 : ct s (i + 2) 128 191
    · rw [q2] at hc2
      replace hc2 := Lib.hid hc2
      clear hc3
      replace q2 := Lib.hid q2
      go_enter Tryd.func18, Tryd.ntmps18
      go_wp2_with (first | (go_at_call 20; refine hc1.out.mono ?_) | fail)
      rintro _ _ ⟨rfl, rfl⟩
      go_wp2_with (first | (go_at_call 20; refine hc2.out.mono ?_) | fail)
      rintro _ _ ⟨rfl, rfl⟩
      go_wp2_with fail
      exact bodyPost_ret (v := .tuple #[.int .i64 65533, .int .i64 1]) (by simp [results, Tryd.results18, go_sem]) rfl ⟨rfl, 0, rfl⟩
    · rw [q2] at hc2
      replace hc2 := Lib.hid hc2
      have k2 := ct_lt q2
      have e2 := bt_eq s (i + 2) k2
      have b2 := bt_lt s (i + 2)
      have t2 : ((i : Int) + 2).toNat = i + 2 := by omega
      have m2 : ((i : Int) + 2) < (s.size : Int) := by omega
      replace q2 := Lib.hid q2
      cases q3 : ct s (i + 3) 128 191
      · rw [q3] at hc3
        replace hc3 := Lib.hid hc3
        replace q3 := Lib.hid q3
        go_enter Tryd.func18, Tryd.ntmps18
        go_wp2_with (first | (go_at_call 20; refine hc1.out.mono ?_) | fail)
        rintro _ _ ⟨rfl, rfl⟩
        go_wp2_with (first | (go_at_call 20; refine hc2.out.mono ?_) | fail)
        rintro _ _ ⟨rfl, rfl⟩
        go_wp2_with (first | (go_at_call 20; refine hc3.out.mono ?_) | fail)
        rintro _ _ ⟨rfl, rfl⟩
        go_wp2_with fail
        exact bodyPost_ret (v := .tuple #[.int .i64 65533, .int .i64 1]) (by simp [results, Tryd.results18, go_sem]) rfl ⟨rfl, 0, rfl⟩
      · rw [q3] at hc3
        replace hc3 := Lib.hid hc3
        have k3 := ct_lt q3
        have e3 := bt_eq s (i + 3) k3
        have b3 := bt_lt s (i + 3)
        have t3 : ((i : Int) + 3).toNat = i + 3 := by omega
        have m3 : ((i : Int) + 3) < (s.size : Int) := by omega
        replace q3 := Lib.hid q3
        simp only [Bool.and_self, Bool.and_true, if_true]
        have j1 := join4a (bt s i) (bt s (i + 1))
        have j2 := join4b (bt s i) (bt s (i + 1)) (bt s (i + 2))
        have j3 := join4c (bt s i) (bt s (i + 1)) (bt s (i + 2)) (bt s (i + 3))
        go_enter Tryd.func18, Tryd.ntmps18
        go_wp2_with (first | (go_at_call 20; refine hc1.out.mono ?_) | fail)
        rintro _ _ ⟨rfl, rfl⟩
        go_wp2_with (first | (go_at_call 20; refine hc2.out.mono ?_) | fail)
        rintro _ _ ⟨rfl, rfl⟩
        go_wp2_with (first | (go_at_call 20; refine hc3.out.mono ?_) | fail)
        rintro _ _ ⟨rfl, rfl⟩
        go_wp2_with fail
        go_region
        go_wp2_with fail
        exact bodyPost_ret (v := .tuple #[.int .i64 (((bt s i % 8 * 262144 + bt s (i + 1) % 64 * 4096 + bt s (i + 2) % 64 * 64 + bt s (i + 3) % 64 : Nat)) : Int), .int .i64 4]) (by simp [results, Tryd.results18, go_sem]) rfl ⟨rfl, 1, rfl⟩



set_option maxRecDepth 20000 in
set_option maxHeartbeats 4000000 in
theorem decE1 (s : ByteArray) (i : Nat) (w : World) (hs : s.size ≤ 1048576) (h : i < s.size) (c1 : 128 ≤ bt s i) (c2 : bt s i < 194) :
    Calls Tryd.prog 18 #[.string s, .int .i64 i] w fun e w' => e = .returned (.tuple #[.int .i64 (Utf8.decode s i).1, .int .i64 (Utf8.decode s i).2]) ∧ ∃ n, w' = w.drewN n := by
  have e := bt_eq s i h
  have hb := bt_lt s i
  rw [dec5 s i (by omega) (by omega)]
  go_enter Tryd.func18, Tryd.ntmps18
  go_wp2_with fail
  exact bodyPost_ret (v := .tuple #[.int .i64 65533, .int .i64 1]) (by simp [results, Tryd.results18, go_sem]) rfl ⟨rfl, 0, rfl⟩
set_option maxRecDepth 20000 in
set_option maxHeartbeats 4000000 in
theorem decE2 (s : ByteArray) (i : Nat) (w : World) (hs : s.size ≤ 1048576) (h : i < s.size) (c1 : 245 ≤ bt s i) :
    Calls Tryd.prog 18 #[.string s, .int .i64 i] w fun e w' => e = .returned (.tuple #[.int .i64 (Utf8.decode s i).1, .int .i64 (Utf8.decode s i).2]) ∧ ∃ n, w' = w.drewN n := by
  have e := bt_eq s i h
  have hb := bt_lt s i
  rw [dec5 s i (by omega) (by omega)]
  go_enter Tryd.func18, Tryd.ntmps18
  go_wp2_with fail
  exact bodyPost_ret (v := .tuple #[.int .i64 65533, .int .i64 1]) (by simp [results, Tryd.results18, go_sem]) rfl ⟨rfl, 0, rfl⟩
theorem decode (s : ByteArray) (i : Nat) (w : World) (hs : s.size ≤ 1048576) (h : i < s.size) :
    Calls Tryd.prog 18 #[.string s, .int .i64 i] w fun e w' => e = .returned (.tuple #[.int .i64 (Utf8.decode s i).1, .int .i64 (Utf8.decode s i).2]) ∧ ∃ n, w' = w.drewN n := by
  by_cases c1 : bt s i < 128
  · exact (decA s i w hs h c1).mono (fun _ _ hh => ⟨hh.1, 0, hh.2.symm⟩)
  by_cases c2 : 194 ≤ bt s i ∧ bt s i ≤ 223
  · exact (decB s i w hs h c2).mono (fun _ _ hh => ⟨hh.1, 0, hh.2.symm⟩)
  by_cases c3 : bt s i = 224
  · exact decC1 s i w hs h (by omega) (by omega)
  by_cases c4 : bt s i = 237
  · exact decC2 s i w hs h (by omega) (by omega)
  by_cases c5 : 225 ≤ bt s i ∧ bt s i ≤ 239
  · exact decC3 s i w hs h (by omega) (by omega) (by omega)
  by_cases c6 : bt s i = 240
  · exact decD1 s i w hs h (by omega) (by omega)
  by_cases c7 : bt s i = 244
  · exact decD2 s i w hs h (by omega) (by omega)
  by_cases c8 : 241 ≤ bt s i ∧ bt s i ≤ 243
  · exact decD3 s i w hs h (by omega) (by omega)
  by_cases c9 : bt s i < 194
  · exact decE1 s i w hs h (by omega) (by omega)
  · exact decE2 s i w hs h (by omega)
end Go.Proofs.YtacekiapcipidaaDoor.DecK
