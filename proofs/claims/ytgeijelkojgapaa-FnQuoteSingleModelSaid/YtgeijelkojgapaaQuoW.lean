/-
  zzDecodeUTF8 and zzValidUTF8 over good runes. Condition: at most 2^20 bytes.
-/
import Derived.Test.YtgeijelkojgapaaQuoV
namespace Go.Proofs.Ytgeijelkojgapaa.QuoD
open Go.RowKit Go.Lib Go.Proofs.Ytgeijelkojgapaa.U8
/-- The value behind k continuation bytes. -/
def acc (s : ByteArray) (i m : Nat) : Nat → Nat
  | 0 => bt s i % m
  | k + 1 => acc s i m k * 64 + bt s (i + (k + 1)) % 64
theorem acc_lt32 (s : ByteArray) (i k : Nat) (hk : k < 1) : acc s i 32 k ≤ 32767 := by
  match k, hk with
  | 0, _ => have : bt s i % 32 < 32 := Nat.mod_lt _ (by decide); simp only [acc]; omega
theorem acc_lt16 (s : ByteArray) (i k : Nat) (hk : k < 2) : acc s i 16 k ≤ 32767 := by
  match k, hk with
  | 0, _ => have : bt s i % 16 < 16 := Nat.mod_lt _ (by decide); simp only [acc]; omega
  | 1, _ => have : bt s i % 16 < 16 := Nat.mod_lt _ (by decide); have : bt s (i + (0 + 1)) % 64 < 64 := Nat.mod_lt _ (by decide); simp only [acc]; omega
theorem acc_lt8 (s : ByteArray) (i k : Nat) (hk : k < 3) : acc s i 8 k ≤ 32767 := by
  match k, hk with
  | 0, _ => have : bt s i % 8 < 8 := Nat.mod_lt _ (by decide); simp only [acc]; omega
  | 1, _ => have : bt s i % 8 < 8 := Nat.mod_lt _ (by decide); have : bt s (i + (0 + 1)) % 64 < 64 := Nat.mod_lt _ (by decide); simp only [acc]; omega
  | 2, _ => have : bt s i % 8 < 8 := Nat.mod_lt _ (by decide); have : bt s (i + (0 + 1)) % 64 < 64 := Nat.mod_lt _ (by decide); have : bt s (i + (1 + 1)) % 64 < 64 := Nat.mod_lt _ (by decide); simp only [acc]; omega
theorem acc1 (s : ByteArray) (i : Nat) : ((acc s i 32 1 : Nat) : Int) = (bt s i : Int) % 32 * 64 + (bt s (i + 1) : Int) % 64 := by simp [acc]
theorem acc2 (s : ByteArray) (i : Nat) : ((acc s i 16 2 : Nat) : Int) = ((bt s i : Int) % 16 * 64 + (bt s (i + 1) : Int) % 64) * 64 + (bt s (i + 2) : Int) % 64 := by simp [acc]
theorem acc3 (s : ByteArray) (i : Nat) : ((acc s i 8 3 : Nat) : Int) = (((bt s i : Int) % 8 * 64 + (bt s (i + 1) : Int) % 64) * 64 + (bt s (i + 2) : Int) % 64) * 64 + (bt s (i + 3) : Int) % 64 := by simp [acc]
theorem fin2 (s : ByteArray) (i : Nat) (w : World) (hi : i < s.size) (c1 : 194 ≤ bt s i) (c2 : bt s i ≤ 223) (hl : i + 1 < s.size) (hc : ∀ j, 1 ≤ j → j ≤ 1 → 128 ≤ bt s (i + j) ∧ bt s (i + j) ≤ 191) :
    128 ≤ ((acc s i 32 1 : Nat) : Int) ∧ ((acc s i 32 1 : Nat) : Int) ≤ 2047 ∧ ZD s i w (.returned (.tuple #[.int .i32 ((acc s i 32 1 : Nat) : Int), .int .i64 2, .bool true])) w := by
  rw [acc1]
  exact ⟨by omega, by omega, good2 s i w hi c1 c2 hl (hc 1 (by omega) (by omega))⟩
theorem fin3 (s : ByteArray) (i : Nat) (w : World) (hi : i < s.size) (c1 : 224 ≤ bt s i) (c2 : bt s i ≤ 239) (hl : i + 2 < s.size) (hc : ∀ j, 1 ≤ j → j ≤ 2 → 128 ≤ bt s (i + j) ∧ bt s (i + j) ≤ 191) :
    (2048 ≤ ((acc s i 16 2 : Nat) : Int) → (((acc s i 16 2 : Nat) : Int) < 55296 ∨ 57343 < ((acc s i 16 2 : Nat) : Int)) → ZD s i w (.returned (.tuple #[.int .i32 ((acc s i 16 2 : Nat) : Int), .int .i64 3, .bool true])) w) ∧ ((acc s i 16 2 : Nat) : Int) ≤ 65535 := by
  rw [acc2]
  exact ⟨fun h1 h2 => good3 s i w hi c1 c2 hl (hc 1 (by omega) (by omega)) (hc 2 (by omega) (by omega)) h1 h2, by omega⟩
theorem fin4 (s : ByteArray) (i : Nat) (w : World) (hi : i < s.size) (c1 : 240 ≤ bt s i) (c2 : bt s i ≤ 244) (hl : i + 3 < s.size) (hc : ∀ j, 1 ≤ j → j ≤ 3 → 128 ≤ bt s (i + j) ∧ bt s (i + j) ≤ 191) :
    (65536 ≤ ((acc s i 8 3 : Nat) : Int) → ((acc s i 8 3 : Nat) : Int) ≤ 1114111 → ZD s i w (.returned (.tuple #[.int .i32 ((acc s i 8 3 : Nat) : Int), .int .i64 4, .bool true])) w) ∧ ((acc s i 8 3 : Nat) : Int) ≤ 2097151 := by
  rw [acc3]
  exact ⟨fun h1 h2 => good4 s i w hi c1 c2 hl (hc 1 (by omega) (by omega)) (hc 2 (by omega) (by omega)) (hc 3 (by omega) (by omega)) h1 h2, by omega⟩
section
variable (s : ByteArray) (i : Nat) (w : World) (hs : s.size ≤ 1048576) (hi : i < s.size)
include hs hi
set_option maxRecDepth 20000 in
set_option maxHeartbeats 8000000 in
theorem zd2 (c1 : 194 ≤ bt s i) (c2 : bt s i ≤ 223) : Calls Try.prog 18 #[.string s, .int .i64 i] w (ZD s i w) := by
  have e := bt_eq s i hi
  by_cases hl : i + 1 < s.size
  · have l0 : 1 ≤ (s.size : Int) - (i : Int) - 1 := by omega
    go_enter Try.func18, Try.ntmps18
    go_wp2_with fail
    go_loopg [9, 11] 2 (fun g r kk wr => ∃ k : Nat, k ≤ 1 ∧ g = 1 + 1 - k ∧ r = .int .i32 (acc s i 32 k) ∧ kk = .int .i64 ((k : Int) + 1) ∧ (∀ j, 1 ≤ j → j ≤ k → 128 ≤ bt s (i + j) ∧ bt s (i + j) ≤ 191) ∧ w = wr)
    case atStart => exact ⟨0, by omega, rfl, by simp [acc], rfl, fun j h1 h2 => by omega, rfl⟩
    case round =>
      obtain ⟨k, hk, rfl, rfl, rfl, hc, rfl⟩ := hrel
      replace hc := Lib.hid hc
      by_cases hkn : k < 1
      · have e1 := bt_eq s (i + (k + 1)) (by omega)
        have t1 : ((i : Int) + ((k : Int) + 1)).toNat = i + (k + 1) := by omega
        have b1 := bt_lt s (i + (k + 1))
        have l1 : (i : Int) + ((k : Int) + 1) < (s.size : Int) := by omega
        have hb := acc_lt32 s i k hkn
        have ha : acc s i 32 (k + 1) = acc s i 32 k * 64 + bt s (i + (k + 1)) % 64 := rfl
        replace ha := Lib.hid ha
        by_cases k1 : 128 ≤ bt s (i + (k + 1)) ∧ bt s (i + (k + 1)) ≤ 191
        · have m1 : bits .and .u8 (bt s (i + (k + 1)) : Int) 192 = 128 := by rw [and192 _ b1]; omega
          have j1 := jlx (acc s i 32 k : Int) (bt s (i + (k + 1))) (by omega) (by omega)
          have hc2 : ∀ j, 1 ≤ j → j ≤ k + 1 → 128 ≤ bt s (i + j) ∧ bt s (i + j) ≤ 191 := fun j h1 h2 => by
            by_cases hj : j = k + 1
            · rw [hj]; exact k1
            · exact hc.out j h1 (by omega)
          replace hc2 := Lib.hid hc2
          clear k1
          generalize acc s i 32 k = A at *
          go_wp2_with fail
          go_roundg (1 + 1 - (k + 1))
          case measure => omega
          case rel => exact ⟨k + 1, by omega, rfl, by rw [ha.out]; simp, by simp, hc2.out, rfl⟩
        · have hx := Lib.hid (nb2 c1 c2 (not_all hkn k1))
          have m1 : ¬ (bits .and .u8 (bt s (i + (k + 1)) : Int) 192 = 128) := by rw [and192 _ b1]; omega
          clear k1
          generalize acc s i 32 k = A at *
          go_wp2_with fail
          exact bodyPost_ret (v := .tuple #[.int .i32 0, .int .i64 1, .bool false]) (by simp [results, Try.results18, go_sem]) rfl (zd_bad hx.out)
      · have hkk : k = 1 := by omega
        subst hkk
        have hf := fin2 s i w hi c1 c2 hl (fun j h1 h2 => hc.out j h1 h2)
        replace hf := Lib.hid hf
        clear hkn
        generalize acc s i 32 1 = A at *
        have r1 := hf.out.1
        have r2 := hf.out.2.1
        have hg := Lib.hid hf.out.2.2
        go_wp2_with fail
        exact bodyPost_ret (v := .tuple #[.int .i32 (A : Int), .int .i64 2, .bool true]) (by simp [results, Try.results18, go_sem]) rfl hg.out
  · have hx := Lib.hid (nb2 c1 c2 (fun hh => hl hh.1))
    have l0 : (s.size : Int) - (i : Int) - 1 < 1 := by omega
    go_enter Try.func18, Try.ntmps18
    go_wp2_with fail
    exact bodyPost_ret (v := .tuple #[.int .i32 0, .int .i64 1, .bool false]) (by simp [results, Try.results18, go_sem]) rfl (zd_bad hx.out)
set_option maxRecDepth 20000 in
set_option maxHeartbeats 8000000 in
theorem zd3 (c1 : 224 ≤ bt s i) (c2 : bt s i ≤ 239) : Calls Try.prog 18 #[.string s, .int .i64 i] w (ZD s i w) := by
  have e := bt_eq s i hi
  by_cases hl : i + 2 < s.size
  · have l0 : 2 ≤ (s.size : Int) - (i : Int) - 1 := by omega
    go_enter Try.func18, Try.ntmps18
    go_wp2_with fail
    go_loopg [9, 11] 3 (fun g r kk wr => ∃ k : Nat, k ≤ 2 ∧ g = 2 + 1 - k ∧ r = .int .i32 (acc s i 16 k) ∧ kk = .int .i64 ((k : Int) + 1) ∧ (∀ j, 1 ≤ j → j ≤ k → 128 ≤ bt s (i + j) ∧ bt s (i + j) ≤ 191) ∧ w = wr)
    case atStart => exact ⟨0, by omega, rfl, by simp [acc], rfl, fun j h1 h2 => by omega, rfl⟩
    case round =>
      obtain ⟨k, hk, rfl, rfl, rfl, hc, rfl⟩ := hrel
      replace hc := Lib.hid hc
      by_cases hkn : k < 2
      · have e1 := bt_eq s (i + (k + 1)) (by omega)
        have t1 : ((i : Int) + ((k : Int) + 1)).toNat = i + (k + 1) := by omega
        have b1 := bt_lt s (i + (k + 1))
        have l1 : (i : Int) + ((k : Int) + 1) < (s.size : Int) := by omega
        have hb := acc_lt16 s i k hkn
        have ha : acc s i 16 (k + 1) = acc s i 16 k * 64 + bt s (i + (k + 1)) % 64 := rfl
        replace ha := Lib.hid ha
        by_cases k1 : 128 ≤ bt s (i + (k + 1)) ∧ bt s (i + (k + 1)) ≤ 191
        · have m1 : bits .and .u8 (bt s (i + (k + 1)) : Int) 192 = 128 := by rw [and192 _ b1]; omega
          have j1 := jlx (acc s i 16 k : Int) (bt s (i + (k + 1))) (by omega) (by omega)
          have hc2 : ∀ j, 1 ≤ j → j ≤ k + 1 → 128 ≤ bt s (i + j) ∧ bt s (i + j) ≤ 191 := fun j h1 h2 => by
            by_cases hj : j = k + 1
            · rw [hj]; exact k1
            · exact hc.out j h1 (by omega)
          replace hc2 := Lib.hid hc2
          clear k1
          generalize acc s i 16 k = A at *
          go_wp2_with fail
          go_roundg (2 + 1 - (k + 1))
          case measure => omega
          case rel => exact ⟨k + 1, by omega, rfl, by rw [ha.out]; simp, by simp, hc2.out, rfl⟩
        · have hx := Lib.hid (nb3 c1 c2 (not_all hkn k1))
          have m1 : ¬ (bits .and .u8 (bt s (i + (k + 1)) : Int) 192 = 128) := by rw [and192 _ b1]; omega
          clear k1
          generalize acc s i 16 k = A at *
          go_wp2_with fail
          exact bodyPost_ret (v := .tuple #[.int .i32 0, .int .i64 1, .bool false]) (by simp [results, Try.results18, go_sem]) rfl (zd_bad hx.out)
      · have hkk : k = 2 := by omega
        subst hkk
        have hf := fin3 s i w hi c1 c2 hl (fun j h1 h2 => hc.out j h1 h2)
        replace hf := Lib.hid hf
        have hv := Lib.hid (fun h => nv3 c1 c2 (by rw [← acc2]; exact h) : (((acc s i 16 2 : Nat) : Int) < 2048 ∨ (55296 ≤ ((acc s i 16 2 : Nat) : Int) ∧ ((acc s i 16 2 : Nat) : Int) ≤ 57343)) → ¬ GoodR s i)
        clear hkn
        generalize acc s i 16 2 = A at *
        have r4 := hf.out.2
        by_cases r0 : (A : Int) < 2048
        · have hx := Lib.hid (hv.out (.inl r0))
          clear r4
          go_wp2_with fail
          exact bodyPost_ret (v := .tuple #[.int .i32 0, .int .i64 1, .bool false]) (by simp [results, Try.results18, go_sem]) rfl (zd_bad hx.out)
        have q0 : 2048 ≤ (A : Int) := by omega
        have q1 : (A : Int) ≤ 1114111 := by omega
        clear r0
        by_cases r1 : (A : Int) < 55296
        · have hg := Lib.hid (hf.out.1 q0 (.inl r1))
          have q5 : ¬ (55296 ≤ (A : Int)) := by omega
          clear r4 r1
          go_wp2_with fail
          exact bodyPost_ret (v := .tuple #[.int .i32 (A : Int), .int .i64 3, .bool true]) (by simp [results, Try.results18, go_sem]) rfl hg.out
        have q2 : 55296 ≤ (A : Int) := by omega
        clear r1
        by_cases r2 : (A : Int) ≤ 57343
        · have hx := Lib.hid (hv.out (.inr ⟨q2, r2⟩))
          clear r4
          go_wp2_with fail
          exact bodyPost_ret (v := .tuple #[.int .i32 0, .int .i64 1, .bool false]) (by simp [results, Try.results18, go_sem]) rfl (zd_bad hx.out)
        · have q3 : 57343 < (A : Int) := by omega
          have hg := Lib.hid (hf.out.1 q0 (.inr q3))
          clear r2 r4
          go_wp2_with fail
          exact bodyPost_ret (v := .tuple #[.int .i32 (A : Int), .int .i64 3, .bool true]) (by simp [results, Try.results18, go_sem]) rfl hg.out
  · have hx := Lib.hid (nb3 c1 c2 (fun hh => hl hh.1))
    have l0 : (s.size : Int) - (i : Int) - 1 < 2 := by omega
    go_enter Try.func18, Try.ntmps18
    go_wp2_with fail
    exact bodyPost_ret (v := .tuple #[.int .i32 0, .int .i64 1, .bool false]) (by simp [results, Try.results18, go_sem]) rfl (zd_bad hx.out)
set_option maxRecDepth 20000 in
set_option maxHeartbeats 8000000 in
theorem zd4 (c1 : 240 ≤ bt s i) (c2 : bt s i ≤ 244) : Calls Try.prog 18 #[.string s, .int .i64 i] w (ZD s i w) := by
  have e := bt_eq s i hi
  by_cases hl : i + 3 < s.size
  · have l0 : 3 ≤ (s.size : Int) - (i : Int) - 1 := by omega
    go_enter Try.func18, Try.ntmps18
    go_wp2_with fail
    go_loopg [9, 11] 4 (fun g r kk wr => ∃ k : Nat, k ≤ 3 ∧ g = 3 + 1 - k ∧ r = .int .i32 (acc s i 8 k) ∧ kk = .int .i64 ((k : Int) + 1) ∧ (∀ j, 1 ≤ j → j ≤ k → 128 ≤ bt s (i + j) ∧ bt s (i + j) ≤ 191) ∧ w = wr)
    case atStart => exact ⟨0, by omega, rfl, by simp [acc], rfl, fun j h1 h2 => by omega, rfl⟩
    case round =>
      obtain ⟨k, hk, rfl, rfl, rfl, hc, rfl⟩ := hrel
      replace hc := Lib.hid hc
      by_cases hkn : k < 3
      · have e1 := bt_eq s (i + (k + 1)) (by omega)
        have t1 : ((i : Int) + ((k : Int) + 1)).toNat = i + (k + 1) := by omega
        have b1 := bt_lt s (i + (k + 1))
        have l1 : (i : Int) + ((k : Int) + 1) < (s.size : Int) := by omega
        have hb := acc_lt8 s i k hkn
        have ha : acc s i 8 (k + 1) = acc s i 8 k * 64 + bt s (i + (k + 1)) % 64 := rfl
        replace ha := Lib.hid ha
        by_cases k1 : 128 ≤ bt s (i + (k + 1)) ∧ bt s (i + (k + 1)) ≤ 191
        · have m1 : bits .and .u8 (bt s (i + (k + 1)) : Int) 192 = 128 := by rw [and192 _ b1]; omega
          have j1 := jlx (acc s i 8 k : Int) (bt s (i + (k + 1))) (by omega) (by omega)
          have hc2 : ∀ j, 1 ≤ j → j ≤ k + 1 → 128 ≤ bt s (i + j) ∧ bt s (i + j) ≤ 191 := fun j h1 h2 => by
            by_cases hj : j = k + 1
            · rw [hj]; exact k1
            · exact hc.out j h1 (by omega)
          replace hc2 := Lib.hid hc2
          clear k1
          generalize acc s i 8 k = A at *
          go_wp2_with fail
          go_roundg (3 + 1 - (k + 1))
          case measure => omega
          case rel => exact ⟨k + 1, by omega, rfl, by rw [ha.out]; simp, by simp, hc2.out, rfl⟩
        · have hx := Lib.hid (nb4 c1 c2 (not_all hkn k1))
          have m1 : ¬ (bits .and .u8 (bt s (i + (k + 1)) : Int) 192 = 128) := by rw [and192 _ b1]; omega
          clear k1
          generalize acc s i 8 k = A at *
          go_wp2_with fail
          exact bodyPost_ret (v := .tuple #[.int .i32 0, .int .i64 1, .bool false]) (by simp [results, Try.results18, go_sem]) rfl (zd_bad hx.out)
      · have hkk : k = 3 := by omega
        subst hkk
        have hf := fin4 s i w hi c1 c2 hl (fun j h1 h2 => hc.out j h1 h2)
        replace hf := Lib.hid hf
        have hv := Lib.hid (fun h => nv4 c1 c2 (by rw [← acc3]; exact h) : (((acc s i 8 3 : Nat) : Int) < 65536 ∨ 1114111 < ((acc s i 8 3 : Nat) : Int)) → ¬ GoodR s i)
        clear hkn
        generalize acc s i 8 3 = A at *
        have r4 := hf.out.2
        by_cases r0 : (A : Int) < 65536
        · have hx := Lib.hid (hv.out (.inl r0))
          clear r4
          go_wp2_with fail
          exact bodyPost_ret (v := .tuple #[.int .i32 0, .int .i64 1, .bool false]) (by simp [results, Try.results18, go_sem]) rfl (zd_bad hx.out)
        have q0 : 65536 ≤ (A : Int) := by omega
        clear r0
        by_cases r1 : (A : Int) ≤ 1114111
        · have hg := Lib.hid (hf.out.1 q0 r1)
          have q1 : 55296 ≤ (A : Int) := by omega
          have q2 : 57343 < (A : Int) := by omega
          clear r4
          go_wp2_with fail
          exact bodyPost_ret (v := .tuple #[.int .i32 (A : Int), .int .i64 4, .bool true]) (by simp [results, Try.results18, go_sem]) rfl hg.out
        · have q1 : 1114111 < (A : Int) := by omega
          have hx := Lib.hid (hv.out (.inr q1))
          clear r1 r4
          go_wp2_with fail
          exact bodyPost_ret (v := .tuple #[.int .i32 0, .int .i64 1, .bool false]) (by simp [results, Try.results18, go_sem]) rfl (zd_bad hx.out)
  · have hx := Lib.hid (nb4 c1 c2 (fun hh => hl hh.1))
    have l0 : (s.size : Int) - (i : Int) - 1 < 3 := by omega
    go_enter Try.func18, Try.ntmps18
    go_wp2_with fail
    exact bodyPost_ret (v := .tuple #[.int .i32 0, .int .i64 1, .bool false]) (by simp [results, Try.results18, go_sem]) rfl (zd_bad hx.out)
end
theorem zd (s : ByteArray) (i : Nat) (w : World) (hs : s.size ≤ 1048576) (hi : i < s.size) : Calls Try.prog 18 #[.string s, .int .i64 i] w (ZD s i w) := by
  by_cases c0 : bt s i < 128
  · exact zd1 s i w hi c0
  by_cases c1 : bt s i < 194
  · exact zd0 s i w hi (by omega) (.inl c1)
  by_cases c2 : bt s i ≤ 223
  · exact zd2 s i w hs hi (by omega) c2
  by_cases c3 : bt s i ≤ 239
  · exact zd3 s i w hs hi (by omega) c3
  by_cases c4 : bt s i ≤ 244
  · exact zd4 s i w hs hi (by omega) c4
  · exact zd0 s i w hi (by omega) (.inr (by omega))
end Go.Proofs.Ytgeijelkojgapaa.QuoD
