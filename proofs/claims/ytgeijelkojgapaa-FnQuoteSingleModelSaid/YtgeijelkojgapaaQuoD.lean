/-
  DecodeWTF8Rune at a good rune. Condition: at most 2^20 bytes.
-/
import Derived.Test.YtgeijelkojgapaaU8
namespace Go.Proofs.Ytgeijelkojgapaa.QuoD
open Go.RowKit Go.Lib Go.Proofs.Ytgeijelkojgapaa.U8

theorem and_tab (m : Nat) (k : Nat) (h : ∀ b : Fin 256, bits .and .u8 ((b.val : Nat) : Int) (m : Int) = ((b.val / k * k : Nat) : Int)) (b : Nat) (hb : b < 256) : bits .and .u8 (b : Int) (m : Int) = ((b / k * k : Nat) : Int) := h ⟨b, hb⟩
theorem and224 (b : Nat) (hb : b < 256) : bits .and .u8 (b : Int) 224 = ((b / 32 * 32 : Nat) : Int) := and_tab 224 32 (by decide +kernel) b hb
theorem and240 (b : Nat) (hb : b < 256) : bits .and .u8 (b : Int) 240 = ((b / 16 * 16 : Nat) : Int) := and_tab 240 16 (by decide +kernel) b hb
theorem and248 (b : Nat) (hb : b < 256) : bits .and .u8 (b : Int) 248 = ((b / 8 * 8 : Nat) : Int) := and_tab 248 8 (by decide +kernel) b hb
theorem and192 (b : Nat) (hb : b < 256) : bits .and .u8 (b : Int) 192 = ((b / 64 * 64 : Nat) : Int) := and_tab 192 64 (by decide +kernel) b hb
theorem wraps_i32 (n : Int) (h₀ : 0 ≤ n) (h₁ : n < 2 ^ 31) : IntKind.i32.wrap n = n := by
  simp [IntKind.wrap, IntKind.bits, IntKind.signed]
  omega
theorem jn (i : Nat) (x y : Nat) (hx : x % 2 ^ i = 0) (hx1 : x < 2 ^ 30) (hy : y < 2 ^ i) (hi : i ≤ 18) : bits .or .i32 (x : Int) (y : Int) = ((x + y : Nat) : Int) := by
  have hp : 2 ^ i ≤ 2 ^ 18 := Nat.pow_le_pow_right (by decide) hi
  rw [bits_join .i32 31 (by decide) wraps_i32 i x y (by omega) (by exact_mod_cast hx) (by omega) (by omega) (by exact_mod_cast hy) (by omega)]
  simp
theorem jn2 (a b : Nat) : bits .or .i32 ((a : Int) % 32 * 64) ((b : Int) % 64) = (a : Int) % 32 * 64 + (b : Int) % 64 := by
  have h := jn 6 (a % 32 * 64) (b % 64) (by omega) (by omega) (by omega) (by omega)
  rw [show ((a % 32 * 64 : Nat) : Int) = (a : Int) % 32 * 64 from by omega, show ((b % 64 : Nat) : Int) = (b : Int) % 64 from by omega] at h
  rw [h]
  omega
theorem jn3a (a b : Nat) : bits .or .i32 ((a : Int) % 16 * 4096) ((b : Int) % 64 * 64) = (a : Int) % 16 * 4096 + (b : Int) % 64 * 64 := by
  have h := jn 12 (a % 16 * 4096) (b % 64 * 64) (by omega) (by omega) (by omega) (by omega)
  rw [show ((a % 16 * 4096 : Nat) : Int) = (a : Int) % 16 * 4096 from by omega, show ((b % 64 * 64 : Nat) : Int) = (b : Int) % 64 * 64 from by omega] at h
  rw [h]
  omega
theorem jn3b (a b c : Nat) : bits .or .i32 ((a : Int) % 16 * 4096 + (b : Int) % 64 * 64) ((c : Int) % 64) = (a : Int) % 16 * 4096 + (b : Int) % 64 * 64 + (c : Int) % 64 := by
  have h := jn 6 (a % 16 * 4096 + b % 64 * 64) (c % 64) (by omega) (by omega) (by omega) (by omega)
  rw [show ((a % 16 * 4096 + b % 64 * 64 : Nat) : Int) = (a : Int) % 16 * 4096 + (b : Int) % 64 * 64 from by omega, show ((c % 64 : Nat) : Int) = (c : Int) % 64 from by omega] at h
  rw [h]
  omega
theorem jn4a (a b : Nat) : bits .or .i32 ((a : Int) % 8 * 262144) ((b : Int) % 64 * 4096) = (a : Int) % 8 * 262144 + (b : Int) % 64 * 4096 := by
  have h := jn 18 (a % 8 * 262144) (b % 64 * 4096) (by omega) (by omega) (by omega) (by omega)
  rw [show ((a % 8 * 262144 : Nat) : Int) = (a : Int) % 8 * 262144 from by omega, show ((b % 64 * 4096 : Nat) : Int) = (b : Int) % 64 * 4096 from by omega] at h
  rw [h]
  omega
theorem jn4b (a b c : Nat) : bits .or .i32 ((a : Int) % 8 * 262144 + (b : Int) % 64 * 4096) ((c : Int) % 64 * 64) = (a : Int) % 8 * 262144 + (b : Int) % 64 * 4096 + (c : Int) % 64 * 64 := by
  have h := jn 12 (a % 8 * 262144 + b % 64 * 4096) (c % 64 * 64) (by omega) (by omega) (by omega) (by omega)
  rw [show ((a % 8 * 262144 + b % 64 * 4096 : Nat) : Int) = (a : Int) % 8 * 262144 + (b : Int) % 64 * 4096 from by omega, show ((c % 64 * 64 : Nat) : Int) = (c : Int) % 64 * 64 from by omega] at h
  rw [h]
  omega
theorem jn4c (a b c d : Nat) : bits .or .i32 ((a : Int) % 8 * 262144 + (b : Int) % 64 * 4096 + (c : Int) % 64 * 64) ((d : Int) % 64) = (a : Int) % 8 * 262144 + (b : Int) % 64 * 4096 + (c : Int) % 64 * 64 + (d : Int) % 64 := by
  have h := jn 6 (a % 8 * 262144 + b % 64 * 4096 + c % 64 * 64) (d % 64) (by omega) (by omega) (by omega) (by omega)
  rw [show ((a % 8 * 262144 + b % 64 * 4096 + c % 64 * 64 : Nat) : Int) = (a : Int) % 8 * 262144 + (b : Int) % 64 * 4096 + (c : Int) % 64 * 64 from by omega, show ((d % 64 : Nat) : Int) = (d : Int) % 64 from by omega] at h
  rw [h]
  omega
def DecR (r : Nat × Nat) (w : World) (e : Ending) (w' : World) : Prop := e = .returned (.tuple #[.int .i32 (r.1 : Int), .int .i64 (r.2 : Int)]) ∧ w = w'
theorem decR {r : Nat × Nat} {w : World} {a b : Int} (h1 : a = (r.1 : Int)) (h2 : b = (r.2 : Int)) : DecR r w (.returned (.tuple #[.int .i32 a, .int .i64 b])) w := ⟨by rw [h1, h2], rfl⟩
section
variable (s : ByteArray) (w : World) (hs : s.size ≤ 1048576)
include hs
set_option maxRecDepth 20000 in
set_option maxHeartbeats 4000000 in
theorem wtf1 (h0 : 0 < s.size) (c1 : bt s 0 < 128) : Calls Try.prog 26 #[.string s] w (DecR (bt s 0, 1) w) := by
  have e := bt_eq s 0 h0
  go_enter Try.func26, Try.ntmps26
  go_wp2_with fail
  exact bodyPost_ret (v := .tuple #[.int .i32 (bt s 0), .int .i64 1]) (by simp [results, Try.results26, go_sem]) rfl (decR rfl rfl)
set_option maxRecDepth 20000 in
set_option maxHeartbeats 4000000 in
theorem wtf2 (h1 : 1 < s.size) (c1 : 194 ≤ bt s 0) (c2 : bt s 0 ≤ 223) (d1 : 128 ≤ bt s 1) (d2 : bt s 1 ≤ 191) : Calls Try.prog 26 #[.string s] w (DecR (bt s 0 % 32 * 64 + bt s 1 % 64, 2) w) := by
  have e := bt_eq s 0 (by omega)
  have e1 := bt_eq s 1 h1
  have m1 : bits .and .u8 (bt s 0 : Int) 224 = 192 := by rw [and224 _ (by omega)]; omega
  have m2 : bits .and .u8 (bt s 1 : Int) 192 = 128 := by rw [and192 _ (by omega)]; omega
  have j1 := jn2 (bt s 0) (bt s 1)
  have j2 : 128 ≤ (bt s 0 : Int) % 32 * 64 + (bt s 1 : Int) % 64 := by omega
  go_enter Try.func26, Try.ntmps26
  go_wp2_with fail
  exact bodyPost_ret (v := .tuple #[.int .i32 ((bt s 0 : Int) % 32 * 64 + (bt s 1 : Int) % 64), .int .i64 2]) (by simp [results, Try.results26, go_sem]) rfl (decR (by simp) rfl)
set_option maxRecDepth 20000 in
set_option maxHeartbeats 4000000 in
theorem wtf3 (h2 : 2 < s.size) (c1 : 224 ≤ bt s 0) (c2 : bt s 0 ≤ 239) (d1 : 128 ≤ bt s 1) (d2 : bt s 1 ≤ 191) (d3 : 128 ≤ bt s 2) (d4 : bt s 2 ≤ 191) (hv : 2048 ≤ bt s 0 % 16 * 4096 + bt s 1 % 64 * 64 + bt s 2 % 64) :
    Calls Try.prog 26 #[.string s] w (DecR (bt s 0 % 16 * 4096 + bt s 1 % 64 * 64 + bt s 2 % 64, 3) w) := by
  have e := bt_eq s 0 (by omega)
  have e1 := bt_eq s 1 (by omega)
  have e2 := bt_eq s 2 h2
  have m0 : bits .and .u8 (bt s 0 : Int) 224 = 224 := by rw [and224 _ (by omega)]; omega
  have m3 : bits .and .u8 (bt s 0 : Int) 240 = 224 := by rw [and240 _ (by omega)]; omega
  have m1 : bits .and .u8 (bt s 1 : Int) 192 = 128 := by rw [and192 _ (by omega)]; omega
  have m2 : bits .and .u8 (bt s 2 : Int) 192 = 128 := by rw [and192 _ (by omega)]; omega
  have j1 := jn3a (bt s 0) (bt s 1)
  have j2 := jn3b (bt s 0) (bt s 1) (bt s 2)
  have j3 : 2048 ≤ (bt s 0 : Int) % 16 * 4096 + (bt s 1 : Int) % 64 * 64 + (bt s 2 : Int) % 64 := by omega
  clear hv
  go_enter Try.func26, Try.ntmps26
  go_wp2_with fail
  exact bodyPost_ret (v := .tuple #[.int .i32 ((bt s 0 : Int) % 16 * 4096 + (bt s 1 : Int) % 64 * 64 + (bt s 2 : Int) % 64), .int .i64 3]) (by simp [results, Try.results26, go_sem]) rfl (decR (by simp) rfl)
set_option maxRecDepth 20000 in
set_option maxHeartbeats 4000000 in
theorem wtf4 (h2 : 3 < s.size) (c1 : 240 ≤ bt s 0) (c2 : bt s 0 ≤ 244) (d1 : 128 ≤ bt s 1) (d2 : bt s 1 ≤ 191) (d3 : 128 ≤ bt s 2) (d4 : bt s 2 ≤ 191) (d5 : 128 ≤ bt s 3) (d6 : bt s 3 ≤ 191)
    (hv : 65536 ≤ bt s 0 % 8 * 262144 + bt s 1 % 64 * 4096 + bt s 2 % 64 * 64 + bt s 3 % 64) (hv2 : bt s 0 % 8 * 262144 + bt s 1 % 64 * 4096 + bt s 2 % 64 * 64 + bt s 3 % 64 ≤ 1114111) :
    Calls Try.prog 26 #[.string s] w (DecR (bt s 0 % 8 * 262144 + bt s 1 % 64 * 4096 + bt s 2 % 64 * 64 + bt s 3 % 64, 4) w) := by
  have e := bt_eq s 0 (by omega)
  have e1 := bt_eq s 1 (by omega)
  have e2 := bt_eq s 2 (by omega)
  have e3 := bt_eq s 3 h2
  have m0 : bits .and .u8 (bt s 0 : Int) 224 = 224 := by rw [and224 _ (by omega)]; omega
  have m4 : bits .and .u8 (bt s 0 : Int) 240 = 240 := by rw [and240 _ (by omega)]; omega
  have m5 : bits .and .u8 (bt s 0 : Int) 248 = 240 := by rw [and248 _ (by omega)]; omega
  have m1 : bits .and .u8 (bt s 1 : Int) 192 = 128 := by rw [and192 _ (by omega)]; omega
  have m2 : bits .and .u8 (bt s 2 : Int) 192 = 128 := by rw [and192 _ (by omega)]; omega
  have m3 : bits .and .u8 (bt s 3 : Int) 192 = 128 := by rw [and192 _ (by omega)]; omega
  have j1 := jn4a (bt s 0) (bt s 1)
  have j2 := jn4b (bt s 0) (bt s 1) (bt s 2)
  have j4 := jn4c (bt s 0) (bt s 1) (bt s 2) (bt s 3)
  have j3 : 65536 ≤ (bt s 0 : Int) % 8 * 262144 + (bt s 1 : Int) % 64 * 4096 + (bt s 2 : Int) % 64 * 64 + (bt s 3 : Int) % 64 := by omega
  have j5 : (bt s 0 : Int) % 8 * 262144 + (bt s 1 : Int) % 64 * 4096 + (bt s 2 : Int) % 64 * 64 + (bt s 3 : Int) % 64 ≤ 1114111 := by omega
  clear hv hv2
  go_enter Try.func26, Try.ntmps26
  go_wp2_with fail
  exact bodyPost_ret (v := .tuple #[.int .i32 ((bt s 0 : Int) % 8 * 262144 + (bt s 1 : Int) % 64 * 4096 + (bt s 2 : Int) % 64 * 64 + (bt s 3 : Int) % 64), .int .i64 4]) (by simp [results, Try.results26, go_sem]) rfl (decR (by simp) rfl)
end
end Go.Proofs.Ytgeijelkojgapaa.QuoD
