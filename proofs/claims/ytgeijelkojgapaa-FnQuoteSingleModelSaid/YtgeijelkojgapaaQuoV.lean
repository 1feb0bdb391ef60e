/-
  DecodeWTF8Rune, zzDecodeUTF8 and zzValidUTF8 over good runes. Condition: at most 2^20 bytes.
-/
import Derived.Test.YtgeijelkojgapaaQuoD
import Derived.LoopN
import Derived.Deep.LoopGhost
import Derived.Lib.Hide
namespace Go.Proofs.Ytgeijelkojgapaa.QuoD
open Go.RowKit Go.Lib Go.Proofs.Ytgeijelkojgapaa.U8

theorem lo3 (b c : Nat) (h1 : 224 ≤ b) (h2 : b ≤ 239) (h3 : lo1 b ≤ c) (h4 : c ≤ hi1 b) : 128 ≤ c ∧ c ≤ 191 ∧ 2048 ≤ b % 16 * 4096 + c % 64 * 64 ∧ (b % 16 * 4096 + c % 64 * 64 + 63 < 55296 ∨ 57343 < b % 16 * 4096 + c % 64 * 64) := by
  unfold lo1 hi1 at *
  split at h3 <;> (try split at h3) <;> split at h4 <;> (try split at h4) <;> omega
theorem lo4 (b c : Nat) (h1 : 240 ≤ b) (h2 : b ≤ 244) (h3 : lo1 b ≤ c) (h4 : c ≤ hi1 b) : 128 ≤ c ∧ c ≤ 191 ∧ 65536 ≤ b % 8 * 262144 + c % 64 * 4096 ∧ b % 8 * 262144 + c % 64 * 4096 + 4095 ≤ 1114111 := by
  unfold lo1 hi1 at *
  split at h3 <;> (try split at h3) <;> split at h4 <;> (try split at h4) <;> omega
theorem sum3 (a b c : Nat) (h : 2048 ≤ a % 16 * 4096 + b % 64 * 64) : 2048 ≤ a % 16 * 4096 + b % 64 * 64 + c % 64 := Nat.le_trans h (Nat.le_add_right _ _)
theorem sumx (A B x y z : Nat) (h : A ≤ x) (h2 : x + 4095 ≤ B) (hy : y < 64) (hz : z < 64) : A ≤ x + y * 64 + z ∧ x + y * 64 + z ≤ B := by omega
theorem sum4 (a b c d : Nat) (h : 65536 ≤ a % 8 * 262144 + b % 64 * 4096) (h2 : a % 8 * 262144 + b % 64 * 4096 + 4095 ≤ 1114111) : 65536 ≤ a % 8 * 262144 + b % 64 * 4096 + c % 64 * 64 + d % 64 ∧ a % 8 * 262144 + b % 64 * 4096 + c % 64 * 64 + d % 64 ≤ 1114111 :=
  sumx _ _ _ _ _ h h2 (Nat.mod_lt c (by decide)) (Nat.mod_lt d (by decide))
theorem wtf (s : ByteArray) (w : World) (hs : s.size ≤ 1048576) (h0 : 0 < s.size) (hg : U8.GoodR s 0) : Calls Try.prog 26 #[.string s] w (DecR (Utf8.decode s 0) w) := by
  rcases U8.shape hg with ⟨a, hd⟩ | ⟨a, b, c, d, e, hd⟩ | ⟨a, b, c, d, e, f, g, hd⟩ | ⟨a, b, c, d, e, f, g, k, l, hd⟩
  · rw [hd]; exact wtf1 s w hs h0 a
  · rw [hd]; exact wtf2 s w hs c a b d e
  · rw [hd]
    obtain ⟨x, y, z, _⟩ := lo3 _ _ a b d e
    exact wtf3 s w hs c a b x y f g (sum3 _ _ _ z)
  · rw [hd]
    obtain ⟨x, y, z, u⟩ := lo4 _ _ a b d e
    exact wtf4 s w hs c a b x y f g k l (sum4 _ _ _ _ z u).1 (sum4 _ _ _ _ z u).2
/-- zzDecodeUTF8's answer: it says true exactly at a good rune. -/
def ZD (s : ByteArray) (i : Nat) (w : World) (e : Ending) (w' : World) : Prop := w = w' ∧ ((GoodR s i ∧ e = .returned (.tuple #[.int .i32 ((Utf8.decode s i).1 : Int), .int .i64 ((Utf8.decode s i).2 : Int), .bool true])) ∨ (¬ GoodR s i ∧ ∃ c n : Int, e = .returned (.tuple #[.int .i32 c, .int .i64 n, .bool false])))
theorem zd_bad {s : ByteArray} {i : Nat} {w : World} (h : ¬ GoodR s i) : ZD s i w (.returned (.tuple #[.int .i32 0, .int .i64 1, .bool false])) w := ⟨rfl, .inr ⟨h, 0, 1, rfl⟩⟩
theorem zd_good {s : ByteArray} {i : Nat} {w : World} {c n : Int} (hg : GoodR s i) (h1 : c = ((Utf8.decode s i).1 : Int)) (h2 : n = ((Utf8.decode s i).2 : Int)) : ZD s i w (.returned (.tuple #[.int .i32 c, .int .i64 n, .bool true])) w := ⟨rfl, .inl ⟨hg, by rw [h1, h2]⟩⟩
theorem nb0 {s : ByteArray} {i : Nat} (h : 128 ≤ bt s i) (h2 : bt s i < 194 ∨ 244 < bt s i) : ¬ GoodR s i := fun hg => by
  rcases U8.shape hg with ⟨a, hd⟩ | ⟨a, b, c, d, e, hd⟩ | ⟨a, b, c, d, e, f, g, hd⟩ | ⟨a, b, c, d, e, f, g, k, l, hd⟩ <;> omega
theorem nb2 {s : ByteArray} {i : Nat} (c1 : 194 ≤ bt s i) (c2 : bt s i ≤ 223) (h : ¬ (i + 1 < s.size ∧ ∀ j, 1 ≤ j → j ≤ 1 → 128 ≤ bt s (i + j) ∧ bt s (i + j) ≤ 191)) : ¬ GoodR s i := fun hg => by
  rcases U8.shape hg with ⟨a, hd⟩ | ⟨a, b, c, d, e, hd⟩ | ⟨a, b, c, d, e, f, g, hd⟩ | ⟨a, b, c, d, e, f, g, k, l, hd⟩
  · omega
  · exact h ⟨c, fun j h1 h2 => by obtain rfl : j = 1 := by omega
                                  exact ⟨d, e⟩⟩
  · omega
  · omega
theorem nb3 {s : ByteArray} {i : Nat} (c1 : 224 ≤ bt s i) (c2 : bt s i ≤ 239) (h : ¬ (i + 2 < s.size ∧ ∀ j, 1 ≤ j → j ≤ 2 → 128 ≤ bt s (i + j) ∧ bt s (i + j) ≤ 191)) : ¬ GoodR s i := fun hg => by
  rcases U8.shape hg with ⟨a, hd⟩ | ⟨a, b, c, d, e, hd⟩ | ⟨a, b, c, d, e, f, g, hd⟩ | ⟨a, b, c, d, e, f, g, k, l, hd⟩
  · omega
  · omega
  · obtain ⟨x, y, _, _⟩ := lo3 _ _ a b d e
    exact h ⟨c, fun j h1 h2 => by
      rcases (show j = 1 ∨ j = 2 by omega) with rfl | rfl
      · exact ⟨x, y⟩
      · exact ⟨f, g⟩⟩
  · omega
theorem nb4 {s : ByteArray} {i : Nat} (c1 : 240 ≤ bt s i) (c2 : bt s i ≤ 244) (h : ¬ (i + 3 < s.size ∧ ∀ j, 1 ≤ j → j ≤ 3 → 128 ≤ bt s (i + j) ∧ bt s (i + j) ≤ 191)) : ¬ GoodR s i := fun hg => by
  rcases U8.shape hg with ⟨a, hd⟩ | ⟨a, b, c, d, e, hd⟩ | ⟨a, b, c, d, e, f, g, hd⟩ | ⟨a, b, c, d, e, f, g, k, l, hd⟩
  · omega
  · omega
  · omega
  · obtain ⟨x, y, _, _⟩ := lo4 _ _ a b d e
    exact h ⟨c, fun j h1 h2 => by
      rcases (show j = 1 ∨ j = 2 ∨ j = 3 by omega) with rfl | rfl | rfl
      · exact ⟨x, y⟩
      · exact ⟨f, g⟩
      · exact ⟨k, l⟩⟩
theorem not_all {s : ByteArray} {i n k : Nat} {p : Prop} (hk : k < n) (h : ¬ (128 ≤ bt s (i + (k + 1)) ∧ bt s (i + (k + 1)) ≤ 191)) : ¬ (p ∧ ∀ j, 1 ≤ j → j ≤ n → 128 ≤ bt s (i + j) ∧ bt s (i + j) ≤ 191) := fun hh => h (hh.2 (k + 1) (by omega) (by omega))
theorem nv3 {s : ByteArray} {i : Nat} (c1 : 224 ≤ bt s i) (c2 : bt s i ≤ 239) (h : ((bt s i : Int) % 16 * 64 + (bt s (i + 1) : Int) % 64) * 64 + (bt s (i + 2) : Int) % 64 < 2048 ∨ (55296 ≤ ((bt s i : Int) % 16 * 64 + (bt s (i + 1) : Int) % 64) * 64 + (bt s (i + 2) : Int) % 64 ∧ ((bt s i : Int) % 16 * 64 + (bt s (i + 1) : Int) % 64) * 64 + (bt s (i + 2) : Int) % 64 ≤ 57343)) : ¬ GoodR s i := fun hg => by
  rcases U8.shape hg with ⟨a, hd⟩ | ⟨a, b, c, d, e, hd⟩ | ⟨a, b, c, d, e, f, g, hd⟩ | ⟨a, b, c, d, e, f, g, k, l, hd⟩
  · omega
  · omega
  · obtain ⟨x, y, z, u⟩ := lo3 _ _ a b d e
    omega
  · omega
theorem nv4 {s : ByteArray} {i : Nat} (c1 : 240 ≤ bt s i) (c2 : bt s i ≤ 244) (h : (((bt s i : Int) % 8 * 64 + (bt s (i + 1) : Int) % 64) * 64 + (bt s (i + 2) : Int) % 64) * 64 + (bt s (i + 3) : Int) % 64 < 65536 ∨ 1114111 < (((bt s i : Int) % 8 * 64 + (bt s (i + 1) : Int) % 64) * 64 + (bt s (i + 2) : Int) % 64) * 64 + (bt s (i + 3) : Int) % 64) : ¬ GoodR s i := fun hg => by
  rcases U8.shape hg with ⟨a, hd⟩ | ⟨a, b, c, d, e, hd⟩ | ⟨a, b, c, d, e, f, g, hd⟩ | ⟨a, b, c, d, e, f, g, k, l, hd⟩
  · omega
  · omega
  · omega
  · obtain ⟨x, y, z, u⟩ := lo4 _ _ a b d e
    omega
theorem good_of {s : ByteArray} {i c n : Nat} (hd : Utf8.decode s i = (c, n)) (h : n ≠ 1 ∨ c ≠ 65533) : GoodR s i := by
  unfold GoodR
  rw [hd]
  intro e
  injection e with e1 e2
  rcases h with h | h
  · exact h e2
  · exact h e1
theorem jlx (x : Int) (b : Nat) (h0 : 0 ≤ x) (h1 : x < 16777216) : bits .or .i32 (x * 64) ((b : Int) % 64) = x * 64 + (b : Int) % 64 := by
  obtain ⟨n, rfl⟩ := Int.eq_ofNat_of_zero_le h0
  have h := jn 6 (n * 64) (b % 64) (by omega) (by omega) (by omega) (by omega)
  rw [show ((n * 64 : Nat) : Int) = (n : Int) * 64 from by omega, show ((b % 64 : Nat) : Int) = (b : Int) % 64 from by omega] at h
  rw [h]
  omega
theorem jl32 (a b : Nat) : bits .or .i32 ((a : Int) % 32 * 64) ((b : Int) % 64) = (a : Int) % 32 * 64 + (b : Int) % 64 := jlx _ b (by omega) (by omega)
theorem jl16 (a b : Nat) : bits .or .i32 ((a : Int) % 16 * 64) ((b : Int) % 64) = (a : Int) % 16 * 64 + (b : Int) % 64 := jlx _ b (by omega) (by omega)
theorem jl8 (a b : Nat) : bits .or .i32 ((a : Int) % 8 * 64) ((b : Int) % 64) = (a : Int) % 8 * 64 + (b : Int) % 64 := jlx _ b (by omega) (by omega)
theorem back3 (b c d : Nat) (h1 : 224 ≤ b) (h2 : b ≤ 239) (h3 : 128 ≤ c) (h4 : c ≤ 191) (hd : d < 64) (g1 : 2048 ≤ b % 16 * 4096 + c % 64 * 64 + d) (g2 : b % 16 * 4096 + c % 64 * 64 + d < 55296 ∨ 57343 < b % 16 * 4096 + c % 64 * 64 + d) : lo1 b ≤ c ∧ c ≤ hi1 b := by
  unfold lo1 hi1
  constructor <;> (repeat' split) <;> omega
theorem back4 (b c d : Nat) (h1 : 240 ≤ b) (h2 : b ≤ 244) (h3 : 128 ≤ c) (h4 : c ≤ 191) (hd : d < 4096) (g1 : 65536 ≤ b % 8 * 262144 + c % 64 * 4096 + d) (g2 : b % 8 * 262144 + c % 64 * 4096 + d ≤ 1114111) : lo1 b ≤ c ∧ c ≤ hi1 b := by
  unfold lo1 hi1
  constructor <;> (repeat' split) <;> omega
theorem cast3 (a b c : Nat) : ((a : Int) % 16 * 64 + (b : Int) % 64) * 64 + (c : Int) % 64 = ((a % 16 * 4096 + b % 64 * 64 + c % 64 : Nat) : Int) := by omega
theorem cast4 (a b c d : Nat) : (((a : Int) % 8 * 64 + (b : Int) % 64) * 64 + (c : Int) % 64) * 64 + (d : Int) % 64 = ((a % 8 * 262144 + b % 64 * 4096 + c % 64 * 64 + d % 64 : Nat) : Int) := by omega
theorem good2 (s : ByteArray) (i : Nat) (w : World) (_hi : i < s.size) (c1 : 194 ≤ bt s i) (c2 : bt s i ≤ 223) (hl : i + 1 < s.size) (k1 : 128 ≤ bt s (i + 1) ∧ bt s (i + 1) ≤ 191) :
    ZD s i w (.returned (.tuple #[.int .i32 ((bt s i : Int) % 32 * 64 + (bt s (i + 1) : Int) % 64), .int .i64 2, .bool true])) w := by
  have hd := dec2 s i ⟨c1, c2⟩
  rw [show ct s (i + 1) 128 191 = true from by simp [ct, hl, k1], if_pos rfl] at hd
  exact zd_good (w := w) (good_of hd (.inl (by decide))) (by rw [hd]; simp) (by rw [hd]; rfl)
theorem castle (A x : Nat) (h : (A : Int) ≤ (x : Int)) : A ≤ x := Int.ofNat_le.1 h
theorem castlt (A x : Nat) (h : (A : Int) < (x : Int)) : A < x := Int.ofNat_lt.1 h
theorem good3 (s : ByteArray) (i : Nat) (w : World) (_hi : i < s.size) (c1 : 224 ≤ bt s i) (c2 : bt s i ≤ 239) (hl : i + 2 < s.size) (k1 : 128 ≤ bt s (i + 1) ∧ bt s (i + 1) ≤ 191) (k2 : 128 ≤ bt s (i + 2) ∧ bt s (i + 2) ≤ 191)
    (g1 : 2048 ≤ ((bt s i : Int) % 16 * 64 + (bt s (i + 1) : Int) % 64) * 64 + (bt s (i + 2) : Int) % 64) (g2 : ((bt s i : Int) % 16 * 64 + (bt s (i + 1) : Int) % 64) * 64 + (bt s (i + 2) : Int) % 64 < 55296 ∨ 57343 < ((bt s i : Int) % 16 * 64 + (bt s (i + 1) : Int) % 64) * 64 + (bt s (i + 2) : Int) % 64) :
    ZD s i w (.returned (.tuple #[.int .i32 (((bt s i : Int) % 16 * 64 + (bt s (i + 1) : Int) % 64) * 64 + (bt s (i + 2) : Int) % 64), .int .i64 3, .bool true])) w := by
  have hd := dec3 s i ⟨c1, c2⟩
  rw [cast3] at g1 g2 ⊢
  obtain ⟨q1, q2⟩ := back3 (bt s i) (bt s (i + 1)) (bt s (i + 2) % 64) c1 c2 k1.1 k1.2 (Nat.mod_lt _ (by decide)) (castle 2048 _ g1) (g2.imp (castlt _ 55296) (castlt 57343 _))
  rw [show ct s (i + 1) (lo1 (bt s i)) (hi1 (bt s i)) = true from by simp [ct, q1, q2]; omega, show ct s (i + 2) 128 191 = true from by simp [ct, hl, k2], Bool.and_self, if_pos rfl] at hd
  exact zd_good (w := w) (good_of hd (.inl (by decide))) (by rw [hd]; rfl) (by rw [hd]; rfl)
theorem lt4096 (a b : Nat) : a % 64 * 64 + b % 64 < 4096 := by omega
theorem good4 (s : ByteArray) (i : Nat) (w : World) (_hi : i < s.size) (c1 : 240 ≤ bt s i) (c2 : bt s i ≤ 244) (hl : i + 3 < s.size) (k1 : 128 ≤ bt s (i + 1) ∧ bt s (i + 1) ≤ 191) (k2 : 128 ≤ bt s (i + 2) ∧ bt s (i + 2) ≤ 191) (k3 : 128 ≤ bt s (i + 3) ∧ bt s (i + 3) ≤ 191)
    (g1 : 65536 ≤ (((bt s i : Int) % 8 * 64 + (bt s (i + 1) : Int) % 64) * 64 + (bt s (i + 2) : Int) % 64) * 64 + (bt s (i + 3) : Int) % 64) (g2 : (((bt s i : Int) % 8 * 64 + (bt s (i + 1) : Int) % 64) * 64 + (bt s (i + 2) : Int) % 64) * 64 + (bt s (i + 3) : Int) % 64 ≤ 1114111) :
    ZD s i w (.returned (.tuple #[.int .i32 ((((bt s i : Int) % 8 * 64 + (bt s (i + 1) : Int) % 64) * 64 + (bt s (i + 2) : Int) % 64) * 64 + (bt s (i + 3) : Int) % 64), .int .i64 4, .bool true])) w := by
  have hd := dec4 s i ⟨c1, c2⟩
  rw [cast4] at g1 g2 ⊢
  obtain ⟨q1, q2⟩ := back4 (bt s i) (bt s (i + 1)) (bt s (i + 2) % 64 * 64 + bt s (i + 3) % 64) c1 c2 k1.1 k1.2 (lt4096 _ _) (by rw [← Nat.add_assoc]; exact castle 65536 _ g1) (by rw [← Nat.add_assoc]; exact castle _ 1114111 g2)
  rw [show ct s (i + 1) (lo1 (bt s i)) (hi1 (bt s i)) = true from by simp [ct, q1, q2]; omega, show ct s (i + 2) 128 191 = true from by simp [ct, k2]; omega, show ct s (i + 3) 128 191 = true from by simp [ct, hl, k3], Bool.and_self, Bool.and_self, if_pos rfl] at hd
  exact zd_good (w := w) (good_of hd (.inl (by decide))) (by rw [hd]; rfl) (by rw [hd]; rfl)
section
variable (s : ByteArray) (i : Nat) (w : World) (hi : i < s.size)
include hi
set_option maxRecDepth 20000 in
set_option maxHeartbeats 4000000 in
theorem zd1 (c1 : bt s i < 128) : Calls Try.prog 18 #[.string s, .int .i64 i] w (ZD s i w) := by
  have e := bt_eq s i hi
  have hd := dec1 s i c1
  have hf := zd_good (w := w) (good_of hd (.inr (by omega))) (show (bt s i : Int) = _ from by rw [hd]) (show (1 : Int) = _ from by rw [hd]; rfl)
  replace hf := Lib.hid hf
  clear hd
  go_enter Try.func18, Try.ntmps18
  go_wp2_with fail
  exact bodyPost_ret (v := .tuple #[.int .i32 (bt s i), .int .i64 1, .bool true]) (by simp [results, Try.results18, go_sem]) rfl hf.out
set_option maxRecDepth 20000 in
set_option maxHeartbeats 4000000 in
theorem zd0 (c1 : 128 ≤ bt s i) (c2 : bt s i < 194 ∨ 244 < bt s i) : Calls Try.prog 18 #[.string s, .int .i64 i] w (ZD s i w) := by
  have e := bt_eq s i hi
  have hx := Lib.hid (nb0 c1 c2)
  rcases c2 with c2 | c2
  all_goals
    go_enter Try.func18, Try.ntmps18
    go_wp2_with fail
    exact bodyPost_ret (v := .tuple #[.int .i32 0, .int .i64 1, .bool false]) (by simp [results, Try.results18, go_sem]) rfl (zd_bad hx.out)
end
end Go.Proofs.Ytgeijelkojgapaa.QuoD
