/-
  The typo law's small functions: rune widths, the size checks, the copy of a list of strings. Condition: what a list of strings says of itself.
-/
import Derived.Test.YtgeijelkojgapaaTyA
import Derived.Test.YtgeijelkojgapaaStrs
import Derived.LoopN
import Derived.Deep.LoopGhost
import Derived.Lib.Hide
namespace Go.Proofs.Ytgeijelkojgapaa.Ty
open Go.RowKit Go.Lib Go.ChangeShapes Go.WideShapes Go.ChangeAt Go.Proofs.Ytgeijelkojgapaa.U8 Go.Proofs.Ytgeijelkojgapaa.Pct Go.Proofs.Ytgeijelkojgapaa.By Go.Proofs.Ytgeijelkojgapaa.Ints

def wf (b : Nat) : Nat := if b < 128 then 1 else if b < 224 then 2 else if b < 240 then 3 else 4
def GivesN (x : Nat) (w : World) (e : Ending) (w' : World) : Prop := e = .returned (.int .i64 x) ∧ w' = w
theorem givesN {x : Nat} {y : Int} {w : World} (h : y = (x : Int)) : GivesN x w (.returned (.int .i64 y)) w := ⟨by rw [h], rfl⟩
set_option maxRecDepth 20000 in
theorem runeWidth (b : Nat) (w : World) : Calls Try.prog 23 #[.int .u8 b] w (GivesN (wf b) w) := by
  go_enter Try.func23, Try.ntmps23
  go_wp2_with fail
  all_goals
    go_ret
    refine givesN ?_
    unfold wf
    split <;> (try split) <;> (try split) <;> omega
/-- RuneLen of a scalar value. -/
def rl (c : Nat) : Nat := if c ≤ 127 then 1 else if c ≤ 2047 then 2 else if c ≤ 65535 then 3 else 4
set_option maxRecDepth 20000 in
theorem runeLen (c : Nat) (hc : c ≤ 1114111) (hs : c < 55296 ∨ 57343 < c) (w : World) : Calls Try.prog 24 #[.int .i32 c] w (GivesN (rl c) w) := by
  go_enter Try.func24, Try.ntmps24
  go_wp2_with fail
  all_goals first
    | (exfalso; omega)
    | (go_ret; refine givesN ?_; unfold rl; split <;> (try split) <;> (try split) <;> omega)
theorem v3_rng {s : ByteArray} {i : Nat} (h1 : 224 ≤ bt s i) (h2 : bt s i ≤ 239) (h3 : lo1 (bt s i) ≤ bt s (i + 1)) (h4 : bt s (i + 1) ≤ hi1 (bt s i)) : 2048 ≤ v3 s i ∧ v3 s i ≤ 65535 ∧ (v3 s i < 55296 ∨ 57343 < v3 s i) := by
  unfold v3
  have hc : bt s (i + 2) % 64 < 64 := Nat.mod_lt _ (by decide)
  generalize bt s (i + 2) % 64 = z at *
  generalize bt s (i + 1) = c at *
  generalize bt s i = b at *
  unfold lo1 hi1 at *
  split at h3 <;> (try split at h3) <;> split at h4 <;> (try split at h4) <;> omega
theorem v4_rng {s : ByteArray} {i : Nat} (h1 : 240 ≤ bt s i) (h2 : bt s i ≤ 244) (h3 : lo1 (bt s i) ≤ bt s (i + 1)) (h4 : bt s (i + 1) ≤ hi1 (bt s i)) : 65536 ≤ v4 s i ∧ v4 s i ≤ 1114111 := by
  unfold v4
  have hc : bt s (i + 2) % 64 < 64 := Nat.mod_lt _ (by decide)
  have hd : bt s (i + 3) % 64 < 64 := Nat.mod_lt _ (by decide)
  generalize bt s (i + 2) % 64 = z at *
  generalize bt s (i + 3) % 64 = y at *
  generalize bt s (i + 1) = c at *
  generalize bt s i = b at *
  unfold lo1 hi1 at *
  split at h3 <;> (try split at h3) <;> split at h4 <;> (try split at h4) <;> omega
set_option maxRecDepth 100000 in
theorem rl_good {s : ByteArray} {i : Nat} (hg : GoodR s i) : rl (Utf8.decode s i).1 = wd s i ∧ (Utf8.decode s i).1 ≤ 1114111 ∧ ((Utf8.decode s i).1 < 55296 ∨ 57343 < (Utf8.decode s i).1) := by
  unfold wd rl
  rcases U8.shape hg with ⟨a, hd⟩ | ⟨a, b, c, d, e, hd⟩ | ⟨a, b, c, d, e, f, g, hd⟩ | ⟨a, b, c, d, e, f, g, k, l, hd⟩
  · rw [hd]
    refine ⟨?_, by show bt s i ≤ _; omega, .inl (by show bt s i < _; omega)⟩
    show (if bt s i ≤ 127 then 1 else _) = 1
    rw [if_pos (by omega)]
  · rw [hd]
    generalize hx : bt s i % 32 * 64 + bt s (i + 1) % 64 = x
    have h1 : 128 ≤ x ∧ x ≤ 2047 := by omega
    refine ⟨?_, by show x ≤ _; omega, .inl (by show x < _; omega)⟩
    show (if x ≤ 127 then 1 else if x ≤ 2047 then 2 else _) = 2
    rw [if_neg (by omega), if_pos (by omega)]
  · obtain ⟨h1, h2, h3⟩ := v3_rng a b d e
    rw [hd]
    generalize v3 s i = x at *
    refine ⟨?_, by show x ≤ _; omega, h3⟩
    show (if x ≤ 127 then 1 else if x ≤ 2047 then 2 else if x ≤ 65535 then 3 else _) = 3
    rw [if_neg (by omega), if_neg (by omega), if_pos (by omega)]
  · obtain ⟨h1, h2⟩ := v4_rng a b d e
    rw [hd]
    generalize v4 s i = x at *
    refine ⟨?_, by show x ≤ _; omega, .inr (by show 57343 < x; omega)⟩
    show (if x ≤ 127 then 1 else if x ≤ 2047 then 2 else if x ≤ 65535 then 3 else 4) = 4
    rw [if_neg (by omega), if_neg (by omega), if_neg (by omega)]
def SomeBl (p : Prop) (w : World) (e : Ending) (w' : World) : Prop := ∃ x : Bool, e = .returned (.bool x) ∧ (x = true → p) ∧ w' = w
set_option maxRecDepth 20000 in
set_option maxHeartbeats 2000000 in
theorem bytes4 (o : Option Addr) (n cap : Nat) (f : Nat → ByteArray) (t : ByteArray) (w : World) (hn : n ≤ maxLen) (ht : t.size ≤ maxLen) (hI : StrsAt w o n f) (hs : ∀ i, i < n → (f i).size ≤ maxLen) :
    Calls Try.prog 10 #[.slice o n cap, .string t] w (SomeBl (n ≤ 1048576 ∧ t.size ≤ 1048576 ∧ ∀ i, i < n → (f i).size ≤ 1048576) w) := by
  unfold maxLen at hn ht
  by_cases p2 : (1048576 : Int) < (n : Int)
  · go_enter Try.func10, Try.ntmps10
    go_wp2_with fail
    go_ret
    exact ⟨_, rfl, fun h => absurd h (by decide), rfl⟩
  go_enter Try.func10, Try.ntmps10
  go_wp2_with fail
  go_loopg [5, 6] n (fun gk t i wr => ∃ r : Nat, r ≤ n ∧ gk = n - r ∧ i = .int .i64 r ∧ (∃ x : Int, t = .int .i64 x ∧ 0 ≤ x ∧ x ≤ 1048576) ∧ wr = w ∧ ∀ j, j < r → (f j).size ≤ 1048576)
  case atStart => exact ⟨0, Nat.zero_le _, rfl, rfl, ⟨_, rfl, by omega, by omega⟩, rfl, fun j h => by omega⟩
  case round =>
    obtain ⟨r, hr, rfl, rfl, ⟨x, rfl, hx0, hx1⟩, rfl, hj⟩ := hrel
    replace hj := Lib.hid hj
    rcases Nat.lt_or_ge r n with hlt | hge
    · rcases hI with h0 | ⟨bb, off, he, hbb, hc⟩
      · omega
      · subst he
        have g2 := hc r hlt
        have hsz := hs r hlt
        unfold maxLen at hsz
        replace hs := Lib.hid hs
        clear hc
        by_cases p4 : (1048576 : Int) < ((f r).size : Int)
        · go_wp2_with fail
          go_ret
          exact ⟨_, rfl, fun h => absurd h (by decide), rfl⟩
        by_cases p5 : (1048576 : Int) < x + ((f r).size : Int)
        · go_wp2_with fail
          go_ret
          exact ⟨_, rfl, fun h => absurd h (by decide), rfl⟩
        · go_wp2_with fail
          go_roundg (n - (r + 1))
          case measure => omega
          case rel =>
            refine ⟨r + 1, by omega, rfl, rfl, ⟨_, rfl, by omega, by omega⟩, rfl, fun j h => ?_⟩
            rcases Nat.lt_or_ge j r with h2 | h2
            · exact hj.out j h2
            · rw [show j = r by omega]; omega
    · have hrn : n = r := by omega
      subst hrn
      replace hI := Lib.hid hI
      replace hs := Lib.hid hs
      by_cases p6 : (1048576 : Int) < (t.size : Int)
      · go_wp2_with fail
        go_ret
        exact ⟨_, rfl, fun h => absurd h (by decide), rfl⟩
      by_cases p7 : (1048576 : Int) < x + (t.size : Int)
      · go_wp2_with fail
        go_ret
        exact ⟨_, rfl, fun h => absurd h (by decide), rfl⟩
      go_wp2_with fail
      go_ret
      exact ⟨_, rfl, fun _ => ⟨by omega, by omega, hj.out⟩, rfl⟩
set_option maxRecDepth 20000 in
set_option maxHeartbeats 2000000 in
theorem sizeOK (o : Option Addr) (n cap : Nat) (f : Nat → ByteArray) (t : ByteArray) (w : World) (hn : n ≤ 1048576) (ht : t.size ≤ 1048576) (hI : StrsAt w o n f) (hs : ∀ i, i < n → (f i).size ≤ 1048576) :
    Calls Try.prog 11 #[.slice o n cap, .string t] w (SomeBl (n ≤ 65536 ∧ t.size ≤ 4096) w) := by
  by_cases p1 : (65536 : Int) < (n : Int)
  · go_enter Try.func11, Try.ntmps11
    go_wp2_with fail
    go_ret
    exact ⟨_, rfl, fun h => absurd h (by decide), rfl⟩
  by_cases p2 : (4096 : Int) < (t.size : Int)
  · go_enter Try.func11, Try.ntmps11
    go_wp2_with fail
    go_ret
    exact ⟨_, rfl, fun h => absurd h (by decide), rfl⟩
  go_enter Try.func11, Try.ntmps11
  go_wp2_with fail
  go_loopg [5, 6] n (fun gk t i wr => ∃ r : Nat, r ≤ n ∧ gk = n - r ∧ i = .int .i64 r ∧ (∃ x : Int, t = .int .i64 x ∧ 0 ≤ x ∧ x ≤ 10485760) ∧ wr = w)
  case atStart => exact ⟨0, Nat.zero_le _, rfl, rfl, ⟨_, rfl, by omega, by omega⟩, rfl⟩
  case round =>
    obtain ⟨r, hr, rfl, rfl, ⟨x, rfl, hx0, hx1⟩, rfl⟩ := hrel
    rcases Nat.lt_or_ge r n with hlt | hge
    · rcases hI with h0 | ⟨bb, off, he, hbb, hc⟩
      · omega
      · subst he
        have g2 := hc r hlt
        have hsz := hs r hlt
        replace hs := Lib.hid hs
        clear hc
        by_cases p5 : (1048576 : Int) < x + ((f r).size : Int)
        · go_wp2_with fail
          go_ret
          exact ⟨_, rfl, fun h => absurd h (by decide), rfl⟩
        · go_wp2_with fail
          go_roundg (n - (r + 1))
          case measure => omega
          case rel => exact ⟨r + 1, by omega, rfl, rfl, ⟨_, rfl, by omega, by omega⟩, rfl⟩
    · have hrn : n = r := by omega
      subst hrn
      replace hI := Lib.hid hI
      replace hs := Lib.hid hs
      go_wp2_with fail
      go_ret
      exact ⟨_, rfl, fun _ => ⟨by omega, by omega⟩, rfl⟩
set_option maxRecDepth 20000 in
set_option maxHeartbeats 2000000 in
theorem unfoldOK (o : Option Addr) (n cap : Nat) (f : Nat → ByteArray) (w : World) (hn : n ≤ 65536) (hI : StrsAt w o n f) (hs : ∀ i, i < n → (f i).size ≤ 1048576) :
    Calls Try.prog 12 #[.slice o n cap] w (SomeBl True w) := by
  go_enter Try.func12, Try.ntmps12
  go_wp2_with fail
  go_loopg [3, 4] n (fun gk t i wr => ∃ r : Nat, r ≤ n ∧ gk = n - r ∧ i = .int .i64 r ∧ (∃ x : Int, t = .int .i64 x ∧ 0 ≤ x ∧ x ≤ 67108864) ∧ wr = w)
  case atStart => exact ⟨0, Nat.zero_le _, rfl, rfl, ⟨_, rfl, by omega, by omega⟩, rfl⟩
  case round =>
    obtain ⟨r, hr, rfl, rfl, ⟨x, rfl, hx0, hx1⟩, rfl⟩ := hrel
    rcases Nat.lt_or_ge r n with hlt | hge
    · rcases hI with h0 | ⟨bb, off, he, hbb, hc⟩
      · omega
      · subst he
        have g2 := hc r hlt
        have hsz := hs r hlt
        replace hs := Lib.hid hs
        clear hc
        by_cases p3 : ((f r).size : Int) ≤ 3
        · go_wp2_with fail
          go_roundg (n - (r + 1))
          case measure => omega
          case rel => exact ⟨r + 1, by omega, rfl, rfl, ⟨_, rfl, by omega, by omega⟩, rfl⟩
        by_cases p4 : (8192 : Int) < ((f r).size : Int)
        · go_wp2_with fail
          go_ret
          exact ⟨_, rfl, fun _ => trivial, rfl⟩
        obtain ⟨y, hy⟩ : ∃ y : Int, ((f r).size : Int) * ((f r).size : Int) = y := ⟨_, rfl⟩
        have hy0 : 0 ≤ y := by rw [← hy]; exact Int.mul_nonneg (by omega) (by omega)
        have hy1 : y ≤ 67108864 := by
          rw [← hy]
          exact Int.le_trans (Int.mul_le_mul (c := 8192) (d := 8192) (by omega) (by omega) (by omega) (by omega)) (by decide)
        by_cases p5 : (67108864 : Int) < x + y
        · go_wp2_with fail
          go_ret
          exact ⟨_, rfl, fun _ => trivial, rfl⟩
        · go_wp2_with fail
          go_roundg (n - (r + 1))
          case measure => omega
          case rel => exact ⟨r + 1, by omega, rfl, rfl, ⟨_, rfl, by omega, by omega⟩, rfl⟩
    · have hrn : n = r := by omega
      subst hrn
      replace hI := Lib.hid hI
      replace hs := Lib.hid hs
      go_wp2_with fail
      go_ret
      exact ⟨_, rfl, fun _ => trivial, rfl⟩
end Go.Proofs.Ytgeijelkojgapaa.Ty
