/-
  The laws' helpers: zzTooBig bounds the script; what a script of pieces makes of a joiner. No condition beyond the law's own.
-/
import Derived.Test.YtolfajalkbnnoaaJoin5
namespace Go.Proofs.Ytolfajalkbnnoaa.Join
open Go.RowKit Go.ChangeShapes Go.WideShapes Go.ChangeAt Go.Proofs.Ytolfajalkbnnoaa.Ints

def tot (f : Nat → ByteArray) : Nat → Nat
  | 0 => 0
  | r + 1 => tot f r + (f r).size
/-- What a script makes: the strings, the byte items, the length, the last byte. -/
structure Sc where
  S : List (ByteArray × Nat)
  T : List (List UInt8 × Nat)
  L : Nat
  c : Int
def Sc.step (x : Sc) (s : ByteArray) (k : Bool) : Sc := if k then ⟨x.S, x.T ++ [(s.data.toList, x.L)], x.L + s.size, lastV s.data.toList x.c⟩ else ⟨x.S ++ [(s, x.L)], x.T, x.L + s.size, lastV s.data.toList x.c⟩
def scr (f : Nat → ByteArray) (k : Nat → Bool) : Nat → Sc
  | 0 => ⟨[], [], 0, 0⟩
  | r + 1 => (scr f k r).step (f r) (k r)
theorem scr_L (f : Nat → ByteArray) (k : Nat → Bool) : ∀ r, (scr f k r).L = tot f r
  | 0 => rfl
  | r + 1 => by
    simp only [scr, Sc.step, tot]
    split <;> simp [scr_L f k r]
def Verd (w : World) (p : Prop) (e : Ending) (w' : World) : Prop := ∃ b, e = .returned (.bool b) ∧ w = w' ∧ (b = false → p)
theorem tooBig (o o2 : Option Addr) (n m cap cap2 : Nat) (f : Nat → ByteArray) (w : World) (hI : StrsAt w o n f) (hf : ∀ i, i < n → (f i).size ≤ maxLen) (hn0 : n ≤ maxLen) (hm0 : m ≤ maxLen) :
    Calls Try.prog 16 #[.slice o n cap, .slice o2 m cap2, .int .i64 1048576] w (Verd w (n ≤ 65536 ∧ m ≤ 65536 ∧ m + 16 * n + tot f n ≤ 1048576)) := by
  have hm1 : maxLen = 9223372036854775807 := rfl
  rw [hm1] at hf hn0 hm0
  by_cases hn : 65536 < n
  · go_enter Try.func16, Try.ntmps16
    go_wp2_with fail
    go_ret
    exact ⟨true, rfl, rfl, fun h => by cases h⟩
  by_cases hm : 65536 < m
  · go_enter Try.func16, Try.ntmps16
    go_wp2_with fail
    go_ret
    exact ⟨true, rfl, rfl, fun h => by cases h⟩
  by_cases hs : 1048576 < m + 16 * n
  · go_enter Try.func16, Try.ntmps16
    go_wp2_with fail
    go_ret
    exact ⟨true, rfl, rfl, fun h => by cases h⟩
  go_enter Try.func16, Try.ntmps16
  go_wp2_with fail
  go_loopg [7, 8] n (fun gk t i wr => w = wr ∧ ∃ r T : Nat, r ≤ n ∧ gk = n - r ∧ i = .int .i64 r ∧ t = .int .i64 T ∧ T = m + 16 * n + tot f r ∧ T ≤ 1048576)
  case atStart => exact ⟨rfl, 0, m + 16 * n, Nat.zero_le _, rfl, rfl, by simp, rfl, by omega⟩
  case round =>
    obtain ⟨rfl, r, T, hr, rfl, rfl, rfl, hT, hTl⟩ := hrel
    rcases Nat.lt_or_ge r n with hlt | hge
    · have hA := hI
      rcases hA with h0 | ⟨b, off, rfl, _, hc⟩
      · omega
      have g1 := hc r hlt
      have hfr := hf r hlt
      have hsucc : tot f (r + 1) = tot f r + (f r).size := rfl
      clear hc
      by_cases h1 : 1048576 < (f r).size
      · go_wp2_with fail
        go_ret
        exact ⟨true, rfl, rfl, fun h => by cases h⟩
      by_cases h2 : 1048576 < T + (f r).size
      · go_wp2_with fail
        go_ret
        exact ⟨true, rfl, rfl, fun h => by cases h⟩
      replace hsucc := Lib.hid hsucc
      replace hT := Lib.hid hT
      go_wp2_with fail
      go_roundg (n - (r + 1))
      case measure => omega
      case rel => exact ⟨rfl, r + 1, T + (f r).size, by omega, rfl, rfl, by simp, by rw [hsucc.out, hT.out]; omega, by omega⟩
    · have hrn : r = n := by omega
      subst hrn
      replace hT := Lib.hid hT
      go_wp2_with fail
      go_ret
      exact ⟨false, rfl, rfl, fun _ => ⟨by omega, by omega, by rw [← hT.out]; exact hTl⟩⟩
end Go.Proofs.Ytolfajalkbnnoaa.Join
