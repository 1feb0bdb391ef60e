/-
  HashCombine and HashCombineString: the hash is a fold over the decoded runes. No condition beyond a string's own length.
-/
import Derived.Test.YtgdcnkghjphmmaaRRRows
import Derived.WalkKit
import Derived.Below
import Derived.WalkLawsBesides
import Derived.WalkSpells
import Derived.Lib.Hide
import Derived.Deep.LoopGhost
import Derived.Laws.RangeAny
namespace Go.Proofs.YtgdcnkghjphmmaaRR.Hash
open Go.RowKit

def hc (a b : Int) : Int := bits .xor .u32 a ((b + 2654435769 + a * 64 + a / 4) % 4294967296)

theorem combine (a b : Int) (w : World) : Calls Try.prog 17 #[.int .u32 a, .int .u32 b] w fun e w' => e = .returned (.int .u32 (hc a b)) ∧ w = w' := by
  go_enter Try.func17, Try.ntmps17
  go_wp2
  go_ret
  exact ⟨rfl, rfl⟩

/-- The fold, with fuel. -/
def hgo (s : ByteArray) : Nat → Nat → Int → Int
  | 0, _, h => h
  | fuel + 1, pos, h => if pos < s.size then hgo s fuel (pos + (Utf8.decode s pos).2) (hc h (Utf8.decode s pos).1) else h

def hashOf (a : Int) (s : ByteArray) : Int := hgo s s.size 0 (hc a s.size)

theorem hgo_end (s : ByteArray) (g pos : Nat) (h : Int) (hp : ¬ pos < s.size) : hgo s g pos h = h := by
  cases g with
  | zero => rfl
  | succ g => simp [hgo, hp]

theorem width_pos (s : ByteArray) (pos : Nat) (h : pos < s.size) : 1 ≤ (Utf8.decode s pos).2 := by
  by_cases ha : (s[pos]'h).toNat < 128
  · rw [decode_ascii s pos h ha]; exact Nat.le_refl _
  · exact (decode_high s pos h (by omega)).2

theorem hashStr (a : Int) (s : ByteArray) (hs : s.size ≤ 1048576) (w : World) : Calls Try.prog 16 #[.int .u32 a, .string s] w fun e w' => e = .returned (.int .u32 (hashOf a s)) ∧ Below w.heap.size w w' := by
  go_enter Try.func16, Try.ntmps16
  go_wp2_with fail
  go_at_call 17
  refine (combine _ _ _).mono ?_
  rintro e w' ⟨rfl, rfl⟩
  go_wp2_with fail
  go_loopg [0] s.size (fun g h wr => ∃ pos : Nat, ∃ x : Int, wr = w.iter s pos ∧ h = .int .u32 x ∧ hgo s g pos x = hashOf a s ∧ s.size ≤ pos + g)
  case atStart => exact ⟨0, _, rfl, rfl, rfl, by omega⟩
  case round =>
    obtain ⟨pos, x, rfl, rfl, hx, hg⟩ := hrel
    by_cases hp : pos < s.size
    · have hnx := fun ty => run_next_any (P := Try.prog) w s pos ty hp
      have hw := width_pos s pos hp
      have hle := decode_le s pos
      obtain ⟨g', rfl⟩ : ∃ g', gk = g' + 1 := ⟨gk - 1, by omega⟩
      rw [hgo, if_pos hp] at hx
      generalize Utf8.decode s pos = D at hnx hw hle hx
      obtain ⟨c, n⟩ := D
      dsimp only at hnx hw hle hx
      replace hx := Lib.hid hx
      go_wp2_with fail
      go_at_call 17
      refine (combine _ _ _).mono ?_
      rintro e w' ⟨rfl, rfl⟩
      go_wp2_with fail
      go_roundg g'
      case measure => omega
      case rel => exact ⟨pos + n, _, rfl, rfl, hx.out, by omega⟩
    · have hnx := fun ty => run_next_end (P := Try.prog) w s pos ty hp
      rw [hgo_end s _ pos x hp] at hx
      go_wp2
      go_ret
      exact ⟨by rw [← hx]; rfl, (Below.refl _ _).alloc (Nat.le_refl _) _⟩
end Go.Proofs.YtgdcnkghjphmmaaRR.Hash
