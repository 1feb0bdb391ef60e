/-
  ContainsNonBMPCodePoint: true exactly when some decoded rune is above 65535. Condition: at most 2^20 bytes.
-/
import Derived.Test.YtgdcnkghjphmmaaRRHash
namespace Go.Proofs.YtgdcnkghjphmmaaRR.Bmp
open Go.RowKit Go.Proofs.YtgdcnkghjphmmaaRR.Hash

def nb (s : ByteArray) : Nat → Nat → Bool
  | 0, _ => false
  | g + 1, pos => if pos < s.size then (decide (65535 < (Utf8.decode s pos).1) || nb s g (pos + (Utf8.decode s pos).2)) else false

theorem nb_end (s : ByteArray) (g pos : Nat) (hp : ¬ pos < s.size) : nb s g pos = false := by
  cases g with
  | zero => rfl
  | succ g => simp [nb, hp]

theorem containsStr (s : ByteArray) (w : World) : Calls Try.prog 10 #[.string s] w fun e w' => e = .returned (.bool (nb s s.size 0)) ∧ Below w.heap.size w w' := by
  go_enter Try.func10, Try.ntmps10
  go_wp2_with fail
  go_loopg [] s.size (fun g wr => ∃ pos : Nat, wr = w.iter s pos ∧ nb s g pos = nb s s.size 0 ∧ s.size ≤ pos + g)
  case atStart => exact ⟨0, rfl, rfl, by omega⟩
  case round =>
    obtain ⟨pos, rfl, hx, hg⟩ := hrel
    by_cases hp : pos < s.size
    · have hnx := fun ty => run_next_any (P := Try.prog) w s pos ty hp
      have hw := width_pos s pos hp
      have hle := decode_le s pos
      obtain ⟨g', rfl⟩ : ∃ g', gk = g' + 1 := ⟨gk - 1, by omega⟩
      rw [nb, if_pos hp] at hx
      generalize Utf8.decode s pos = D at hnx hw hle hx
      obtain ⟨c, n⟩ := D
      dsimp only at hnx hw hle hx
      by_cases hc : 65535 < c
      · have hx' : true = nb s s.size 0 := by rw [← hx]; simp [hc]
        replace hx' := Lib.hid hx'
        clear hx
        go_wp2
        go_ret
        exact ⟨by rw [← hx'.out]; rfl, (Below.refl _ _).alloc (Nat.le_refl _) _⟩
      · have hx' : nb s g' (pos + n) = nb s s.size 0 := by rw [← hx]; simp [hc]
        replace hx' := Lib.hid hx'
        clear hx
        go_wp2
        go_roundg g'
        case measure => omega
        case rel => exact ⟨pos + n, rfl, hx'.out, by omega⟩
    · have hnx := fun ty => run_next_end (P := Try.prog) w s pos ty hp
      rw [nb_end s _ pos hp] at hx
      replace hx := Lib.hid hx
      go_wp2
      go_ret
      exact ⟨by rw [← hx.out]; rfl, (Below.refl _ _).alloc (Nat.le_refl _) _⟩
end Go.Proofs.YtgdcnkghjphmmaaRR.Bmp
