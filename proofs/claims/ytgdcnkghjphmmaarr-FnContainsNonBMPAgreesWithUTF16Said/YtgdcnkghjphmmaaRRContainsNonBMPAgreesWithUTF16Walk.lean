/-
  The walk of FnContainsNonBMPAgreesWithUTF16: it returns true for every string. No condition.
-/
import Derived.Test.YtgdcnkghjphmmaaRRBmpWalk
namespace Go.Proofs.YtgdcnkghjphmmaaRR.fnContainsNonBMPAgreesWithUTF16
open Go.RowKit Go.Proofs.YtgdcnkghjphmmaaRR.ToUtf16 Go.Proofs.YtgdcnkghjphmmaaRR.Bmp Go.Proofs.YtgdcnkghjphmmaaRR.BmpWalk

theorem bytes (s : ByteArray) (w : World) (m1 : s.size ≤ maxLen) :
    Calls Try.prog 11 #[.string s] w (SomeBool w) := by
  unfold maxLen at m1
  go_enter Try.func11, Try.ntmps11
  go_wp2
  all_goals
    go_ret
    exact ⟨_, rfl, rfl⟩

theorem walk (s : ByteArray) (m1 : s.size ≤ maxLen) (w : World) :
    Calls Try.prog 4 #[.string s] w fun e w' => e = .returned (.bool true) ∧ Below w.heap.size w w' := by
  have hm1 := m1
  unfold maxLen at hm1
  go_enter Try.func4, Try.ntmps4
  go_wp2_with fail
  go_at_call 11
  refine (bytes _ _ m1).mono ?_
  rintro e w' ⟨r, rfl, rfl⟩
  cases r with
  | false =>
    go_wp2
    go_ret
    exact ⟨rfl, Below.refl _ _⟩
  | true =>
    by_cases big : s.size ≤ 1048576
    · go_wp2_with fail
      go_at_call 10
      refine (containsStr s _).mono ?_
      rintro e w1 ⟨rfl, B1⟩
      go_wp2_with fail
      go_at_call 9
      refine (toUtf16 s big _).mono ?_
      rintro e w2 ⟨rfl, ho, B2⟩
      go_wp2_with fail
      go_at_call 8
      refine (answer s big _ _ ho).mono ?_
      rintro e w3 ⟨rfl, rfl⟩
      clear ho
      have BB := B1.trans (B2.mono B1.size)
      go_wp2_with fail
      go_ret
      exact ⟨by simp, BB⟩
    · go_wp2
      all_goals first | omega | (go_ret; exact ⟨rfl, Below.refl _ _⟩)
end Go.Proofs.YtgdcnkghjphmmaaRR.fnContainsNonBMPAgreesWithUTF16
