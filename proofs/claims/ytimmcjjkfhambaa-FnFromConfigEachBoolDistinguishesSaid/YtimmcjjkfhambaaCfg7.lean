/-
  isSameRegexp, StringArraysEqual, jsxExprsEqual on equal arguments. Condition: at most 65536 labels.
-/
import Derived.Test.YtimmcjjkfhambaaCfg6
import Derived.Test.YtimmcjjkfhambaaBools
namespace Go.Proofs.Ytimmcjjkfhambaa.Cfg
open Go.RowKit Go.ChangeShapes Go.WideShapes Go.ChangeAt Go.Proofs.Ytimmcjjkfhambaa.Ints
theorem strRx (M : Nat) (w : World) (h : w.cell? ⟨M, 0, none⟩ = some (.string ⟨#[]⟩)) : Calls Try.prog 17 #[.pointer (some ⟨M, 0, none⟩)] w fun e w' => e = .returned (.string ⟨#[]⟩) ∧ w' = w := by
  go_enter Try.func17, Try.ntmps17
  go_wp2
  go_ret
  exact ⟨rfl, rfl⟩
theorem same (B B' : Nat) (b : Bool) (m m' : Option Addr) (w : World) (h : Rgx B w b m) (h' : Rgx B' w b m') : Calls Try.prog 14 #[.pointer m, .pointer m'] w fun e w' => e = .returned (.bool true) ∧ w' = w := by
  rcases h with ⟨rfl, rfl⟩ | ⟨rfl, M, rfl, _, c⟩
  · rcases h' with ⟨_, rfl⟩ | ⟨h, _⟩
    · go_enter Try.func14, Try.ntmps14
      go_wp2
      go_ret
      exact ⟨rfl, rfl⟩
    · cases h
  · rcases h' with ⟨h, _⟩ | ⟨_, M', rfl, _, c'⟩
    · cases h
    · go_enter Try.func14, Try.ntmps14
      go_wp2_with (first | (go_at_call 17; refine (strRx M _ (by assumption)).mono ?_; rintro e w' ⟨rfl, rfl⟩) | (go_at_call 17; refine (strRx M' _ (by assumption)).mono ?_; rintro e w' ⟨rfl, rfl⟩))
      all_goals
        go_ret
        exact ⟨rfl, rfl⟩
theorem strs (o o' : Option Addr) (n c c' : Nat) (f : Nat → ByteArray) (w : World) (hn : n ≤ 65536) (h : StrsAt w o n f) (h' : StrsAt w o' n f) : Calls Try.prog 15 #[.slice o n c, .slice o' n c'] w fun e w' => e = .returned (.bool true) ∧ w' = w := by
  go_enter Try.func15, Try.ntmps15
  go_wp2
  go_loopg [14] n (fun g i wr => wr = w ∧ ∃ r : Nat, r ≤ n ∧ g = n - r ∧ i = .int .i64 r)
  case atStart => exact ⟨rfl, 0, Nat.zero_le _, rfl, rfl⟩
  case round =>
    obtain ⟨rfl, r, hr, rfl, rfl⟩ := hrel
    rcases Nat.lt_or_ge r n with hlt | hge
    · rcases h with h0 | ⟨b, off, he, hb, hc⟩
      · omega
      rcases h' with h0' | ⟨b', off', he', hb', hc'⟩
      · omega
      cases he
      cases he'
      have g1 := hc r hlt
      have g2 := hc' r hlt
      clear hc hc'
      go_wp2
      go_roundg (n - (r + 1))
      case measure => omega
      case rel => exact ⟨rfl, r + 1, by omega, rfl, rfl⟩
    · have hrn : r = n := by omega
      subst hrn
      clear h h'
      go_wp2
      go_ret
      exact ⟨rfl, rfl⟩
def Yes (w : World) (e : Ending) (w' : World) : Prop := e = .returned (.bool true) ∧ Below w.heap.size w w'
theorem jsxEq (w : World) : Calls Try.prog 16 #[.agg #[.nilIface, .slice none 0 0, .int .u32 0], .agg #[.nilIface, .slice none 0 0, .int .u32 0]] w (Yes w) := by
  have hb : Below w.heap.size w ((w.alloc (.cells #[.nilIface, .slice none 0 0, .int .u32 0] 38 (0, 0))).alloc (.cells #[.nilIface, .slice none 0 0, .int .u32 0] 38 (0, 0))) := ((Below.refl _ _).alloc (Nat.le_refl _) _).alloc (by simp) _
  replace hb := Lib.hid hb
  go_enter Try.func16, Try.ntmps16
  go_wp2_with (go_at_call 15; refine (strs none none 0 0 0 (fun _ => ⟨#[]⟩) _ (by omega) (.inl rfl) (.inl rfl)).mono ?_; rintro e w' ⟨rfl, rfl⟩)
  all_goals
    go_ret
    exact ⟨rfl, hb.out⟩
end Go.Proofs.Ytimmcjjkfhambaa.Cfg
