/-
  zzIsOneRuneDeletion says exactly whether a valid word loses one rune to become the key; zzLastWord finds the last such long word. Condition: lengths.
-/
import Derived.Test.YtgeijelkojgapaaTyV
import Derived.BigQuiet
import Derived.BigRegion
import Derived.Deep.QuietTactic
import Derived.Deep.Draws
namespace Go.Proofs.Ytgeijelkojgapaa.Ty
open Go.RowKit Go.Lib Go.ChangeShapes Go.WideShapes Go.ChangeAt Go.Proofs.Ytgeijelkojgapaa.U8 Go.Proofs.Ytgeijelkojgapaa.Pct Go.Proofs.Ytgeijelkojgapaa.By Go.Proofs.Ytgeijelkojgapaa.Ints

theorem belowN {B : Nat} {a w : World} (h : Below B a w) (n : Nat) : Below B a (w.drewN n) := ⟨h.os, h.tape, h.output, h.size, h.block⟩
def Pre (s t : ByteArray) (l : Nat) : Prop := l ≤ t.size ∧ ∀ j, j < l → bt s j = bt t j
def Suf (s t : ByteArray) (r : Nat) : Prop := r ≤ t.size ∧ ∀ j, j < r → bt s (s.size - 1 - j) = bt t (t.size - 1 - j)
def HitI (s t : ByteArray) (k l r i : Nat) : Prop := t.size - r ≤ i ∧ i ≤ l ∧ bt s i / 64 ≠ 2 ∧ wf (bt s i) = k
theorem hit_iff {s t : ByteArray} {k l r : Nat} (hv : Valid s) (hk : s.size = t.size + k) (hk1 : 1 ≤ k) (hl : Pre s t l) (hl2 : l = t.size ∨ bt s l ≠ bt t l) (hr : Suf s t r) (hr2 : r = t.size ∨ bt s (s.size - 1 - r) ≠ bt t (t.size - 1 - r)) :
    (∃ i, HitI s t k l r i) ↔ Loses s t := by
  constructor
  · rintro ⟨i, h1, h2, h3, h4⟩
    have hll := hl.1
    have hi : i < s.size := by omega
    have hb := bt_lt s i
    have hst := start_of_byte hv i hi (by omega)
    obtain ⟨g1, _, _, g4⟩ := good_shape hi (hv i hst)
    have hw : wd s i = k := by rw [g4]; exact h4
    refine ⟨i, hst, (del_eq_iff g1).2 ⟨by omega, fun j hj => (hl.2 j (by omega)).symm, fun j h5 h6 => ?_⟩⟩
    have := hr.2 (t.size - 1 - j) (by omega)
    rw [show s.size - 1 - (t.size - 1 - j) = j + k by omega, show t.size - 1 - (t.size - 1 - j) = j by omega] at this
    rw [hw]
    exact this.symm
  · rintro ⟨i, hst, hd⟩
    obtain ⟨g1, g2, _, g4⟩ := good_shape hst.1 (hv i hst)
    obtain ⟨d1, d2, d3⟩ := (del_eq_iff g1).1 hd
    have hw : wd s i = k := by omega
    refine ⟨i, ?_, ?_, by omega, by rw [← hw, g4]; rfl⟩
    · rcases Nat.lt_or_ge i (t.size - r) with h | h
      · rcases hr2 with h2 | h2
        · omega
        · have := d3 (t.size - 1 - r) (by omega) (by omega)
          rw [hw, show t.size - 1 - r + k = s.size - 1 - r by omega] at this
          exact absurd this.symm h2
      · exact h
    · rcases Nat.lt_or_ge l i with h | h
      · rcases hl2 with h2 | h2
        · omega
        · exact absurd (d2 l h).symm h2
      · exact h
def SaysQ (p : Prop) (w : World) (e : Ending) (w' : World) : Prop := ∃ x : Bool, e = .returned (.bool x) ∧ (x = true ↔ p) ∧ Below w.heap.size w w'
theorem not_loses {s t : ByteArray} (h : (s.size : Int) - (t.size : Int) < 1 ∨ (4 : Int) < (s.size : Int) - (t.size : Int)) (hv : Valid s) : ¬ Loses s t := by
  rintro ⟨i, hst, hd⟩
  obtain ⟨g1, _, _, g4⟩ := good_shape hst.1 (hv i hst)
  obtain ⟨d1, _, _⟩ := (del_eq_iff g1).1 hd
  have : wd s i ≤ 4 ∧ 1 ≤ wd s i := by
    rw [g4]
    split <;> (try split) <;> (try split) <;> omega
  omega
set_option maxRecDepth 1000000 in
set_option maxHeartbeats 8000000 in
theorem oneRune (s t : ByteArray) (w : World) (hv : Valid s) (hs : s.size ≤ 1048576) (ht : t.size ≤ 1048576) : Calls Try.prog 27 #[.string s, .string t] w (SaysQ (Loses s t) w) := by
  by_cases p1 : (s.size : Int) - (t.size : Int) < 1
  · have hf := Lib.hid (not_loses (.inl p1) hv)
    replace hv := Lib.hid hv
    go_enter Try.func27, Try.ntmps27
    go_wp2_with fail
    go_ret
    exact ⟨false, rfl, ⟨fun h => absurd h (by decide), fun h => absurd h hf.out⟩, Below.refl _ _⟩
  by_cases p2 : (4 : Int) < (s.size : Int) - (t.size : Int)
  · have hf := Lib.hid (not_loses (.inr p2) hv)
    replace hv := Lib.hid hv
    go_enter Try.func27, Try.ntmps27
    go_wp2_with fail
    go_ret
    exact ⟨false, rfl, ⟨fun h => absurd h (by decide), fun h => absurd h hf.out⟩, Below.refl _ _⟩
  obtain ⟨k, hk, hk1, hk4⟩ : ∃ k, s.size = t.size + k ∧ 1 ≤ k ∧ k ≤ 4 := ⟨s.size - t.size, by omega, by omega, by omega⟩
  have hkI : (s.size : Int) - (t.size : Int) = (k : Int) := by omega
  replace hv := Lib.hid hv
  replace hk := Lib.hid hk
  go_enter Try.func27, Try.ntmps27
  go_upto_region 4 with fail
  iterate 8 (first | go_skip | go_guarded | go_step | go_upon | go_back)
  go_cut [6] from 20 to 34 (fun v wx => Below w.heap.size w wx ∧ ∃ l : Nat, v = .int .i64 l ∧ Pre s t l ∧ (l = t.size ∨ bt s l ≠ bt t l))
  case first =>
    go_wp2_with fail
    go_loopg [6] t.size (fun g v wr => Below w.heap.size w wr ∧ ∃ l : Nat, v = .int .i64 l ∧ g = t.size - l ∧ Pre s t l)
    case atStart => exact ⟨Below.refl _ _, 0, rfl, rfl, Nat.zero_le _, fun j h => by omega⟩
    case round =>
      obtain ⟨hB, l, rfl, rfl, hP⟩ := hrel
      have hlt := hP.1
      replace hB := Lib.hid hB
      replace hP := Lib.hid hP
      rcases Nat.lt_or_ge l t.size with h | h
      · have g1 : (l : Int) < (t.size : Int) := by omega
        have hls : l < s.size := by have := hk.out; omega
        have g2 : (l : Int) < (s.size : Int) := by omega
        have e1 := bt_eq s l hls
        have e2 := bt_eq t l h
        by_cases he : bt s l = bt t l
        · have hN := Lib.hid (show Pre s t (l + 1) from ⟨h, fun j hj => by
            rcases Nat.lt_or_ge j l with g | g
            · exact hP.out.2 j g
            · rw [show j = l by omega]; exact he⟩)
          rw [he] at e1
          clear he
          go_wp2_with fail
          go_quiet (fail)
          go_wp2_with fail
          go_roundg (t.size - (l + 1))
          case measure => omega
          case rel => exact ⟨belowN hB.out _, l + 1, by simp, rfl, hN.out⟩
        · have hne : ((bt s l : Int) == (bt t l : Int)) = false := by simp; omega
          have he2 := Lib.hid he
          clear he
          go_wp2_with fail
          go_quiet (fail)
          go_wp2_with fail
          go_meet
          exact ⟨belowN hB.out _, l, rfl, hP.out, .inr he2.out⟩
      · have g1 : decide (l < t.size) = false := decide_eq_false (by omega)
        have he : l = t.size := by omega
        replace he := Lib.hid he
        go_wp2_with fail
        go_quiet (fail)
        go_wp2_with fail
        go_meet
        exact ⟨belowN hB.out _, l, rfl, hP.out, .inl he.out⟩
  case rest =>
    obtain ⟨hB0, l, rfl, hL, hL2⟩ := hcut
    replace hB0 := Lib.hid hB0
    have hlt := hL.1
    replace hL := Lib.hid hL
    replace hL2 := Lib.hid hL2
    go_upto_region 7 with fail
    iterate 8 (first | go_skip | go_guarded | go_step | go_upon | go_back)
    go_cut [7] from 35 to 57 (fun v wx => Below w.heap.size w wx ∧ ∃ r : Nat, v = .int .i64 r ∧ Suf s t r ∧ (r = t.size ∨ bt s (s.size - 1 - r) ≠ bt t (t.size - 1 - r)))
    case first =>
      go_wp2_with fail
      go_loopg [7] t.size (fun g v wr => Below w.heap.size w wr ∧ ∃ r : Nat, v = .int .i64 r ∧ g = t.size - r ∧ Suf s t r)
      case atStart => exact ⟨hB0.out, 0, rfl, rfl, Nat.zero_le _, fun j h => by omega⟩
      case round =>
        obtain ⟨hB, r, rfl, rfl, hP⟩ := hrel
        have hrt := hP.1
        replace hB := Lib.hid hB
        replace hP := Lib.hid hP
        rcases Nat.lt_or_ge r t.size with h | h
        · have g1 : (r : Int) < (t.size : Int) := by omega
          have hls : s.size - 1 - r < s.size := by have := hk.out; omega
          have hlt2 : t.size - 1 - r < t.size := by omega
          have e1 := bt_eq s (s.size - 1 - r) hls
          have e2 := bt_eq t (t.size - 1 - r) hlt2
          have i1 : (s.size : Int) - 1 - (r : Int) < (s.size : Int) := by omega
          have i2 : 0 ≤ (s.size : Int) - 1 - (r : Int) := by have := hk.out; omega
          have i3 : ((s.size : Int) - 1 - (r : Int)).toNat = s.size - 1 - r := by have := hk.out; omega
          have i4 : (t.size : Int) - 1 - (r : Int) < (t.size : Int) := by omega
          have i5 : 0 ≤ (t.size : Int) - 1 - (r : Int) := by omega
          have i6 : ((t.size : Int) - 1 - (r : Int)).toNat = t.size - 1 - r := by omega
          by_cases he : bt s (s.size - 1 - r) = bt t (t.size - 1 - r)
          · have hN := Lib.hid (show Suf s t (r + 1) from ⟨h, fun j hj => by
              rcases Nat.lt_or_ge j r with g | g
              · exact hP.out.2 j g
              · rw [show j = r by omega]; exact he⟩)
            rw [he] at e1
            clear he
            generalize bt t (t.size - 1 - r) = x at *
            go_wp2_with fail
            go_quiet (fail)
            go_wp2_with fail
            go_roundg (t.size - (r + 1))
            case measure => omega
            case rel => exact ⟨belowN hB.out _, r + 1, by simp, rfl, hN.out⟩
          · have hne : ((bt s (s.size - 1 - r) : Int) == (bt t (t.size - 1 - r) : Int)) = false := by simp; omega
            have he2 := Lib.hid he
            clear he
            go_wp2_with fail
            go_quiet (fail)
            go_wp2_with fail
            go_meet
            exact ⟨belowN hB.out _, r, rfl, hP.out, .inr he2.out⟩
        · have g1 : decide (r < t.size) = false := decide_eq_false (by omega)
          have he : r = t.size := by omega
          replace he := Lib.hid he
          go_wp2_with fail
          go_quiet (fail)
          go_wp2_with fail
          go_meet
          exact ⟨belowN hB.out _, r, rfl, hP.out, .inl he.out⟩
    case rest =>
      obtain ⟨hB1, r, rfl, hR, hR2⟩ := hcut
      have hrt := hR.1
      have hiff := hit_iff hv.out hk.out hk1 hL.out hL2.out hR hR2
      have hkk := hk.out
      replace hB1 := Lib.hid hB1
      replace hiff := Lib.hid hiff
      replace hkk := Lib.hid hkk
      clear hR hR2 hL hL2 hB0
      go_wp2_with fail
      have hst0 : (t.size : Int) - (r : Int) = ((t.size - r : Nat) : Int) := by omega
      go_loopg [8] (l + 1 - (t.size - r)) (fun g v wr => wr = wc ∧ ∃ i : Nat, t.size - r ≤ i ∧ v = .int .i64 i ∧ g = l + 1 - i ∧ ∀ j, j < i → ¬ HitI s t k l r j)
      case atStart => exact ⟨rfl, t.size - r, Nat.le_refl _, by first | rfl | (congr 1), rfl, fun j hj h => by have := h.1; omega⟩
      case round =>
        replace hst0 := Lib.hid hst0
        obtain ⟨rfl, i, hi0, rfl, rfl, hno⟩ := hrel
        replace hno := Lib.hid hno
        rcases Nat.lt_or_ge l i with h | h
        · have g1 : ¬ (i : Int) ≤ (l : Int) := by omega
          have hf := Lib.hid (show ¬ Loses s t from fun hL => by
            obtain ⟨j, hj⟩ := hiff.out.2 hL
            exact hno.out j (by have := hj.2.1; omega) hj)
          go_wp2_with fail
          go_ret
          exact ⟨false, rfl, ⟨fun h => absurd h (by decide), fun h => absurd h hf.out⟩, hB1.out⟩
        · have g1 : (i : Int) ≤ (l : Int) := by omega
          have his : i < s.size := by have := hkk.out; omega
          have g2 : (i : Int) < (s.size : Int) := by omega
          have e1 := bt_eq s i his
          have hx := bt_lt s i
          have ha := and192 _ hx
          by_cases c1 : bt s i / 64 = 2
          · have hN := Lib.hid (show ∀ j, j < i + 1 → ¬ HitI s t k l r j from fun j hj hh => by
              rcases Nat.lt_or_ge j i with q | q
              · exact hno.out j q hh
              · rw [show j = i by omega] at hh
                exact hh.2.2.1 c1)
            rw [c1] at ha
            clear c1
            go_wp2_with fail
            go_roundg (l + 1 - (i + 1))
            case measure => omega
            case rel => exact ⟨rfl, i + 1, by omega, by simp, rfl, hN.out⟩
          · have hne : ¬ (((bt s i / 64 * 64 : Nat) : Int)) = 128 := by omega
            rw [← ha] at hne
            have hne2 : (bits .and .u8 ((bt s i : Nat) : Int) 192 == 128) = false := by simpa using hne
            by_cases c2 : wf (bt s i) = k
            · have hf := Lib.hid (hiff.out.1 ⟨i, hi0, h, c1, c2⟩)
              have q1 : ((wf (bt s i) : Int) == (k : Int)) = true := by rw [c2]; simp
              clear c1 ha
              replace c2 := Lib.hid c2
              go_wp2_with fail
              go_at_call 23
              refine (runeWidth (bt s i) _).mono ?_
              rintro e w6 ⟨rfl, rfl⟩
              go_wp2_with fail
              go_ret
              exact ⟨true, rfl, ⟨fun _ => hf.out, fun _ => rfl⟩, hB1.out⟩
            · have hN := Lib.hid (show ∀ j, j < i + 1 → ¬ HitI s t k l r j from fun j hj hh => by
                rcases Nat.lt_or_ge j i with q | q
                · exact hno.out j q hh
                · rw [show j = i by omega] at hh
                  exact c2 hh.2.2.2)
              have q1 : ((wf (bt s i) : Int) == (k : Int)) = false := by simp; omega
              clear c1 ha
              replace c2 := Lib.hid c2
              go_wp2_with fail
              go_at_call 23
              refine (runeWidth (bt s i) _).mono ?_
              rintro e w6 ⟨rfl, rfl⟩
              go_wp2_with fail
              go_roundg (l + 1 - (i + 1))
              case measure => omega
              case rel => exact ⟨rfl, i + 1, by omega, by simp, rfl, hN.out⟩
end Go.Proofs.Ytgeijelkojgapaa.Ty
