/-
  The plain law of the typo detector: rune starts, a rune taken out, what the map of all such keys says. No program in sight.
-/
import Derived.Test.YtgeijelkojgapaaBy
namespace Go.Proofs.Ytgeijelkojgapaa.Ty
open Go.RowKit Go.Lib Go.Proofs.Ytgeijelkojgapaa.U8 Go.Proofs.Ytgeijelkojgapaa.Pct Go.Proofs.Ytgeijelkojgapaa.By

abbrev wd (s : ByteArray) (i : Nat) : Nat := (Utf8.decode s i).2
def del (s : ByteArray) (i : Nat) : ByteArray := s.extract 0 i ++ s.extract (i + wd s i) s.size
/-- Where the t-th rune begins. -/
def ps (s : ByteArray) : Nat → Nat
  | 0 => 0
  | t + 1 => ps s t + wd s (ps s t)
def Start (s : ByteArray) (i : Nat) : Prop := i < s.size ∧ ∃ t, ps s t = i
/-- Every rune is good. -/
def Valid (s : ByteArray) : Prop := ∀ i, Start s i → GoodR s i
theorem wd_pos (s : ByteArray) (i : Nat) (h : i < s.size) : 1 ≤ wd s i := Hash.width_pos s i h
theorem start_zero {s : ByteArray} (h : 0 < s.size) : Start s 0 := ⟨h, 0, rfl⟩
theorem start_next {s : ByteArray} {i : Nat} (h : Start s i) (hi : i + wd s i < s.size) : Start s (i + wd s i) := by
  obtain ⟨_, t, rfl⟩ := h
  exact ⟨hi, t + 1, rfl⟩
theorem ps_ge (s : ByteArray) (t : Nat) : s.size ≤ ps s t ∨ t ≤ ps s t := by
  induction t with
  | zero => exact .inr (Nat.zero_le _)
  | succ t ih =>
    rcases Nat.lt_or_ge (ps s t) s.size with h | h
    · have := wd_pos s _ h
      rcases ih with g | g
      · omega
      · right; show t + 1 ≤ ps s t + wd s (ps s t); omega
    · left; show s.size ≤ ps s t + wd s (ps s t); omega
/-- The bytes of a good rune: its first is no continuation, the others are. -/
theorem good_shape {s : ByteArray} {i : Nat} (hi : i < s.size) (hg : GoodR s i) : i + wd s i ≤ s.size ∧ (bt s i < 128 ∨ 192 ≤ bt s i) ∧ (∀ j, i < j → j < i + wd s i → 128 ≤ bt s j ∧ bt s j ≤ 191) ∧
    wd s i = (if bt s i < 128 then 1 else if bt s i < 224 then 2 else if bt s i < 240 then 3 else 4) := by
  unfold wd
  rcases U8.shape hg with ⟨a, hd⟩ | ⟨a, b, c, d, e, hd⟩ | ⟨a, b, c, d, e, f, g, hd⟩ | ⟨a, b, c, d, e, f, g, k, l, hd⟩
  · rw [hd]
    refine ⟨by show i + 1 ≤ _; omega, .inl a, fun j h1 h2 => ?_, ?_⟩
    · have h2 : j < i + 1 := h2
      omega
    · show 1 = _
      rw [if_pos a]
  · rw [hd]
    refine ⟨by show i + 2 ≤ _; omega, .inr (by omega), fun j h1 h2 => ?_, ?_⟩
    · have h2 : j < i + 2 := h2
      rw [show j = i + 1 by omega]
      exact ⟨d, e⟩
    · show 2 = _
      rw [if_neg (by omega), if_pos (by omega)]
  · have hl := lo_rng (bt s i)
    rw [hd]
    refine ⟨by show i + 3 ≤ _; omega, .inr (by omega), fun j h1 h2 => ?_, ?_⟩
    · have h2 : j < i + 3 := h2
      rcases (show j = i + 1 ∨ j = i + 2 by omega) with rfl | rfl <;> omega
    · show 3 = _
      rw [if_neg (by omega), if_neg (by omega), if_pos (by omega)]
  · have hl := lo_rng (bt s i)
    rw [hd]
    refine ⟨by show i + 4 ≤ _; omega, .inr (by omega), fun j h1 h2 => ?_, ?_⟩
    · have h2 : j < i + 4 := h2
      rcases (show j = i + 1 ∨ j = i + 2 ∨ j = i + 3 by omega) with rfl | rfl | rfl <;> omega
    · show 4 = _
      rw [if_neg (by omega), if_neg (by omega), if_neg (by omega)]
/-- In a valid text a byte that is no continuation starts a rune. -/
theorem start_of_byte {s : ByteArray} (hv : Valid s) (i : Nat) (hi : i < s.size) (hb : bt s i < 128 ∨ 192 ≤ bt s i) : Start s i := by
  have key : ∀ t, ps s t ≤ i → (Start s i ∨ ps s (t + 1) ≤ i) := by
    intro t ht
    have hs : Start s (ps s t) := ⟨by omega, t, rfl⟩
    obtain ⟨_, _, g3, _⟩ := good_shape hs.1 (hv _ hs)
    rcases Nat.lt_or_ge i (ps s (t + 1)) with h | h
    · left
      rcases Nat.lt_or_ge (ps s t) i with h2 | h2
      · have := g3 i h2 h
        omega
      · rw [show i = ps s t by omega]
        exact hs
    · exact .inr h
  have all : ∀ t, Start s i ∨ ps s t ≤ i := by
    intro t
    induction t with
    | zero => exact .inr (Nat.zero_le _)
    | succ t ih =>
      rcases ih with h | h
      · exact .inl h
      · exact key t h
  rcases all s.size with h | h
  · exact h
  · rcases ps_ge s s.size with g | g <;> omega
theorem start_byte {s : ByteArray} (hv : Valid s) {i : Nat} (h : Start s i) : bt s i < 128 ∨ 192 ≤ bt s i := (good_shape h.1 (hv i h)).2.1
/-- key is w with one rune taken out. -/
def Loses (w key : ByteArray) : Prop := ∃ i, Start w i ∧ del w i = key
theorem del_size {w : ByteArray} {i : Nat} (hi : i + wd w i ≤ w.size) : (del w i).size = w.size - wd w i := by
  rw [del, ByteArray.size_append, ext_size w 0 i (Nat.zero_le _) (by omega), ext_size w _ _ hi (Nat.le_refl _)]
  omega
theorem del_left {w : ByteArray} {i j : Nat} (hi : i + wd w i ≤ w.size) (h : j < i) : bt (del w i) j = bt w j := by
  rw [del, bt_app_left _ _ _ (by rw [ext_size w 0 i (Nat.zero_le _) (by omega)]; omega), ext_bt w 0 i j (by omega) (by omega), Nat.zero_add]
theorem del_right {w : ByteArray} {i j : Nat} (hi : i + wd w i ≤ w.size) (h : i + j + wd w i < w.size) : bt (del w i) (i + j) = bt w (i + wd w i + j) := by
  have e : (w.extract 0 i).size = i := by rw [ext_size w 0 i (Nat.zero_le _) (by omega)]; omega
  have h2 : j < (w.extract (i + wd w i) w.size).size := by rw [ext_size w _ _ hi (Nat.le_refl _)]; omega
  have := bt_app_right (w.extract 0 i) (w.extract (i + wd w i) w.size) j h2
  rw [e] at this
  rw [del, this, ext_bt w _ _ j (Nat.le_refl _) (by omega)]
/-- The same by prefix and suffix. -/
theorem del_eq_iff {w key : ByteArray} {i : Nat} (hi : i + wd w i ≤ w.size) : del w i = key ↔ (key.size + wd w i = w.size ∧ (∀ j, j < i → bt key j = bt w j) ∧ ∀ j, i ≤ j → j < key.size → bt key j = bt w (j + wd w i)) := by
  constructor
  · rintro rfl
    rw [del_size hi]
    refine ⟨by omega, fun j h => del_left hi h, fun j h1 h2 => ?_⟩
    have := del_right (w := w) (i := i) (j := j - i) hi (by omega)
    rw [show i + (j - i) = j by omega, show i + wd w i + (j - i) = j + wd w i by omega] at this
    exact this
  · rintro ⟨h1, h2, h3⟩
    refine ba_ext _ _ (by rw [del_size hi]; omega) fun j hj => ?_
    rw [del_size hi] at hj
    rcases Nat.lt_or_ge j i with g | g
    · rw [del_left hi g, h2 j g]
    · have := del_right (w := w) (i := i) (j := j - i) hi (by omega)
      rw [show i + (j - i) = j by omega, show i + wd w i + (j - i) = j + wd w i by omega] at this
      rw [this, h3 j g (by omega)]
end Go.Proofs.Ytgeijelkojgapaa.Ty
