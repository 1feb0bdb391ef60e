/-
  The plain law of IsInsideNodeModules: a path is inside exactly when a slash, the twelve letters and a slash (or the end) follow each other; and how that behaves where two paths are joined. No program in sight.
-/
import Derived.Test.YtcijcifhdakhoaaFmtRows
namespace Go.Proofs.YtcijcifhdakhoaaFmt.Ins

def Sl (c : Nat) : Prop := c = 47 ∨ c = 92
instance (c : Nat) : Decidable (Sl c) := by unfold Sl; infer_instance
def NM : List Nat := [110, 111, 100, 101, 95, 109, 111, 100, 117, 108, 101, 115]
theorem nm_plain (k : Nat) (h : k < 12) : ¬ Sl (NM.getD k 0) := by
  match k, h with
  | 0, _ | 1, _ | 2, _ | 3, _ | 4, _ | 5, _ | 6, _ | 7, _ | 8, _ | 9, _ | 10, _ | 11, _ => decide
def Hit (b : Nat → Nat) (n i : Nat) : Prop := i + 13 ≤ n ∧ Sl (b i) ∧ (∀ k, k < 12 → b (i + 1 + k) = NM.getD k 0) ∧ (i + 13 = n ∨ Sl (b (i + 13)))
def Ins (b : Nat → Nat) (n : Nat) : Prop := ∃ i, Hit b n i
section
variable {b : Nat → Nat} {n m l : Nat}
theorem hit_plain {i j : Nat} (h : Hit b n i) (h1 : i < j) (h2 : j < i + 13) : ¬ Sl (b j) := by
  have := h.2.2.1 (j - i - 1) (by omega)
  rw [show i + 1 + (j - i - 1) = j by omega] at this
  rw [this]
  exact nm_plain _ (by omega)
theorem no_slash (h : ∀ j, j < m → ¬ Sl (b j)) : ¬ Ins b m := by
  rintro ⟨i, h1, h2, _⟩
  exact h i (by omega) h2
theorem base_yes (hl : Sl (b l)) (hm : l + 13 = m) (hb : ∀ k, k < 12 → b (l + 1 + k) = NM.getD k 0) : Ins b m := ⟨l, by omega, hl, hb, .inl hm⟩
theorem base_no (hlm : l < m) (hl : Sl (b l)) (hn : ∀ j, l < j → j < m → ¬ Sl (b j)) (hb : ¬ (l + 13 = m ∧ ∀ k, k < 12 → b (l + 1 + k) = NM.getD k 0)) : Ins b m ↔ Ins b l := by
  constructor
  · rintro ⟨i, h⟩
    have h0 := h
    obtain ⟨h1, h2, h3, h4⟩ := h
    have hi : i ≤ l := by
      rcases Nat.lt_or_ge l i with g | g
      · exact absurd h2 (hn i g (by omega))
      · exact g
    rcases Nat.lt_or_ge i l with g | g
    · have hle : i + 13 ≤ l := by
        rcases Nat.lt_or_ge l (i + 13) with k | k
        · exact absurd hl (hit_plain h0 g k)
        · exact k
      refine ⟨i, hle, h2, h3, ?_⟩
      rcases h4 with h4 | h4
      · omega
      · exact .inr h4
    · obtain rfl : i = l := by omega
      rcases h4 with h4 | h4
      · exact absurd ⟨h4, h3⟩ hb
      · rcases Nat.lt_or_ge (i + 13) m with k | k
        · exact absurd h4 (hn _ (by omega) k)
        · exact absurd ⟨by omega, h3⟩ hb
  · rintro ⟨i, h1, h2, h3, h4⟩
    refine ⟨i, by omega, h2, h3, ?_⟩
    rcases h4 with h4 | h4
    · exact .inr (by rw [h4]; exact hl)
    · exact .inr h4
end
/-- Two paths joined by a slash. -/
theorem join (p q t c : Nat → Nat) (np nq : Nat) (h1 : ∀ j, j < np → c j = p j) (h2 : Sl (c np)) (h3 : ∀ j, j < nq → c (np + 1 + j) = q j) (t0 : Sl (t 0)) (t1 : ∀ j, j < nq → t (1 + j) = q j) :
    Ins c (np + 1 + nq) ↔ (Ins p np ∨ Ins t (1 + nq)) := by
  have hct : ∀ j, 0 < j → j < 1 + nq → c (np + j) = t j := fun j g g' => by
    have e1 := h3 (j - 1) (by omega)
    have e2 := t1 (j - 1) (by omega)
    rw [show np + 1 + (j - 1) = np + j by omega] at e1
    rw [show 1 + (j - 1) = j by omega] at e2
    rw [e1, e2]
  constructor
  · rintro ⟨i, h⟩
    have h0 := h
    obtain ⟨a1, a2, a3, a4⟩ := h
    rcases Nat.lt_or_ge i np with g | g
    · left
      have hle : i + 13 ≤ np := by
        rcases Nat.lt_or_ge np (i + 13) with k | k
        · exact absurd h2 (hit_plain h0 g k)
        · exact k
      refine ⟨i, hle, by rw [← h1 i g]; exact a2, fun k hk => by rw [← h1 _ (by omega)]; exact a3 k hk, ?_⟩
      rcases Nat.lt_or_ge (i + 13) np with k | k
      · rcases a4 with a4 | a4
        · omega
        · exact .inr (by rw [← h1 _ k]; exact a4)
      · exact .inl (by omega)
    · right
      refine ⟨i - np, by omega, ?_, fun k hk => ?_, ?_⟩
      · rcases Nat.lt_or_ge np i with k | k
        · rw [← hct _ (by omega) (by omega), show np + (i - np) = i by omega]; exact a2
        · rw [show i - np = 0 by omega]; exact t0
      · rw [← hct _ (by omega) (by omega), show np + (i - np + 1 + k) = i + 1 + k by omega]; exact a3 k hk
      · rcases a4 with a4 | a4
        · exact .inl (by omega)
        · rcases Nat.lt_or_ge (i + 13) (np + 1 + nq) with k | k
          · exact .inr (by rw [← hct _ (by omega) (by omega), show np + (i - np + 13) = i + 13 by omega]; exact a4)
          · exact .inl (by omega)
  · rintro (⟨i, a1, a2, a3, a4⟩ | ⟨i, a1, a2, a3, a4⟩)
    · refine ⟨i, by omega, by rw [h1 i (by omega)]; exact a2, fun k hk => by rw [h1 _ (by omega)]; exact a3 k hk, .inr ?_⟩
      rcases Nat.lt_or_ge (i + 13) np with k | k
      · rcases a4 with a4 | a4
        · omega
        · rw [h1 _ k]; exact a4
      · rw [show i + 13 = np by omega]; exact h2
    · refine ⟨np + i, by omega, ?_, fun k hk => ?_, ?_⟩
      · rcases Nat.lt_or_ge 0 i with k | k
        · rw [hct _ k (by omega)]; exact a2
        · rw [show np + i = np by omega]; exact h2
      · rw [show np + i + 1 + k = np + (i + 1 + k) by omega, hct _ (by omega) (by omega)]; exact a3 k hk
      · rcases a4 with a4 | a4
        · exact .inl (by omega)
        · rcases Nat.lt_or_ge (i + 13) (1 + nq) with k | k
          · exact .inr (by rw [show np + i + 13 = np + (i + 13) by omega, hct _ (by omega) k]; exact a4)
          · exact .inl (by omega)
end Go.Proofs.YtcijcifhdakhoaaFmt.Ins
