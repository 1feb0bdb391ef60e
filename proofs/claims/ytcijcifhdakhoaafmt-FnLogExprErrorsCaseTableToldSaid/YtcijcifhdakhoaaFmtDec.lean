/-
  What a decoded rune is: within the string; above 65535 only with width four; never a surrogate. No condition.
-/
import Derived.Test.YtcijcifhdakhoaaFmtHash
namespace Go.Proofs.YtcijcifhdakhoaaFmt.Dec
open Go.RowKit Go.Proofs.YtcijcifhdakhoaaFmt.Hash

theorem dec_facts (s : ByteArray) (pos : Nat) (h : pos < s.size) :
    pos + (Utf8.decode s pos).2 ≤ s.size ∧ (65535 < (Utf8.decode s pos).1 → (Utf8.decode s pos).2 = 4 ∧ (Utf8.decode s pos).1 ≤ 1114111) ∧ ((Utf8.decode s pos).1 < 55296 ∨ 57343 < (Utf8.decode s pos).1) := by
  have hb : ∀ k, (s.get! (pos + k)).toNat < 256 := fun k => (s.get! (pos + k)).toNat_lt
  have h0 := hb 0; have h1 := hb 1; have h2 := hb 2; have h3 := hb 3
  unfold Utf8.decode
  dsimp only
  simp only [Nat.add_zero] at *
  split
  · simp only []; omega
  · split
    · rename_i hc
      simp only [Bool.and_eq_true, decide_eq_true_eq, beq_iff_eq] at hc
      split
      · simp only []; omega
      · simp only [Utf8.runeError]; omega
    · split
      · rename_i hc
        simp only [Bool.and_eq_true, decide_eq_true_eq, beq_iff_eq] at hc
        split
        · rename_i hv
          simp only [Utf8.valid, Bool.and_eq_true, Bool.or_eq_true, decide_eq_true_eq] at hv
          simp only []; omega
        · simp only [Utf8.runeError]; omega
      · split
        · rename_i hc
          simp only [Bool.and_eq_true, decide_eq_true_eq, beq_iff_eq] at hc
          split
          · rename_i hv
            simp only [Utf8.valid, Bool.and_eq_true, Bool.or_eq_true, decide_eq_true_eq] at hv
            refine ⟨by dsimp only; omega, fun _ => ⟨rfl, by dsimp only; omega⟩, ?_⟩
            dsimp only
            right
            omega
          · simp only [Utf8.runeError]; omega
        · simp only [Utf8.runeError]; omega
end Go.Proofs.YtcijcifhdakhoaaFmt.Dec
