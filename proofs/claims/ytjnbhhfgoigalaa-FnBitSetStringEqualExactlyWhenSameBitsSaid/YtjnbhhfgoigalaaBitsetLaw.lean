/-
  The plain law of FnBitSetStringEqualExactlyWhenSameBits: two rows of bytes are equal exactly when the lists mark the same bits. Condition: every index is below n.
-/
import Derived.Test.YtjnbhhfgoigalaaBitset2
namespace Go.Proofs.Ytjnbhhfgoigalaa.Bitset
open Go.RowKit Go.Proofs.Ytjnbhhfgoigalaa.Ints

def sameM (f f' : Nat → Int) (l l' r : Nat) : Bool := decide (∀ p, p < r → marked f l p = marked f' l' p)

theorem marked_out (f : Nat → Int) (n : Nat) : ∀ l, (∀ j, j < l → 0 ≤ f j ∧ f j < n) → ∀ p, n ≤ p → marked f l p = false := by
  intro l
  induction l with
  | zero => intro _ p _; rfl
  | succ l ih =>
    intro h p hp
    rw [marked, ih (fun j hj => h j (by omega)) p hp]
    have := h l (by omega)
    have : ¬ p = (f l).toNat := by omega
    simp [this]

theorem byte_ext (a b : Int) (ha : 0 ≤ a ∧ a < 256) (hb : 0 ≤ b ∧ b < 256) (h : ∀ j, j < 8 → a.toNat.testBit j = b.toNat.testBit j) : a = b := by
  have : a.toNat = b.toNat := by
    apply Nat.eq_of_testBit_eq
    intro j
    by_cases hj : j < 8
    · exact h j hj
    · have h1 : a.toNat < 2 ^ j := Nat.lt_of_lt_of_le (show a.toNat < 2 ^ 8 by omega) (Nat.pow_le_pow_right (by omega) (by omega))
      have h2 : b.toNat < 2 ^ j := Nat.lt_of_lt_of_le (show b.toNat < 2 ^ 8 by omega) (Nat.pow_le_pow_right (by omega) (by omega))
      rw [Nat.testBit_lt_two_pow h1, Nat.testBit_lt_two_pow h2]
  omega

theorem strOf_list (g : Nat → Int) (m : Nat) : (strOf g m).toList = (List.range m).map fun i => UInt8.ofNat (g i).toNat := by
  rw [ByteArray.toList_eq, strOf, strOfNums_data, List.map_map]
  rfl
theorem strOf_size (g : Nat → Int) (m : Nat) : (strOf g m).size = m := by simp [strOf, strOfNums_size]

theorem strOf_eq {g g' : Nat → Int} (hg : Byte g) (hg' : Byte g') (m : Nat) : ((strOf g m).toList == (strOf g' m).toList) = decide (∀ i, i < m → g i = g' i) := by
  rw [strOf_list, strOf_list, Bool.eq_iff_iff, beq_iff_eq, decide_eq_true_eq]
  constructor
  · intro h i hi
    have h1 : ((List.range m).map fun i => UInt8.ofNat (g i).toNat)[i]? = ((List.range m).map fun i => UInt8.ofNat (g' i).toNat)[i]? := by rw [h]
    simp only [List.getElem?_map, List.getElem?_range hi, Option.map_some, Option.some.injEq] at h1
    have h2 := congrArg UInt8.toNat h1
    have a1 := hg i
    have a2 := hg' i
    simp only [UInt8.toNat_ofNat'] at h2
    omega
  · intro h
    apply List.map_congr_left
    intro i hi
    rw [h i (List.mem_range.1 hi)]

theorem law {g g' f f' : Nat → Int} {l l' n m : Nat} (hg : Byte g) (hg' : Byte g') (hm : m = (n + 7) / 8) (h : ∀ i, bitOn g i = marked f l i) (h' : ∀ i, bitOn g' i = marked f' l' i)
    (hf : ∀ j, j < l → 0 ≤ f j ∧ f j < n) (hf' : ∀ j, j < l' → 0 ≤ f' j ∧ f' j < n) :
    ((strOf g m).toList == (strOf g' m).toList) = sameM f f' l l' n := by
  rw [strOf_eq hg hg', sameM, decide_eq_decide]
  constructor
  · intro hs p hp
    rw [← h p, ← h' p]
    unfold bitOn
    rw [hs (p / 8) (by omega)]
  · intro hs i _
    have hall : ∀ p, bitOn g p = bitOn g' p := fun p => by
      rw [h p, h' p]
      by_cases hp : p < n
      · exact hs p hp
      · rw [marked_out f n l hf p (by omega), marked_out f' n l' hf' p (by omega)]
    refine byte_ext _ _ (hg i) (hg' i) fun j hj => ?_
    have := hall (8 * i + j)
    rw [bitOn_val hg, bitOn_val hg', show (8 * i + j) / 8 = i by omega, show (8 * i + j) % 8 = j by omega] at this
    exact this
end Go.Proofs.Ytjnbhhfgoigalaa.Bitset
