/-
  A flipped flag is another flag. No condition.
-/
import Derived.Test.YtimmcjjkfhambaaCfg8
import Derived.Laws.BitsLemmas
namespace Go.Proofs.Ytimmcjjkfhambaa.Cfg
open Go.RowKit
theorem wraps_u16 (n : Int) (h₀ : 0 ≤ n) (h₁ : n < 2 ^ 16) : IntKind.u16.wrap n = n := by
  simp [IntKind.wrap, IntKind.bits, IntKind.signed]
  omega
theorem bt_nat (m i : Nat) (hm : m < 65536) : bt (m : Int) i = m.testBit i := by
  have hd : m / 2 ^ i < 2 ^ 16 := Nat.lt_of_le_of_lt (Nat.div_le_self _ _) hm
  have hb := (bits_nat .u16 16 (by decide) wraps_u16 (m / 2 ^ i) 1 hd (by decide)).1
  unfold bt
  rw [show (m : Int) / 2 ^ i = ((m / 2 ^ i : Nat) : Int) from by simp, show (1 : Int) = ((1 : Nat) : Int) from rfl, hb]
  rw [Nat.and_one_is_mod, Nat.testBit_eq_decide_div_mod_eq]
  generalize m / 2 ^ i % 2 = z
  by_cases hz : z = 1
  · subst hz; rfl
  · rw [decide_eq_false hz]
    simp
    omega
theorem xor16 (a b : Nat) (ha : a < 65536) (hb : b < 65536) : bits .xor .u16 (a : Int) (b : Int) = ((a ^^^ b : Nat) : Int) := by
  have ha' : a % 2 ^ IntKind.u16.bits = a := Nat.mod_eq_of_lt ha
  have hb' : b % 2 ^ IntKind.u16.bits = b := Nat.mod_eq_of_lt hb
  simp only [bits, BitVec.ofInt_natCast, BitVec.toNat_xor, BitVec.toNat_ofNat, ha', hb']
  have : a ^^^ b < 2 ^ 16 := Nat.xor_lt_two_pow ha hb
  exact wraps_u16 _ (Int.natCast_nonneg _) (by exact_mod_cast this)
theorem flip (m j : Nat) (hm : m < 65536) (hj : j < 11) : ∃ m' : Nat, bits .xor .u16 (m : Int) ((2 ^ j : Nat) : Int) = (m' : Int) ∧ m' < 65536 ∧ sameF (bt (m : Int)) (bt (m' : Int)) = false ∧ sameF (bt (m' : Int)) (bt (m : Int)) = false := by
  have hp : 2 ^ j < 2 ^ 16 := Nat.pow_lt_pow_right (by decide) (by omega)
  have hx := xor16 m (2 ^ j) hm hp
  have hl : m ^^^ 2 ^ j < 65536 := Nat.xor_lt_two_pow (n := 16) hm hp
  have hne : bt ((m ^^^ 2 ^ j : Nat) : Int) j = !(bt (m : Int) j) := by
    rw [bt_nat _ _ hl, bt_nat _ _ hm, Nat.testBit_xor, Nat.testBit_two_pow_self]
    simp
  refine ⟨m ^^^ 2 ^ j, hx, hl, ?_, ?_⟩
  · rw [sameF, List.all_eq_false]
    exact ⟨j, List.mem_range.2 hj, by rw [hne]; simp⟩
  · rw [sameF, List.all_eq_false]
    exact ⟨j, List.mem_range.2 hj, by rw [hne]; simp⟩
end Go.Proofs.Ytimmcjjkfhambaa.Cfg
