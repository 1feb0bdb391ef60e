/-
  NewBitSet, SetBit, HasBit: what they do to the row of bytes that a bit set holds. Condition: at most 65536 bits, the bit within the set.
-/
import Derived.Test.YtjnbhhfgoigalaaRowsI
import Derived.Lib.Hide
import Derived.Laws.Cover3
import Derived.Laws.BitsAllLaws
namespace Go.Proofs.Ytjnbhhfgoigalaa.Bitset
open Go.RowKit Go.Proofs.Ytjnbhhfgoigalaa.Ints

def pw (k : Nat) : Int := ((2 ^ (k % 8) : Nat) : Int)

theorem and7 (k : Nat) (h : k ≤ 131072) : bits .and .u64 (k : Int) 7 = ((k % 8 : Nat) : Int) := by
  have := u64_and_nat k 7 (by omega) (by omega)
  rw [nat_mask3] at this
  exact this
theorem shift_run (k : Nat) (h : k ≤ 131072) (w : World) : (Op.shift .shl .u8 1 .u64 (bits .and .u64 (k : Int) 7)).run Try.prog w = .ok (.int .u8 (pw k)) w := by
  rw [and7 k h]
  unfold pw
  have hlt : k % 8 < 8 := Nat.mod_lt _ (by omega)
  generalize k % 8 = j at hlt
  have : j = 0 ∨ j = 1 ∨ j = 2 ∨ j = 3 ∨ j = 4 ∨ j = 5 ∨ j = 6 ∨ j = 7 := by omega
  rcases this with rfl | rfl | rfl | rfl | rfl | rfl | rfl | rfl <;> (refine Eq.trans ?_ rfl; rfl)

def bitOn (g : Nat → Int) (k : Nat) : Bool := bits .and .u8 (g (k / 8)) (pw k) != 0
def setOn (g : Nat → Int) (k : Nat) : Nat → Int := fun i => if i = k / 8 then bits .or .u8 (g (k / 8)) (pw k) else g i
def Byte (g : Nat → Int) : Prop := ∀ i, 0 ≤ g i ∧ g i < 256

theorem pw_rng (k : Nat) : 0 ≤ pw k ∧ pw k < 256 := by
  unfold pw
  have hlt : k % 8 < 8 := Nat.mod_lt _ (by omega)
  have : 2 ^ (k % 8) < 256 := Nat.pow_lt_pow_right (n := 8) (by omega) hlt
  generalize 2 ^ (k % 8) = x at this
  omega
theorem pw_nat (k : Nat) : (pw k).toNat = 2 ^ (k % 8) := Int.toNat_natCast _
theorem or_val (a : Int) (k : Nat) (ha : 0 ≤ a ∧ a < 256) : bits .or .u8 a (pw k) = ((a.toNat ||| 2 ^ (k % 8) : Nat) : Int) := by
  have := pw_rng k
  rw [u8_or a (pw k) ha.1 ha.2 this.1 this.2]
  rw [pw_nat]
theorem and_val (a : Int) (k : Nat) (ha : 0 ≤ a ∧ a < 256) : (bits .and .u8 a (pw k) != 0) = a.toNat.testBit (k % 8) := by
  have := pw_rng k
  rw [u8_and a (pw k) ha.1 ha.2 this.1 this.2]
  rw [pw_nat, nat_bit, Nat.testBit_eq_decide_div_mod_eq]
  have hm := Nat.mod_two_eq_zero_or_one (a.toNat / 2 ^ (k % 8))
  have hp : 0 < 2 ^ (k % 8) := Nat.two_pow_pos _
  rcases hm with h | h
  · simp [h]
  · rw [h, Nat.one_mul]
    generalize 2 ^ (k % 8) = x at hp
    have : ((x : Int) != 0) = true := by rw [bne_iff_ne]; omega
    rw [this]; rfl
theorem or_rng (a : Int) (k : Nat) (ha : 0 ≤ a ∧ a < 256) : 0 ≤ bits .or .u8 a (pw k) ∧ bits .or .u8 a (pw k) < 256 := by
  rw [or_val a k ha]
  have h1 : a.toNat < 2 ^ 8 := by omega
  have h2 : 2 ^ (k % 8) < 2 ^ 8 := Nat.pow_lt_pow_right (by omega) (Nat.mod_lt _ (by omega))
  have := Nat.or_lt_two_pow h1 h2
  omega
theorem setOn_byte {g : Nat → Int} (h : Byte g) (k : Nat) : Byte (setOn g k) := fun i => by
  unfold setOn
  split
  · exact or_rng _ k (h _)
  · exact h i
theorem bitOn_val {g : Nat → Int} (h : Byte g) (k : Nat) : bitOn g k = (g (k / 8)).toNat.testBit (k % 8) := and_val _ k (h _)
theorem bitOn_set {g : Nat → Int} (h : Byte g) (k i : Nat) : bitOn (setOn g k) i = (decide (i = k) || bitOn g i) := by
  rw [bitOn_val (setOn_byte h k), bitOn_val h]
  unfold setOn
  by_cases e : i / 8 = k / 8
  · rw [if_pos e, or_val _ k (h _), Int.toNat_natCast, Nat.testBit_or, ← e, Nat.testBit_two_pow]
    have : (i = k) ↔ k % 8 = i % 8 := by omega
    rw [decide_eq_decide.2 this, Bool.or_comm]
  · rw [if_neg e]
    have : ¬ i = k := fun h => e (by rw [h])
    simp [this]

theorem setBit (b m k : Nat) (g : Nat → Int) (w : World) (hk : k / 8 < m) (hm : m ≤ 8192) (hR : w.rowIs b 5 m (fun i => .int .u8 (g i))) :
    Calls Try.prog 14 #[.agg #[.slice (some ⟨b, 0, none⟩) m m], .int .u64 k] w
      fun e w' => e = .returned (.tuple #[]) ∧ (w.setCell ⟨b, k / 8, none⟩ (.int .u8 (setOn g k (k / 8)))).alloc (.cells #[.slice (some ⟨b, 0, none⟩) m m] 36) = w' := by
  have g1 := hR.cell hk
  have g2 := hR.frozen (k / 8)
  have g3 := hR.lt
  have hs := shift_run k (by omega)
  go_enter Try.func14, Try.ntmps14
  go_wp2
  go_end0
  refine ⟨rfl, ?_⟩
  simp [setOn]
theorem hasBit (b m k : Nat) (g : Nat → Int) (w : World) (hk : k / 8 < m) (hm : m ≤ 8192) (hR : w.rowIs b 5 m (fun i => .int .u8 (g i))) :
    Calls Try.prog 15 #[.agg #[.slice (some ⟨b, 0, none⟩) m m], .int .u64 k] w
      fun e w' => e = .returned (.bool (bitOn g k)) ∧ w.alloc (.cells #[.slice (some ⟨b, 0, none⟩) m m] 36) = w' := by
  have g1 := hR.cell hk
  have g2 := hR.frozen (k / 8)
  have g3 := hR.lt
  have hs := shift_run k (by omega)
  go_enter Try.func15, Try.ntmps15
  go_wp2
  go_ret
  exact ⟨rfl, rfl⟩
theorem info8 : (Try.prog.info? 5).map (fun i => (i.zero, i.size, i.bytes)) = some (some (.int .u8 0), 1, 1) := by kernel_rfl
theorem newBitSet (n : Nat) (w : World) (hm : n ≤ 65536)  :
    Calls Try.prog 13 #[.int .u64 n] w fun e w' => e = .returned (.agg #[.slice (some ⟨w.heap.size + 1, 0, none⟩) ((n + 7) / 8) ((n + 7) / 8)]) ∧ Below w.heap.size w w' ∧ w'.rowIs (w.heap.size + 1) 5 ((n + 7) / 8) (fun _ => .int .u8 0) := by
  have hmk' : ∀ w : World, (Instr.makeSlice 34 (.int .u64 (((n : Int) + 7) / 8)) (.int .u64 (((n : Int) + 7) / 8))).run Try.prog w = .ok (.slice (some ⟨w.heap.size, 0, none⟩) ((n + 7) / 8) ((n + 7) / 8)) (w.alloc (.cells (madeCells #[.int .u8 0] ((n + 7) / 8)) 5)) :=
    fun w => run_make_row' (P := Try.prog) 34 5 (.int .u8 0) 1 Try.underlying34 info8 rfl .u64 .u64 ((n + 7) / 8) (by omega) (by omega) w
  go_enter Try.func13, Try.ntmps13
  go_wp2
  refine bodyPost_ret (v := .agg #[.slice (some ⟨w.heap.size + 1, 0, none⟩) ((n + 7) / 8) ((n + 7) / 8)]) (by simp [results, Try.results13, go_sem]) rfl ⟨rfl, ((Below.refl _ _).alloc (Nat.le_refl _) _).alloc (by simp) _, ?_⟩
  have := World.rowIs_made (w.alloc (.cells #[.slice (some ⟨w.heap.size + 1, 0, none⟩) ((n + 7) / 8) ((n + 7) / 8)] 36)) (.int .u8 0) ((n + 7) / 8) 5
  rw [show (w.alloc (.cells #[.slice (some ⟨w.heap.size + 1, 0, none⟩) ((n + 7) / 8) ((n + 7) / 8)] 36)).heap.size = w.heap.size + 1 by simp] at this
  exact this
end Go.Proofs.Ytjnbhhfgoigalaa.Bitset
