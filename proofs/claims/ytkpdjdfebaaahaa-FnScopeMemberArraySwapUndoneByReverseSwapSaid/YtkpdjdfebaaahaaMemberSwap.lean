/-
  scopeMemberArray: building it, exchanging two elements, reading one. Condition: at most 65536 elements, indices within.
-/
import Derived.Test.YtkpdjdfebaaahaaRowsI
import Derived.Lib.Hide
import Derived.Laws.Cover3
import Derived.RegionTactic
import Derived.ChangeAlike
import Derived.Deep.QuietTactic
import Derived.BigQuiet
import Derived.BigRegion
import Derived.Deep.RegionHeld3
import Derived.StillTailTactics
import Derived.Laws.MakeOwn
namespace Go.Proofs.Ytkpdjdfebaaahaa.MemberSwap
open Go.RowKit Go.Proofs.Ytkpdjdfebaaahaa.Ints

theorem below_drewN {B : Nat} {a w : World} (h : Below B a w) (n : Nat) : Below B a (w.drewN n) := ⟨h.os, h.tape, h.output, h.size, h.block⟩
theorem fields (x y z : Int) (w : World) : Calls Try.prog 34 #[.agg #[.int .u32 x, .int .u32 y, .int .i32 z]] w fun e w' => e = .returned (.tuple #[.int .u32 y, .int .u32 x, .int .i32 z]) ∧ Below w.heap.size w w' := by
  go_enter Try.func34, Try.ntmps34
  go_wp2_with fail
  go_quiet (fail)
  go_wp2_with fail
  go_ret3
  exact ⟨rfl, below_drewN ((Below.refl _ _).alloc (Nat.le_refl _) _) _⟩
theorem memberOf (x y z : Int) (w : World) : Calls Try.prog 45 #[.int .u32 x, .int .u32 y, .int .i32 z] w fun e w' => e = .returned (.agg #[.int .u32 y, .int .u32 x, .int .i32 z]) ∧ Below w.heap.size w w' := by
  go_enter Try.func45, Try.ntmps45
  go_wp2
  exact bodyPost_ret (v := .agg #[.int .u32 y, .int .u32 x, .int .i32 z]) (by simp [results, Try.results45, go_sem]) rfl ⟨rfl, (Below.refl _ _).alloc (Nat.le_refl _) _⟩
def trip (s i : Nat → Int) (l : Nat → Int) : Nat → Value := fun k => if k % 3 = 0 then .int .u32 (s (k / 3)) else if k % 3 = 1 then .int .u32 (i (k / 3)) else .int .i32 (l (k / 3))
theorem trip0 (s i l) (k : Nat) : trip s i l (k * 3) = .int .u32 (s k) := by simp [trip]
theorem trip1 (s i l) (k : Nat) : trip s i l (k * 3 + 1) = .int .u32 (i k) := by
  unfold trip; rw [if_neg (by omega), if_pos (by omega), show (k * 3 + 1) / 3 = k by omega]
theorem trip2 (s i l) (k : Nat) : trip s i l (k * 3 + 2) = .int .i32 (l k) := by
  unfold trip; rw [if_neg (by omega), if_neg (by omega), show (k * 3 + 2) / 3 = k by omega]

def upd (f : Nat → Int) (k : Nat) (x : Int) : Nat → Int := fun i => if i = k then x else f i
theorem set3 {w : World} {b t n : Nat} {S I L : Nat → Int} (hR : w.rowIs b t (n * 3) (trip S I L)) (k : Nat) (x y z : Int) :
    (((w.setCell ⟨b, k * 3, none⟩ (.int .u32 x)).setCell ⟨b, k * 3 + 1, none⟩ (.int .u32 y)).setCell ⟨b, k * 3 + 2, none⟩ (.int .i32 z)).rowIs b t (n * 3) (trip (upd S k x) (upd I k y) (upd L k z)) := by
  refine (((hR.set (k * 3) _).set (k * 3 + 1) _).set (k * 3 + 2) _).congr fun j _ => ?_
  show (if j = k * 3 + 2 then Value.int .i32 z else if j = k * 3 + 1 then Value.int .u32 y else if j = k * 3 then Value.int .u32 x else trip S I L j) = trip (upd S k x) (upd I k y) (upd L k z) j
  unfold trip upd
  have h3 : j % 3 = 0 ∨ j % 3 = 1 ∨ j % 3 = 2 := by omega
  by_cases e : j / 3 = k
  · rcases h3 with h | h | h
    · rw [if_neg (by omega), if_neg (by omega), if_pos (by omega), if_pos h, if_pos e]
    · rw [if_neg (by omega), if_pos (by omega), if_neg (by omega), if_pos h, if_pos e]
    · rw [if_pos (by omega), if_neg (by omega), if_neg (by omega), if_pos e]
  · rw [if_neg (by omega), if_neg (by omega), if_neg (by omega), if_neg e, if_neg e, if_neg e]

def exch (f : Nat → Int) (i j : Nat) : Nat → Int := upd (upd f i (f j)) j (f i)
def Swapped (B b n i j : Nat) (S I L : Nat → Int) (w : World) (e : Ending) (w' : World) : Prop :=
  e = .returned (.tuple #[]) ∧ Below B w w' ∧ w'.rowIs b 78 (n * 3) (trip (exch S i j) (exch I i j) (exch L i j))
theorem below3 {B : Nat} {a w : World} (h : Below B a w) {b : Nat} (hb : B ≤ b) (k : Nat) (x y z : Value) : Below B a (((w.setCell ⟨b, k * 3, none⟩ x).setCell ⟨b, k * 3 + 1, none⟩ y).setCell ⟨b, k * 3 + 2, none⟩ z) :=
  ((h.setCell hb _).setCell hb _).setCell hb _
theorem exch_exch (f : Nat → Int) (i j : Nat) : exch (exch f i j) j i = f := by
  funext k
  unfold exch upd
  by_cases h1 : k = i <;> by_cases h2 : k = j <;> by_cases h3 : i = j <;> simp_all

set_option maxHeartbeats 1000000 in
theorem swap (B b n i j : Nat) (S I L : Nat → Int) (w : World) (hn : n ≤ 65536) (hi : i < n) (hj : j < n) (hB : B ≤ b) (hR : w.rowIs b 78 (n * 3) (trip S I L)) :
    Calls Try.prog 33 #[.slice (some ⟨b, 0, none⟩) n n, .int .i64 i, .int .i64 j] w (Swapped B b n i j S I L w) := by
  have i0 := hR.cell (i := i * 3) (by omega)
  have i1 := hR.cell (i := i * 3 + 1) (by omega)
  have i2 := hR.cell (i := i * 3 + 2) (by omega)
  have j0 := hR.cell (i := j * 3) (by omega)
  have j1 := hR.cell (i := j * 3 + 1) (by omega)
  have j2 := hR.cell (i := j * 3 + 2) (by omega)
  rw [trip0] at i0 j0
  rw [trip1] at i1 j1
  rw [trip2] at i2 j2
  have f0 := hR.frozen (i * 3)
  have f1 := hR.frozen (i * 3 + 1)
  have f2 := hR.frozen (i * 3 + 2)
  have q0 := hR.frozen (j * 3)
  have q1 := hR.frozen (j * 3 + 1)
  have q2 := hR.frozen (j * 3 + 2)
  by_cases hij : i = j
  · subst hij
    clear j0 j1 j2 q0 q1 q2
    go_enter Try.func33, Try.ntmps33
    go_wp2_with fail
    go_region
    go_end0
    exact ⟨rfl, (below3 (below3 (Below.refl _ _) hB i _ _ _) hB i _ _ _).drew, (set3 (set3 hR i (S i) (I i) (L i)) i (S i) (I i) (L i)).drew⟩
  · have hji : ¬ j = i := fun h => hij h.symm
    have h3a : ¬ i * 3 = j * 3 := by omega
    have h3b : ¬ j * 3 = i * 3 := by omega
    go_enter Try.func33, Try.ntmps33
    go_wp2_with fail
    go_region
    go_end0
    exact ⟨rfl, (below3 (below3 (Below.refl _ _) hB i _ _ _) hB j _ _ _).drew, (set3 (set3 hR i (S j) (I j) (L j)) j (S i) (I i) (L i)).drew⟩

theorem run_make_rowN {P : Program} (t e : TypeId) (i : TypeInfo) (z : Value) (ht : P.underlying t = some (.slice e)) (hi : P.info? e = some i) (hz : i.zero = some z)
    (kl kc : IntKind) (n c : Nat) (hnc : n ≤ c) (hbytes : i.bytes * c ≤ 281474976710656) (h63 : c ≤ 9223372036854775807) (w : World) :
    (Instr.makeSlice t (.int kl (n : Int)) (.int kc (c : Int))).run P w = .ok (.slice (some ⟨w.heap.size, 0, none⟩) n c) (w.alloc (.cells (madeCells z.cells (c * i.size)) e)) := by
  have hb : (i.bytes : Int) * (c : Int) ≤ 281474976710656 := by
    have h : ((i.bytes * c : Nat) : Int) ≤ 281474976710656 := by omega
    rwa [Int.natCast_mul] at h
  have hr := run_make (P := P) w t e i z ht hi hz kl kc n c (by omega) (by omega) hb (by omega)
  simp only [Int.toNat_natCast] at hr
  exact hr
theorem infoM : (Try.prog.info? 78).map (fun i => (i.zero, i.size, i.bytes)) = some (some (.agg #[.int .u32 0, .int .u32 0, .int .i32 0]), 3, 12) := by kernel_rfl
theorem make3 (n : Nat) (hn : n ≤ 65536) (w : World) : (Instr.makeSlice 68 (.int .i64 (n : Int)) (.int .i64 (n : Int))).run Try.prog w =
    .ok (.slice (some ⟨w.heap.size, 0, none⟩) n n) (w.alloc (.cells (madeCells #[.int .u32 0, .int .u32 0, .int .i32 0] (n * 3)) 78)) := by
  obtain ⟨i, hi, hz, hs, hb⟩ := info_parts infoM
  have := run_make_rowN (P := Try.prog) 68 78 i _ Try.underlying68 hi hz .i64 .i64 n n (Nat.le_refl _) (by rw [hb]; omega) (by omega) w
  rw [hs] at this
  exact this
def upto (r : Nat) (f : Nat → Int) : Nat → Int := fun k => if k < r then f k else 0
theorem made_row (w : World) (n : Nat) (S I L : Nat → Int) : (w.alloc (.cells (madeCells #[.int .u32 0, .int .u32 0, .int .i32 0] (n * 3)) 78)).rowIs w.heap.size 78 (n * 3) (trip (upto 0 S) (upto 0 I) (upto 0 L)) := by
  have h := World.rowIs_alloc w (madeCells #[.int .u32 0, .int .u32 0, .int .i32 0] (n * 3)) 78 (trip (upto 0 S) (upto 0 I) (upto 0 L)) (fun i hi => by
    rw [size_madeCells] at hi
    have h3 : i % 3 = 0 ∨ i % 3 = 1 ∨ i % 3 = 2 := by omega
    rcases h3 with h | h | h <;> simp [madeCells, hi, h, trip, upto])
  rw [size_madeCells] at h
  exact h
theorem upto_set (f : Nat → Int) (r : Nat) : upd (upto r f) r (f r) = upto (r + 1) f := by
  funext k
  unfold upd upto
  by_cases h : k = r
  · rw [if_pos h, if_pos (by omega), h]
  · rw [if_neg h]
    by_cases h2 : k < r
    · rw [if_pos h2, if_pos (by omega)]
    · rw [if_neg h2, if_neg (by omega)]

def cvv (w : World) (a : Addr) : Value := (w.cell? a).getD undef
theorem cvv_of {w : World} {a : Addr} {v : Value} (h : w.cell? a = some v) : w.cell? a = some (cvv w a) := by unfold cvv; rw [h]; rfl
/-- The row at the heap's first new block holds the members below r; element r may hold anything. -/
structure Rest (w w' : World) (n r b1 b2 b3 : Nat) (S I L : Nat → Int) : Prop where
  below : Below w.heap.size w w'
  l1 : b1 < w.heap.size
  l2 : b2 < w.heap.size
  l3 : b3 < w.heap.size
  lt : r < n
  row : ∃ F, w'.rowIs w.heap.size 78 (n * 3) F ∧ ∀ k, k / 3 ≠ r → F k = trip (upto r S) (upto r I) (upto r L) k
section
variable {w W w1 : World} {n r b1 b2 b3 f1 f2 f3 : Nat} {S I L : Nat → Int}
theorem rest_conj (h : Rest w W n r b1 b2 b3 S I L) (g1 : W.cell? ⟨b1, f1 + r, none⟩ = some (.int .u32 (I r))) (g2 : W.cell? ⟨b2, f2 + r, none⟩ = some (.int .u32 (S r))) (g3 : W.cell? ⟨b3, f3 + r, none⟩ = some (.int .i32 (L r))) :
    W.cell? ⟨b1, f1 + r, none⟩ = some (.int .u32 (I r)) ∧ W.cell? ⟨b2, f2 + r, none⟩ = some (.int .u32 (S r)) ∧ W.cell? ⟨b3, f3 + r, none⟩ = some (.int .i32 (L r)) ∧ W.cell? ⟨w.heap.size, r * 3, none⟩ = some (cvv W ⟨w.heap.size, r * 3, none⟩) ∧ W.cell? ⟨w.heap.size, r * 3 + 1, none⟩ = some (cvv W ⟨w.heap.size, r * 3 + 1, none⟩) ∧ W.cell? ⟨w.heap.size, r * 3 + 2, none⟩ = some (cvv W ⟨w.heap.size, r * 3 + 2, none⟩) ∧ W.frozen? ⟨w.heap.size, r * 3, none⟩ = false ∧ W.frozen? ⟨w.heap.size, r * 3 + 1, none⟩ = false ∧ W.frozen? ⟨w.heap.size, r * 3 + 2, none⟩ = false ∧ Rest w W n r b1 b2 b3 S I L := by
  obtain ⟨F, hR, _⟩ := h.row
  have hlt := h.lt
  exact ⟨g1, g2, g3, cvv_of (hR.cell (i := r * 3) (by omega)), cvv_of (hR.cell (i := r * 3 + 1) (by omega)), cvv_of (hR.cell (i := r * 3 + 2) (by omega)), hR.frozen _, hR.frozen _, hR.frozen _, h⟩
theorem keepB (h : W.cell? ⟨b1, f1 + r, none⟩ = some (.int .u32 (I r)) ∧ W.cell? ⟨b2, f2 + r, none⟩ = some (.int .u32 (S r)) ∧ W.cell? ⟨b3, f3 + r, none⟩ = some (.int .i32 (L r)) ∧ W.cell? ⟨w.heap.size, r * 3, none⟩ = some (cvv W ⟨w.heap.size, r * 3, none⟩) ∧ W.cell? ⟨w.heap.size, r * 3 + 1, none⟩ = some (cvv W ⟨w.heap.size, r * 3 + 1, none⟩) ∧ W.cell? ⟨w.heap.size, r * 3 + 2, none⟩ = some (cvv W ⟨w.heap.size, r * 3 + 2, none⟩) ∧ W.frozen? ⟨w.heap.size, r * 3, none⟩ = false ∧ W.frozen? ⟨w.heap.size, r * 3 + 1, none⟩ = false ∧ W.frozen? ⟨w.heap.size, r * 3 + 2, none⟩ = false ∧ Rest w W n r b1 b2 b3 S I L) (hb : Below W.heap.size W w1) :
    w1.cell? ⟨b1, f1 + r, none⟩ = some (.int .u32 (I r)) ∧ w1.cell? ⟨b2, f2 + r, none⟩ = some (.int .u32 (S r)) ∧ w1.cell? ⟨b3, f3 + r, none⟩ = some (.int .i32 (L r)) ∧ w1.cell? ⟨w.heap.size, r * 3, none⟩ = some (cvv w1 ⟨w.heap.size, r * 3, none⟩) ∧ w1.cell? ⟨w.heap.size, r * 3 + 1, none⟩ = some (cvv w1 ⟨w.heap.size, r * 3 + 1, none⟩) ∧ w1.cell? ⟨w.heap.size, r * 3 + 2, none⟩ = some (cvv w1 ⟨w.heap.size, r * 3 + 2, none⟩) ∧ w1.frozen? ⟨w.heap.size, r * 3, none⟩ = false ∧ w1.frozen? ⟨w.heap.size, r * 3 + 1, none⟩ = false ∧ w1.frozen? ⟨w.heap.size, r * 3 + 2, none⟩ = false ∧ Rest w w1 n r b1 b2 b3 S I L := by
  obtain ⟨g1, g2, g3, _, _, _, _, _, _, R⟩ := h
  obtain ⟨F, hR, hF⟩ := R.row
  have hs := R.below.size
  have R' : Rest w w1 n r b1 b2 b3 S I L := ⟨R.below.trans (hb.mono hs), R.l1, R.l2, R.l3, R.lt, F, hR.of_block (hb.block _ hR.lt), hF⟩
  exact rest_conj R' ((hb.cell (p := ⟨b1, f1 + r, none⟩) (Nat.lt_of_lt_of_le R.l1 hs)).trans g1) ((hb.cell (p := ⟨b2, f2 + r, none⟩) (Nat.lt_of_lt_of_le R.l2 hs)).trans g2) ((hb.cell (p := ⟨b3, f3 + r, none⟩) (Nat.lt_of_lt_of_le R.l3 hs)).trans g3)
theorem set3_rest (h : Rest w W n r b1 b2 b3 S I L) (x y z : Value) : (((W.setCell ⟨w.heap.size, r * 3, none⟩ x).setCell ⟨w.heap.size, r * 3 + 1, none⟩ y).setCell ⟨w.heap.size, r * 3 + 2, none⟩ z).rowIs w.heap.size 78 (n * 3) (fun k => if k = r * 3 + 2 then z else if k = r * 3 + 1 then y else if k = r * 3 then x else trip (upto r S) (upto r I) (upto r L) k) := by
  obtain ⟨F, hR, hF⟩ := h.row
  refine (((hR.set (r * 3) x).set (r * 3 + 1) y).set (r * 3 + 2) z).congr fun k _ => ?_
  show (if k = r * 3 + 2 then z else if k = r * 3 + 1 then y else if k = r * 3 then x else F k) = _
  by_cases h1 : k = r * 3 + 2
  · rw [if_pos h1, if_pos h1]
  · rw [if_neg h1, if_neg h1]
    by_cases h2 : k = r * 3 + 1
    · rw [if_pos h2, if_pos h2]
    · rw [if_neg h2, if_neg h2]
      by_cases h3 : k = r * 3
      · rw [if_pos h3, if_pos h3]
      · rw [if_neg h3, if_neg h3]
        exact hF k (by omega)
theorem keepS {x y z : Value} (h : W.cell? ⟨b1, f1 + r, none⟩ = some (.int .u32 (I r)) ∧ W.cell? ⟨b2, f2 + r, none⟩ = some (.int .u32 (S r)) ∧ W.cell? ⟨b3, f3 + r, none⟩ = some (.int .i32 (L r)) ∧ W.cell? ⟨w.heap.size, r * 3, none⟩ = some (cvv W ⟨w.heap.size, r * 3, none⟩) ∧ W.cell? ⟨w.heap.size, r * 3 + 1, none⟩ = some (cvv W ⟨w.heap.size, r * 3 + 1, none⟩) ∧ W.cell? ⟨w.heap.size, r * 3 + 2, none⟩ = some (cvv W ⟨w.heap.size, r * 3 + 2, none⟩) ∧ W.frozen? ⟨w.heap.size, r * 3, none⟩ = false ∧ W.frozen? ⟨w.heap.size, r * 3 + 1, none⟩ = false ∧ W.frozen? ⟨w.heap.size, r * 3 + 2, none⟩ = false ∧ Rest w W n r b1 b2 b3 S I L) :
    (((W.setCell ⟨w.heap.size, r * 3, none⟩ x).setCell ⟨w.heap.size, r * 3 + 1, none⟩ y).setCell ⟨w.heap.size, r * 3 + 2, none⟩ z).cell? ⟨b1, f1 + r, none⟩ = some (.int .u32 (I r)) ∧ (((W.setCell ⟨w.heap.size, r * 3, none⟩ x).setCell ⟨w.heap.size, r * 3 + 1, none⟩ y).setCell ⟨w.heap.size, r * 3 + 2, none⟩ z).cell? ⟨b2, f2 + r, none⟩ = some (.int .u32 (S r)) ∧ (((W.setCell ⟨w.heap.size, r * 3, none⟩ x).setCell ⟨w.heap.size, r * 3 + 1, none⟩ y).setCell ⟨w.heap.size, r * 3 + 2, none⟩ z).cell? ⟨b3, f3 + r, none⟩ = some (.int .i32 (L r)) ∧ (((W.setCell ⟨w.heap.size, r * 3, none⟩ x).setCell ⟨w.heap.size, r * 3 + 1, none⟩ y).setCell ⟨w.heap.size, r * 3 + 2, none⟩ z).cell? ⟨w.heap.size, r * 3, none⟩ = some (cvv (((W.setCell ⟨w.heap.size, r * 3, none⟩ x).setCell ⟨w.heap.size, r * 3 + 1, none⟩ y).setCell ⟨w.heap.size, r * 3 + 2, none⟩ z) ⟨w.heap.size, r * 3, none⟩) ∧ (((W.setCell ⟨w.heap.size, r * 3, none⟩ x).setCell ⟨w.heap.size, r * 3 + 1, none⟩ y).setCell ⟨w.heap.size, r * 3 + 2, none⟩ z).cell? ⟨w.heap.size, r * 3 + 1, none⟩ = some (cvv (((W.setCell ⟨w.heap.size, r * 3, none⟩ x).setCell ⟨w.heap.size, r * 3 + 1, none⟩ y).setCell ⟨w.heap.size, r * 3 + 2, none⟩ z) ⟨w.heap.size, r * 3 + 1, none⟩) ∧ (((W.setCell ⟨w.heap.size, r * 3, none⟩ x).setCell ⟨w.heap.size, r * 3 + 1, none⟩ y).setCell ⟨w.heap.size, r * 3 + 2, none⟩ z).cell? ⟨w.heap.size, r * 3 + 2, none⟩ = some (cvv (((W.setCell ⟨w.heap.size, r * 3, none⟩ x).setCell ⟨w.heap.size, r * 3 + 1, none⟩ y).setCell ⟨w.heap.size, r * 3 + 2, none⟩ z) ⟨w.heap.size, r * 3 + 2, none⟩) ∧ (((W.setCell ⟨w.heap.size, r * 3, none⟩ x).setCell ⟨w.heap.size, r * 3 + 1, none⟩ y).setCell ⟨w.heap.size, r * 3 + 2, none⟩ z).frozen? ⟨w.heap.size, r * 3, none⟩ = false ∧ (((W.setCell ⟨w.heap.size, r * 3, none⟩ x).setCell ⟨w.heap.size, r * 3 + 1, none⟩ y).setCell ⟨w.heap.size, r * 3 + 2, none⟩ z).frozen? ⟨w.heap.size, r * 3 + 1, none⟩ = false ∧ (((W.setCell ⟨w.heap.size, r * 3, none⟩ x).setCell ⟨w.heap.size, r * 3 + 1, none⟩ y).setCell ⟨w.heap.size, r * 3 + 2, none⟩ z).frozen? ⟨w.heap.size, r * 3 + 2, none⟩ = false ∧ Rest w (((W.setCell ⟨w.heap.size, r * 3, none⟩ x).setCell ⟨w.heap.size, r * 3 + 1, none⟩ y).setCell ⟨w.heap.size, r * 3 + 2, none⟩ z) n r b1 b2 b3 S I L := by
  obtain ⟨g1, g2, g3, _, _, _, _, _, _, R⟩ := h
  have hB : Below w.heap.size W (((W.setCell ⟨w.heap.size, r * 3, none⟩ x).setCell ⟨w.heap.size, r * 3 + 1, none⟩ y).setCell ⟨w.heap.size, r * 3 + 2, none⟩ z) := below3 (Below.refl _ _) (Nat.le_refl _) r x y z
  have R' : Rest w (((W.setCell ⟨w.heap.size, r * 3, none⟩ x).setCell ⟨w.heap.size, r * 3 + 1, none⟩ y).setCell ⟨w.heap.size, r * 3 + 2, none⟩ z) n r b1 b2 b3 S I L := ⟨R.below.trans hB, R.l1, R.l2, R.l3, R.lt, _, set3_rest R x y z, fun k hk => by
    rw [if_neg (by omega), if_neg (by omega), if_neg (by omega)]⟩
  exact rest_conj R' ((hB.cell (p := ⟨b1, f1 + r, none⟩) R.l1).trans g1) ((hB.cell (p := ⟨b2, f2 + r, none⟩) R.l2).trans g2) ((hB.cell (p := ⟨b3, f3 + r, none⟩) R.l3).trans g3)
theorem full_row (h : Rest w W n r b1 b2 b3 S I L) : (((W.setCell ⟨w.heap.size, r * 3, none⟩ (.int .u32 (S r))).setCell ⟨w.heap.size, r * 3 + 1, none⟩ (.int .u32 (I r))).setCell ⟨w.heap.size, r * 3 + 2, none⟩ (.int .i32 (L r))).rowIs w.heap.size 78 (n * 3) (trip (upto (r + 1) S) (upto (r + 1) I) (upto (r + 1) L)) := by
  refine (set3_rest h _ _ _).congr fun k _ => ?_
  rw [← upto_set S, ← upto_set I, ← upto_set L]
  unfold trip upd
  have h3 : k % 3 = 0 ∨ k % 3 = 1 ∨ k % 3 = 2 := by omega
  by_cases e : k / 3 = r
  · rcases h3 with h | h | h
    · rw [if_neg (by omega), if_neg (by omega), if_pos (by omega), if_pos h, if_pos e]
    · rw [if_neg (by omega), if_pos (by omega), if_neg (by omega), if_pos h, if_pos e]
    · rw [if_pos (by omega), if_neg (by omega), if_neg (by omega), if_pos e]
  · rw [if_neg (by omega), if_neg (by omega), if_neg (by omega), if_neg e, if_neg e, if_neg e]
end

def Built (n : Nat) (S I L : Nat → Int) (w : World) (e : Ending) (w' : World) : Prop :=
  e = .returned (.slice (some ⟨w.heap.size, 0, none⟩) n n) ∧ Below w.heap.size w w' ∧ w'.rowIs w.heap.size 78 (n * 3) (trip S I L)
set_option maxRecDepth 100000 in
set_option maxHeartbeats 1000000 in
theorem build (o1 o2 o3 : Option Addr) (n c1 c2 c3 : Nat) (S I L : Nat → Int) (w : World) (hn : n ≤ 65536) (h1 : IntsAt .u32 w o1 n I) (h2 : IntsAt .u32 w o2 n S) (h3 : IntsAt .i32 w o3 n L) :
    Calls Try.prog 32 #[.slice o1 n c1, .slice o2 n c2, .slice o3 n c3] w (Built n S I L w) := by
  have hmk := make3 n hn
  go_enter Try.func32, Try.ntmps32
  go_wp2_with fail
  clear hmk
  go_loopg [9] n (fun gk i wr => ∃ r : Nat, r ≤ n ∧ gk = n - r ∧ i = .int .i64 r ∧ Below w.heap.size w wr ∧ wr.rowIs w.heap.size 78 (n * 3) (trip (upto r S) (upto r I) (upto r L)))
  case atStart => exact ⟨0, Nat.zero_le _, rfl, rfl, (Below.refl _ _).alloc (Nat.le_refl _) _, made_row w n S I L⟩
  case round =>
    obtain ⟨r, hr, rfl, rfl, hB, hR⟩ := hrel
    rcases Nat.lt_or_ge r n with hlt | hge
    · rcases h1 with h0 | ⟨b1, f1, e1, l1, k1⟩
      · omega
      rcases h2 with h0 | ⟨b2, f2, e2, l2, k2⟩
      · omega
      rcases h3 with h0 | ⟨b3, f3, e3, l3, k3⟩
      · omega
      cases e1
      cases e2
      cases e3
      have g1 := (hB.cell (p := ⟨b1, f1 + r, none⟩) l1).trans (k1 r hlt)
      have g2 := (hB.cell (p := ⟨b2, f2 + r, none⟩) l2).trans (k2 r hlt)
      have g3 := (hB.cell (p := ⟨b3, f3 + r, none⟩) l3).trans (k3 r hlt)
      clear k1 k2 k3
      have hRest : Rest w wr n r b1 b2 b3 S I L := ⟨hB, l1, l2, l3, hlt, _, hR, fun k _ => rfl⟩
      have hS := rest_conj hRest g1 g2 g3
      clear hB hR g1 g2 g3 hRest
      have hS' := hS
      obtain ⟨g1, g2, g3, y0, y1, y2, y3, y4, y5, _⟩ := hS'
      go_wp2_with fail
      go_region_held3 (fun w' => w'.cell? ⟨b1, f1 + r, none⟩ = some (.int .u32 (I r)) ∧ w'.cell? ⟨b2, f2 + r, none⟩ = some (.int .u32 (S r)) ∧ w'.cell? ⟨b3, f3 + r, none⟩ = some (.int .i32 (L r)) ∧ w'.cell? ⟨w.heap.size, r * 3, none⟩ = some (cvv w' ⟨w.heap.size, r * 3, none⟩) ∧ w'.cell? ⟨w.heap.size, r * 3 + 1, none⟩ = some (cvv w' ⟨w.heap.size, r * 3 + 1, none⟩) ∧ w'.cell? ⟨w.heap.size, r * 3 + 2, none⟩ = some (cvv w' ⟨w.heap.size, r * 3 + 2, none⟩) ∧ w'.frozen? ⟨w.heap.size, r * 3, none⟩ = false ∧ w'.frozen? ⟨w.heap.size, r * 3 + 1, none⟩ = false ∧ w'.frozen? ⟨w.heap.size, r * 3 + 2, none⟩ = false ∧ Rest w w' n r b1 b2 b3 S I L)
        (first | exact hS | exact keepS (by assumption) | exact keepB (by assumption) (by first | assumption | exact (Below.refl _ _).drew | exact (Below.refl _ _).alloc (Nat.le_refl _) _ | exact below_drewN (Below.refl _ _) _))
        (first | (go_at_call 45; refine (memberOf _ _ _ _).mono ?_; rintro e w4 ⟨rfl, hb4⟩))
      have k1 := keepB (keepB hS (Below.refl _ _).drew) hb4
      have hFR := full_row k1.2.2.2.2.2.2.2.2.2
      have hBB := below3 k1.2.2.2.2.2.2.2.2.2.below (Nat.le_refl _) r (.int .u32 (S r)) (.int .u32 (I r)) (.int .i32 (L r))
      rename_i hH
      clear hH k1 hS hb4 g1 g2 g3 y0 y1 y2 y3 y4 y5
      go_wp2_with fail
      go_roundg (n - (r + 1))
      case measure => omega
      case rel => exact ⟨r + 1, by omega, rfl, rfl, hBB, hFR⟩
    · have hrn : r = n := by omega
      subst hrn
      clear h1 h2 h3
      go_wp2_with fail
      go_ret
      exact ⟨rfl, hB, hR.congr fun i hi => by
        have e : i / 3 < r := by omega
        simp only [trip, upto, e, if_true]⟩
end Go.Proofs.Ytkpdjdfebaaahaa.MemberSwap
