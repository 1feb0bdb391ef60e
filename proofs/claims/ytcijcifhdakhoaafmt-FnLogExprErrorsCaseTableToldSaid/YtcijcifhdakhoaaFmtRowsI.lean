/-
  Rows of integers that a loop fills: how a row reads when r of its cells are filled. No condition.
-/
import Derived.Test.YtcijcifhdakhoaaFmtInts
import Derived.Deep.LoopGhost
namespace Go.Proofs.YtcijcifhdakhoaaFmt.Ints
open Go.RowKit

def fillTo (k : IntKind) (r : Nat) (f : Nat → Int) : Nat → Value := fun i => if i < r then .int k (f i) else .int k 0

structure Filling (w wr : World) (e : TypeId) (k : IntKind) (n r : Nat) (f : Nat → Int) : Prop where
  below : Below w.heap.size w wr
  size : wr.heap.size = w.heap.size + 1
  row : wr.rowIs w.heap.size e n (fillTo k r f)

theorem fill_set {w : World} {b e n r : Nat} {k : IntKind} {f : Nat → Int} (h : w.rowIs b e n (fillTo k r f)) : (w.setCell ⟨b, r, none⟩ (.int k (f r))).rowIs b e n (fillTo k (r + 1) f) := by
  refine (h.set r _).congr fun i _ => ?_
  simp only [fillTo]
  by_cases e : i = r
  · subst e; simp
  · rw [if_neg e]
    by_cases hlt : i < r
    · rw [if_pos hlt, if_pos (by omega)]
    · rw [if_neg hlt, if_neg (by omega)]

theorem filling_start (w : World) (e : TypeId) (k : IntKind) (n : Nat) (f : Nat → Int) : Filling w (w.alloc (.cells (madeCells #[.int k 0] n) e)) e k n 0 f :=
  ⟨(Below.refl _ _).alloc (Nat.le_refl _) _, by simp, (World.rowIs_made w _ n e).congr (fun i _ => by simp [fillTo])⟩

theorem filling_step {w wr : World} {e : TypeId} {k : IntKind} {n r : Nat} {f : Nat → Int} (h : Filling w wr e k n r f) : Filling w (wr.setCell ⟨w.heap.size, r, none⟩ (.int k (f r))) e k n (r + 1) f :=
  ⟨h.below.setCell (Nat.le_refl _) _, by simp [h.size], fill_set h.row⟩

theorem ints_of_row {w : World} {b e n : Nat} {k : IntKind} {f : Nat → Int} (h : w.rowIs b e n (fun i => .int k (f i))) : IntsAt k w (some ⟨b, 0, none⟩) n f := by
  by_cases h0 : n = 0
  · exact .inl h0
  · exact .inr ⟨b, 0, rfl, h.lt, fun i hi => by simpa using h.cell hi⟩

end Go.Proofs.YtcijcifhdakhoaaFmt.Ints
