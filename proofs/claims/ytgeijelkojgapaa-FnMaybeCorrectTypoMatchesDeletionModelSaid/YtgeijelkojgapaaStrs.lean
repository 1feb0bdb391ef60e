/-
  A slice of strings that came in: how it reads, and rows of strings that a loop fills. No condition.
-/
import Derived.Test.YtgeijelkojgapaaRowsI
import Derived.SliceStrings
namespace Go.Proofs.Ytgeijelkojgapaa.Ints
open Go.RowKit Go.ChangeShapes Go.WideShapes Go.ChangeAt

def StrsAt (w : World) (o : Option Addr) (n : Nat) (f : Nat → ByteArray) : Prop :=
  n = 0 ∨ ∃ b off, o = some ⟨b, off, none⟩ ∧ b < w.heap.size ∧ ∀ i, i < n → w.cell? ⟨b, off + i, none⟩ = some (.string (f i))
theorem StrsAt.below {w w' : World} {o : Option Addr} {n : Nat} {f : Nat → ByteArray} (h : StrsAt w o n f) (hB : Below w.heap.size w w') : StrsAt w' o n f := by
  rcases h with h | ⟨b, off, e, hb, hc⟩
  · exact .inl h
  · exact .inr ⟨b, off, e, Nat.lt_of_lt_of_le hb hB.size, fun i hi => (hB.cell (by exact hb)).trans (hc i hi)⟩
theorem openStrs {H : Type} {enc : TypeId × Value → H} {P : Program} {W : World} {spare : Nat → Bool} {held : Bool} {t e : TypeId} {fuel : Nat} {v : Value} {x : DataW H × List MemPlace}
    (ht : P.underlying t = some (.slice e)) (he : P.underlying e = some .string) (hc : P.cellsOf e = 1) (hf : DataW.trod enc P W 0 spare held fuel t [v] = some x) :
    ∃ o n cap f, v = .slice o n cap ∧ n ≤ cap ∧ cap ≤ maxLen ∧ StrsAt W o n f ∧ (∀ i, i < n → (f i).size ≤ maxLen) ∧ (o = none → n = 0 ∧ cap = 0) := by
  rcases open_strings ht he hc hf with ⟨hcs, hx⟩ | ⟨a, len, cap, ss, hcs, _, hl, hm, hz, hx, hi, hs⟩
  · simp only [List.cons.injEq, and_true] at hcs
    exact ⟨none, 0, 0, fun _ => ByteArray.empty, hcs, Nat.le_refl _, Nat.zero_le _, .inl rfl, fun i hi => absurd hi (by omega), fun _ => ⟨rfl, rfl⟩⟩
  · simp only [List.cons.injEq, and_true] at hcs
    have hlm : len ≤ ss.length := by rw [hz]; split <;> omega
    refine ⟨some a, len, cap, fun i => ss.getD i ByteArray.empty, hcs, hl, hm, ?_, fun i hin => ?_, fun h => by cases h⟩
    · by_cases h0 : len = 0
      · exact .inl h0
      · right
        obtain ⟨b, off, spot⟩ := a
        have hspot : spot = none := by simpa [Addr.add] using World.cell?_spot (hi 0 (by omega))
        subst hspot
        refine ⟨b, off, rfl, ?_, fun i hin => ?_⟩
        · have := lt_of_cell (hi 0 (by omega))
          simpa [Addr.add] using this
        · have h1 := hi i (by omega)
          rw [add_plain] at h1
          exact h1
    · have : ss.getD i ByteArray.empty = ss[i]'(by omega) := by simp [List.getD, show i < ss.length by omega]
      show (ss.getD i ByteArray.empty).size ≤ maxLen
      rw [this]
      exact hs _ (List.getElem_mem _)
def fillS (r : Nat) (f : Nat → ByteArray) : Nat → Value := fun i => if i < r then .string (f i) else .string ByteArray.empty
structure FillingS (w wr : World) (e : TypeId) (n r : Nat) (f : Nat → ByteArray) : Prop where
  below : Below w.heap.size w wr
  size : wr.heap.size = w.heap.size + 1
  row : wr.rowIs w.heap.size e n (fillS r f)
theorem fillS_set {w : World} {b e n r : Nat} {f : Nat → ByteArray} (h : w.rowIs b e n (fillS r f)) : (w.setCell ⟨b, r, none⟩ (.string (f r))).rowIs b e n (fillS (r + 1) f) := by
  refine (h.set r _).congr fun i _ => ?_
  simp only [fillS]
  by_cases e : i = r
  · subst e; simp
  · rw [if_neg e]
    by_cases hlt : i < r
    · rw [if_pos hlt, if_pos (by omega)]
    · rw [if_neg hlt, if_neg (by omega)]
theorem fillingS_start (w : World) (e : TypeId) (n : Nat) (f : Nat → ByteArray) : FillingS w (w.alloc (.cells (madeCells #[.string ByteArray.empty] n) e)) e n 0 f :=
  ⟨(Below.refl _ _).alloc (Nat.le_refl _) _, by simp, (World.rowIs_made w _ n e).congr (fun i _ => by simp [fillS])⟩
theorem fillingS_step {w wr : World} {e : TypeId} {n r : Nat} {f : Nat → ByteArray} (h : FillingS w wr e n r f) : FillingS w (wr.setCell ⟨w.heap.size, r, none⟩ (.string (f r))) e n (r + 1) f :=
  ⟨h.below.setCell (Nat.le_refl _) _, by simp [h.size], fillS_set h.row⟩
theorem strs_of_row {w : World} {b e n : Nat} {f : Nat → ByteArray} (h : w.rowIs b e n (fun i => .string (f i))) : StrsAt w (some ⟨b, 0, none⟩) n f := by
  by_cases h0 : n = 0
  · exact .inl h0
  · exact .inr ⟨b, 0, rfl, h.lt, fun i hi => by simpa using h.cell hi⟩
end Go.Proofs.Ytgeijelkojgapaa.Ints
