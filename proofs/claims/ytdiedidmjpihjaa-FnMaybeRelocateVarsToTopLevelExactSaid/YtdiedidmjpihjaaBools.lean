/-
  A slice of booleans that came in: how it reads, and rows of booleans that a loop fills. No condition.
-/
import Derived.Test.YtdiedidmjpihjaaRowsI
import Derived.Deep.Slices
namespace Go.Proofs.Ytdiedidmjpihjaa.Ints
open Go.RowKit Go.ChangeShapes Go.WideShapes Go.ChangeAt

def BoolsAt (w : World) (o : Option Addr) (n : Nat) (f : Nat → Bool) : Prop :=
  n = 0 ∨ ∃ b off, o = some ⟨b, off, none⟩ ∧ b < w.heap.size ∧ ∀ i, i < n → w.cell? ⟨b, off + i, none⟩ = some (.bool (f i))
theorem BoolsAt.below {w w' : World} {o : Option Addr} {n : Nat} {f : Nat → Bool} (h : BoolsAt w o n f) (hB : Below w.heap.size w w') : BoolsAt w' o n f := by
  rcases h with h | ⟨b, off, e, hb, hc⟩
  · exact .inl h
  · exact .inr ⟨b, off, e, Nat.lt_of_lt_of_le hb hB.size, fun i hi => (hB.cell (by exact hb)).trans (hc i hi)⟩
def isT : Value → Bool
  | .bool b => b
  | _ => false
theorem openBools {H : Type} {enc : TypeId × Value → H} {P : Program} {W : World} {base : Nat} {spare : Nat → Bool} {held : Bool} {t e : TypeId} {v : Value} {d : DataW H} {ps : List MemPlace} {dom : Reach}
    (ht : P.underlying t = some (.slice e)) (he : P.underlying e = some .bool) (hc : P.cellsOf e = 1)
    (hv : Value.okWide P W dom base t v) (h : DataW.Trod enc P W 0 spare held t v d ps) :
    ∃ o n cap f, v = .slice o n cap ∧ n ≤ cap ∧ cap ≤ maxLen ∧ BoolsAt W o n f ∧ (o = none → n = 0 ∧ cap = 0) := by
  obtain ⟨a0, len, cap, rfl⟩ := okWide_slice ht hv
  obtain ⟨fuel, hf⟩ := h
  rcases Go.Deep.open_slice1 ht hc hf with ⟨hcs, hx⟩ | ⟨a, len', cap', m, k, V, D, Pl, hcs, _, hl, hm, hmm, hx, hi⟩
  · simp [Value.cells] at hcs
    obtain ⟨rfl, rfl, rfl⟩ := hcs
    exact ⟨none, 0, 0, fun _ => false, rfl, Nat.le_refl _, Nat.zero_le _, .inl rfl, fun _ => ⟨rfl, rfl⟩⟩
  · simp [Value.cells] at hcs
    obtain ⟨rfl, rfl, rfl⟩ := hcs
    have hlm : len ≤ m := by rw [hmm]; split <;> omega
    refine ⟨some a, len, cap, fun i => isT (V i), rfl, hl, hm, ?_, fun h => by cases h⟩
    by_cases h0 : len = 0
    · exact .inl h0
    · right
      obtain ⟨b, off, spot⟩ := a
      have hspot : spot = none := by simpa [Addr.add] using World.cell?_spot (hi 0 (by omega)).1
      subst hspot
      refine ⟨b, off, rfl, ?_, fun i hin => ?_⟩
      · have := lt_of_cell (hi 0 (by omega)).1
        simpa [Addr.add] using this
      · obtain ⟨h1, h2⟩ := hi i (by omega)
        obtain ⟨x, e2, _⟩ := DataW.trod_bool he h2
        simp only [List.cons.injEq, and_true] at e2
        rw [add_plain] at h1
        show _ = some (Value.bool (isT (V i)))
        rw [e2] at h1 ⊢
        exact h1
def fillB (r : Nat) (f : Nat → Bool) : Nat → Value := fun i => if i < r then .bool (f i) else .bool false
structure FillingB (w wr : World) (e : TypeId) (n r : Nat) (f : Nat → Bool) : Prop where
  below : Below w.heap.size w wr
  size : wr.heap.size = w.heap.size + 1
  row : wr.rowIs w.heap.size e n (fillB r f)
theorem fillB_set {w : World} {b e n r : Nat} {f : Nat → Bool} (h : w.rowIs b e n (fillB r f)) : (w.setCell ⟨b, r, none⟩ (.bool (f r))).rowIs b e n (fillB (r + 1) f) := by
  refine (h.set r _).congr fun i _ => ?_
  simp only [fillB]
  by_cases e : i = r
  · subst e; simp
  · rw [if_neg e]
    by_cases hlt : i < r
    · rw [if_pos hlt, if_pos (by omega)]
    · rw [if_neg hlt, if_neg (by omega)]
theorem fillingB_start (w : World) (e : TypeId) (n : Nat) (f : Nat → Bool) : FillingB w (w.alloc (.cells (madeCells #[.bool false] n) e)) e n 0 f :=
  ⟨(Below.refl _ _).alloc (Nat.le_refl _) _, by simp, (World.rowIs_made w _ n e).congr (fun i _ => by simp [fillB])⟩
theorem fillingB_step {w wr : World} {e : TypeId} {n r : Nat} {f : Nat → Bool} (h : FillingB w wr e n r f) : FillingB w (wr.setCell ⟨w.heap.size, r, none⟩ (.bool (f r))) e n (r + 1) f :=
  ⟨h.below.setCell (Nat.le_refl _) _, by simp [h.size], fillB_set h.row⟩
theorem bools_of_row {w : World} {b e n : Nat} {f : Nat → Bool} (h : w.rowIs b e n (fun i => .bool (f i))) : BoolsAt w (some ⟨b, 0, none⟩) n f := by
  by_cases h0 : n = 0
  · exact .inl h0
  · exact .inr ⟨b, 0, rfl, h.lt, fun i hi => by simpa using h.cell hi⟩
end Go.Proofs.Ytdiedidmjpihjaa.Ints
