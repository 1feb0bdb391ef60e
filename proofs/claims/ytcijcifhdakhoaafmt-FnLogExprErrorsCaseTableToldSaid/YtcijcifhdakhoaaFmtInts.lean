/-
  A slice of integers that came in or was made: how it reads, cell by cell. No condition.
-/
import Derived.Test.YtcijcifhdakhoaaFmtRows
import Derived.WalkKit
import Derived.Below
import Derived.ChangeSlices
import Derived.Deep.OwnRows
import Derived.OpenShut
import Derived.ProofKit
import Derived.ChangeOld
namespace Go.Proofs.YtcijcifhdakhoaaFmt.Ints
open Go.RowKit Go.ChangeShapes Go.WideShapes Go.ChangeAt

/-- The slice at o holds n integers of kind k: the i-th is f i. -/
def IntsAt (k : IntKind) (w : World) (o : Option Addr) (n : Nat) (f : Nat → Int) : Prop :=
  n = 0 ∨ ∃ b off, o = some ⟨b, off, none⟩ ∧ b < w.heap.size ∧ ∀ i, i < n → w.cell? ⟨b, off + i, none⟩ = some (.int k (f i))

theorem IntsAt.below {k : IntKind} {w w' : World} {o : Option Addr} {n : Nat} {f : Nat → Int} (h : IntsAt k w o n f) (hB : Below w.heap.size w w') : IntsAt k w' o n f := by
  rcases h with h | ⟨b, off, e, hb, hc⟩
  · exact .inl h
  · exact .inr ⟨b, off, e, Nat.lt_of_lt_of_le hb hB.size, fun i hi => (hB.cell (by exact hb)).trans (hc i hi)⟩

theorem lt_of_cell {w : World} {a : Addr} {v : Value} (h : w.cell? a = some v) : a.block < w.heap.size := by
  by_cases hb : a.block < w.heap.size
  · exact hb
  · have : w.heap[a.block]? = none := Array.getElem?_eq_none (by omega)
    simp [World.cell?, this] at h

theorem openInts {H : Type} {enc : TypeId × Value → H} {P : Program} {W : World} {base : Nat} {spare : Nat → Bool} {held : Bool} {t e : TypeId} {k : IntKind} {v : Value} {d : DataW H} {ps : List MemPlace} {dom : Reach}
    (ht : P.underlying t = some (.slice e)) (he : P.underlying e = some (.int k)) (hc : P.cellsOf e = 1)
    (hv : Value.okWide P W dom base t v) (h : DataW.Trod enc P W 0 spare held t v d ps) :
    ∃ o n cap f, v = .slice o n cap ∧ n ≤ cap ∧ cap ≤ maxLen ∧ IntsAt k W o n f ∧ (∀ i, i < n → (Lit.int k (f i)).wf = true) ∧ (o = none → n = 0 ∧ cap = 0) := by
  obtain ⟨a0, len, cap, rfl⟩ := okWide_slice ht hv
  obtain ⟨fuel, hf⟩ := h
  rcases open_ints ht he hc hf with ⟨hcs, hx⟩ | ⟨a, len', cap', zs, hcs, _, hl, hm, hz, hx, hcell, hwz⟩
  · simp [Value.cells] at hcs
    obtain ⟨rfl, rfl, rfl⟩ := hcs
    exact ⟨none, 0, 0, fun _ => 0, rfl, Nat.le_refl _, Nat.zero_le _, .inl rfl, fun i hi => absurd hi (by omega), fun _ => ⟨rfl, rfl⟩⟩
  · simp [Value.cells] at hcs
    obtain ⟨rfl, rfl, rfl⟩ := hcs
    have hln : len ≤ zs.length := by rw [hz]; split <;> omega
    refine ⟨some a, len, cap, fun i => zs.getD i 0, rfl, hl, hm, ?_, fun i hi => ?_, fun h => by cases h⟩
    · by_cases h0 : len = 0
      · exact .inl h0
      · right
        obtain ⟨b, off, spot⟩ := a
        have hspot : spot = none := by simpa [Addr.add] using World.cell?_spot (hcell 0 (by omega))
        subst hspot
        refine ⟨b, off, rfl, ?_, fun i hi => ?_⟩
        · have := lt_of_cell (hcell 0 (by omega))
          simpa [Addr.add] using this
        · have := hcell i (by omega)
          rwa [add_plain] at this
    · have hi' : i < zs.length := by omega
      have : zs.getD i 0 = zs[i] := by simp [List.getD, hi']
      show (Lit.int k (zs.getD i 0)).wf = true
      rw [this]
      exact hwz _ (List.getElem_mem hi')

end Go.Proofs.YtcijcifhdakhoaaFmt.Ints
