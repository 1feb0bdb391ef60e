/-
  Both ContainsNonBMP laws' last step: the string's answer and the units' answer agree. Condition: at most 2^20 bytes.
-/
import Derived.Test.YtgdcnkghjphmmaaRRBmpLaw
namespace Go.Proofs.YtgdcnkghjphmmaaRR.BmpWalk
open Go.RowKit Go.Proofs.YtgdcnkghjphmmaaRR.Hash Go.Proofs.YtgdcnkghjphmmaaRR.Dec Go.Proofs.YtgdcnkghjphmmaaRR.ToUtf16 Go.Proofs.YtgdcnkghjphmmaaRR.Bmp16 Go.Proofs.YtgdcnkghjphmmaaRR.Bmp Go.Proofs.YtgdcnkghjphmmaaRR.BmpLaw

theorem units_len (s : ByteArray) : ∀ (g pos : Nat), pos ≤ s.size → (units s g pos).length ≤ s.size - pos := by
  intro g
  induction g with
  | zero => intro pos _; simp [units]
  | succ g ih =>
    intro pos hle
    by_cases hp : pos < s.size
    · obtain ⟨d1, d2, d3⟩ := dec_facts s pos hp
      have hw := width_pos s pos hp
      have := ih _ d1
      rw [units, if_pos hp, List.length_append, enc]
      split
      · simp only [List.length_singleton]; omega
      · have := d2 (by omega)
        simp only [List.length_cons, List.length_nil]; omega
    · rw [units_end s _ pos hp]; exact Nat.zero_le _

theorem cells_of_own {w : World} {B cap : Nat} {xs : List Int} (h : w.ownsRow B 26 1 (.slice (some ⟨B, 0, none⟩) xs.length cap) xs.length (xs.map (.int .u16))) :
    ∀ i, i < xs.length → w.cell? ⟨B, 0 + i, none⟩ = some (.int .u16 (xs.getD i 0)) := by
  intro i hi
  rcases h.2 with ⟨e, _⟩ | ⟨g, c, cur, e, _, hg, _, _, _, ht⟩
  · cases e
  · cases e
    have h1 : cur.toList[i]? = some (.int .u16 (xs.getD i 0)) := by
      have : (cur.toList.take (xs.length * 1))[i]? = (xs.map (Value.int .u16))[i]? := by rw [ht]
      rw [List.getElem?_take_of_lt (by omega)] at this
      rw [this]
      simp [hi]
    simp only [World.cell?, hg, Nat.zero_add]
    simpa using h1

/-- The units' answer, in a world where they lie. -/
theorem answer (s : ByteArray) (hs : s.size ≤ 1048576) (B : Nat) (w : World) (h : w.ownsRow B 26 1 (.slice (some ⟨B, 0, none⟩) (units s s.size 0).length s.size) (units s s.size 0).length ((units s s.size 0).map (.int .u16))) :
    Calls Try.prog 8 #[.slice (some ⟨B, 0, none⟩) (units s s.size 0).length s.size] w fun e w' => e = .returned (.bool (nb s s.size 0)) ∧ w = w' := by
  have hl := units_len s s.size 0 (Nat.zero_le _)
  have := contains B 0 (units s s.size 0).length s.size (fun i => (units s s.size 0).getD i 0) w (by omega) (by omega) (cells_of_own h)
  rwa [any_lp, law] at this

def SomeBool (w : World) (e : Ending) (w' : World) : Prop := ∃ r : Bool, e = .returned (.bool r) ∧ w = w'
end Go.Proofs.YtgdcnkghjphmmaaRR.BmpWalk
