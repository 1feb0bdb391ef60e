/-
  Worlds that part from W in one block N of W's (a result that lies in memory) and in new blocks alone. No condition.
-/
import Derived.Test.YtdiedidmjpihjaaRowsI
namespace Go.Proofs.Ytdiedidmjpihjaa.Ints
open Go.RowKit Go.Deep

def cvv (w : World) (a : Addr) : Value := (w.cell? a).getD undef
theorem cvv_of {w : World} {a : Addr} {v : Value} (h : w.cell? a = some v) : w.cell? a = some (cvv w a) := by unfold cvv; rw [h]; rfl
structure But (N : Nat) (t : TypeId) (k : Nat) (W w' : World) : Prop where
  below : Below N W w'
  block : ∀ b, b < W.heap.size → b ≠ N → w'.heap[b]? = W.heap[b]?
  row : ∃ F, w'.rowIs N t k F
  lt : N < W.heap.size
section
variable {N k : Nat} {t : TypeId} {W w' w1 : World}
theorem But.start {F : Nat → Value} (hR : W.rowIs N t k F) : But N t k W W := ⟨Below.refl _ _, fun _ _ _ => rfl, ⟨F, hR⟩, hR.lt⟩
theorem But.next (h : But N t k W w') (hb : Below w'.heap.size w' w1) : But N t k W w1 := by
  have hs := h.below.size
  obtain ⟨F, hR⟩ := h.row
  exact ⟨h.below.trans (hb.mono (by have := h.lt; omega)), fun b h1 h2 => (hb.block b (by omega)).trans (h.block b h1 h2), ⟨F, hR.of_block (hb.block _ hR.lt)⟩, h.lt⟩
theorem But.set (h : But N t k W w') (j : Nat) (v : Value) : But N t k W (w'.setCell ⟨N, j, none⟩ v) := by
  obtain ⟨F, hR⟩ := h.row
  exact ⟨h.below.setCell (Nat.le_refl _) _, fun b h1 h2 => (blk_setCell_other _ _ _ _ h2).trans (h.block b h1 h2), ⟨_, hR.set j v⟩, h.lt⟩
theorem But.drew (h : But N t k W w') : But N t k W w'.drew := h.next (Below.refl _ _).drew
theorem But.cell (h : But N t k W w') {b o : Nat} {v : Value} (g : W.cell? ⟨b, o, none⟩ = some v) (hn : b ≠ N) : w'.cell? ⟨b, o, none⟩ = some v :=
  (World.cell?_of_block (w := W) (h.block b (lt_of_cell g) hn)).trans g
theorem But.cellv (h : But N t k W w') {j : Nat} (hj : j < k) : w'.cell? ⟨N, j, none⟩ = some (cvv w' ⟨N, j, none⟩) := by
  obtain ⟨F, hR⟩ := h.row
  exact cvv_of (hR.cell hj)
theorem But.frozen (h : But N t k W w') (j : Nat) : w'.frozen? ⟨N, j, none⟩ = false := by
  obtain ⟨F, hR⟩ := h.row
  exact hR.frozen j
end
end Go.Proofs.Ytdiedidmjpihjaa.Ints
