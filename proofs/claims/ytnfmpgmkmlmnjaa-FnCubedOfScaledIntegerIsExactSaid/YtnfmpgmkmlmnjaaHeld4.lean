/-
  What a drawn region may keep of the world: a few cells of floats, the last of them written at the end. No condition.
-/
import Derived.Test.YtnfmpgmkmlmnjaaSmall2
import Derived.Deep.RegionHeld3
namespace Go.Proofs.Ytnfmpgmkmlmnjaa.Held4
open Go.RowKit Fl Small2

/-- What a cell holds as a float. -/
def cv (w : World) (a : Addr) : Nat := match w.cell? a with | some (.float _ r) => r | _ => 0
theorem cv_of {w : World} {a : Addr} {r : Nat} (h : w.cell? a = some (.float .f64 r)) : w.cell? a = some (.float .f64 (cv w a)) := by
  unfold cv; rw [h]

theorem keep4 {b : Nat} {va vb vt : Value} {w W w1 : World}
    (h : W.cell? ⟨b, 0, none⟩ = some va ∧ W.cell? ⟨b + 1, 0, none⟩ = some vb ∧ W.cell? ⟨b + 1 + 1, 0, none⟩ = some vt ∧ W.cell? ⟨b + 1 + 1 + 1, 0, none⟩ = some (.float .f64 (cv W ⟨b + 1 + 1 + 1, 0, none⟩)) ∧ W.frozen? ⟨b + 1 + 1 + 1, 0, none⟩ = false ∧ Below w.heap.size w W ∧ b + 1 + 1 + 1 < W.heap.size) (hb : Below W.heap.size W w1) :
    w1.cell? ⟨b, 0, none⟩ = some va ∧ w1.cell? ⟨b + 1, 0, none⟩ = some vb ∧ w1.cell? ⟨b + 1 + 1, 0, none⟩ = some vt ∧ w1.cell? ⟨b + 1 + 1 + 1, 0, none⟩ = some (.float .f64 (cv w1 ⟨b + 1 + 1 + 1, 0, none⟩)) ∧ w1.frozen? ⟨b + 1 + 1 + 1, 0, none⟩ = false ∧ Below w.heap.size w w1 ∧ b + 1 + 1 + 1 < w1.heap.size := by
  obtain ⟨h1, h2, h3, h4, h5, h6, h7⟩ := h
  have hs := hb.size
  refine ⟨?_, ?_, ?_, ?_, ?_, bl h6 hb, by omega⟩
  · rw [hb.cell (p := ⟨b, 0, none⟩) (show b < _ by omega)]; exact h1
  · rw [hb.cell (p := ⟨b + 1, 0, none⟩) (show b + 1 < _ by omega)]; exact h2
  · rw [hb.cell (p := ⟨b + 1 + 1, 0, none⟩) (show b + 1 + 1 < _ by omega)]; exact h3
  · refine cv_of (r := cv W ⟨b + 1 + 1 + 1, 0, none⟩) ?_
    rw [hb.cell (p := ⟨b + 1 + 1 + 1, 0, none⟩) h7]; exact h4
  · rw [hb.frozen (p := ⟨b + 1 + 1 + 1, 0, none⟩) h7]; exact h5
theorem keep4s {b : Nat} {va vb vt : Value} {r : Nat} {w W : World} (hwb : w.heap.size = b)
    (h : W.cell? ⟨b, 0, none⟩ = some va ∧ W.cell? ⟨b + 1, 0, none⟩ = some vb ∧ W.cell? ⟨b + 1 + 1, 0, none⟩ = some vt ∧ W.cell? ⟨b + 1 + 1 + 1, 0, none⟩ = some (.float .f64 (cv W ⟨b + 1 + 1 + 1, 0, none⟩)) ∧ W.frozen? ⟨b + 1 + 1 + 1, 0, none⟩ = false ∧ Below w.heap.size w W ∧ b + 1 + 1 + 1 < W.heap.size) :
    (W.setCell ⟨b + 1 + 1 + 1, 0, none⟩ (.float .f64 r)).cell? ⟨b, 0, none⟩ = some va ∧ (W.setCell ⟨b + 1 + 1 + 1, 0, none⟩ (.float .f64 r)).cell? ⟨b + 1, 0, none⟩ = some vb ∧ (W.setCell ⟨b + 1 + 1 + 1, 0, none⟩ (.float .f64 r)).cell? ⟨b + 1 + 1, 0, none⟩ = some vt ∧ (W.setCell ⟨b + 1 + 1 + 1, 0, none⟩ (.float .f64 r)).cell? ⟨b + 1 + 1 + 1, 0, none⟩ = some (.float .f64 (cv (W.setCell ⟨b + 1 + 1 + 1, 0, none⟩ (.float .f64 r)) ⟨b + 1 + 1 + 1, 0, none⟩)) ∧ (W.setCell ⟨b + 1 + 1 + 1, 0, none⟩ (.float .f64 r)).frozen? ⟨b + 1 + 1 + 1, 0, none⟩ = false ∧ Below w.heap.size w (W.setCell ⟨b + 1 + 1 + 1, 0, none⟩ (.float .f64 r)) ∧ b + 1 + 1 + 1 < (W.setCell ⟨b + 1 + 1 + 1, 0, none⟩ (.float .f64 r)).heap.size := by
  obtain ⟨h1, h2, h3, h4, h5, h6, h7⟩ := h
  have hh : ∀ k, k ≠ b + 1 + 1 + 1 → (W.setCell ⟨b + 1 + 1 + 1, 0, none⟩ (.float .f64 r)).heap[k]? = W.heap[k]? := fun k hk => Below.heap_setCell W ⟨b + 1 + 1 + 1, 0, none⟩ _ k hk
  refine ⟨?_, ?_, ?_, ?_, ?_, h6.setCell (by show w.heap.size ≤ b + 1 + 1 + 1; omega) _, ?_⟩
  · rw [World.cell?_of_block (w := W) (hh b (by omega))]; exact h1
  · rw [World.cell?_of_block (w := W) (hh (b + 1) (by omega))]; exact h2
  · rw [World.cell?_of_block (w := W) (hh (b + 1 + 1) (by omega))]; exact h3
  · refine cv_of (r := r) ?_
    go_simp
  · go_simp
  · simpa using h7


theorem keep2 {b : Nat} {va : Value} {w W w1 : World}
    (h : W.cell? ⟨b, 0, none⟩ = some va ∧ W.cell? ⟨b + 1, 0, none⟩ = some (.float .f64 (cv W ⟨b + 1, 0, none⟩)) ∧ W.frozen? ⟨b + 1, 0, none⟩ = false ∧ Below w.heap.size w W ∧ b + 1 < W.heap.size) (hb : Below W.heap.size W w1) :
    w1.cell? ⟨b, 0, none⟩ = some va ∧ w1.cell? ⟨b + 1, 0, none⟩ = some (.float .f64 (cv w1 ⟨b + 1, 0, none⟩)) ∧ w1.frozen? ⟨b + 1, 0, none⟩ = false ∧ Below w.heap.size w w1 ∧ b + 1 < w1.heap.size := by
  obtain ⟨h1, h4, h5, h6, h7⟩ := h
  have hs := hb.size
  refine ⟨?_, ?_, ?_, bl h6 hb, by omega⟩
  · rw [hb.cell (p := ⟨b, 0, none⟩) (show b < _ by omega)]; exact h1
  · refine cv_of (r := cv W ⟨b + 1, 0, none⟩) ?_
    rw [hb.cell (p := ⟨b + 1, 0, none⟩) h7]; exact h4
  · rw [hb.frozen (p := ⟨b + 1, 0, none⟩) h7]; exact h5
theorem keep2s {b : Nat} {va : Value} {r : Nat} {w W : World} (hwb : w.heap.size = b)
    (h : W.cell? ⟨b, 0, none⟩ = some va ∧ W.cell? ⟨b + 1, 0, none⟩ = some (.float .f64 (cv W ⟨b + 1, 0, none⟩)) ∧ W.frozen? ⟨b + 1, 0, none⟩ = false ∧ Below w.heap.size w W ∧ b + 1 < W.heap.size) :
    (W.setCell ⟨b + 1, 0, none⟩ (.float .f64 r)).cell? ⟨b, 0, none⟩ = some va ∧ (W.setCell ⟨b + 1, 0, none⟩ (.float .f64 r)).cell? ⟨b + 1, 0, none⟩ = some (.float .f64 (cv (W.setCell ⟨b + 1, 0, none⟩ (.float .f64 r)) ⟨b + 1, 0, none⟩)) ∧ (W.setCell ⟨b + 1, 0, none⟩ (.float .f64 r)).frozen? ⟨b + 1, 0, none⟩ = false ∧ Below w.heap.size w (W.setCell ⟨b + 1, 0, none⟩ (.float .f64 r)) ∧ b + 1 < (W.setCell ⟨b + 1, 0, none⟩ (.float .f64 r)).heap.size := by
  obtain ⟨h1, h4, h5, h6, h7⟩ := h
  have hh : ∀ k, k ≠ b + 1 → (W.setCell ⟨b + 1, 0, none⟩ (.float .f64 r)).heap[k]? = W.heap[k]? := fun k hk => Below.heap_setCell W ⟨b + 1, 0, none⟩ _ k hk
  refine ⟨?_, ?_, ?_, h6.setCell (by show w.heap.size ≤ b + 1; omega) _, ?_⟩
  · rw [World.cell?_of_block (w := W) (hh b (by omega))]; exact h1
  · refine cv_of (r := r) ?_
    go_simp
  · go_simp
  · simpa using h7
theorem newB (x : Nat) (w : World) : Calls Try.prog 16 #[.float .f64 x] w fun e w' => e = .returned (.agg #[.float .f64 x]) ∧ Below w.heap.size w w' :=
  (F64.newF64 x w).mono fun _ _ ⟨he, hw⟩ => ⟨he, by rw [← hw]; exact (Below.refl _ _).alloc (Nat.le_refl _) _⟩
end Go.Proofs.Ytnfmpgmkmlmnjaa.Held4
