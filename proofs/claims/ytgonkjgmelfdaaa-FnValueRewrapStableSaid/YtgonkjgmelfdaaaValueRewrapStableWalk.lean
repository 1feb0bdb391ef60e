/-
  The walk of FnValueRewrapStable: it returns true for every float. No condition.
-/
import Derived.Test.YtgonkjgmelfdaaaSame
import Derived.Deep.RegionHeld3
namespace Go.Proofs.Ytgonkjgmelfdaaa.fnValueRewrapStable
open Go.RowKit Fl

theorem keep2 {b1 b2 : Nat} {v1 v2 : Value} {w W w1 : World} (h : W.cell? ⟨b1, 0, none⟩ = some v1 ∧ W.cell? ⟨b2, 0, none⟩ = some v2 ∧ Below w.heap.size w W ∧ b1 < W.heap.size ∧ b2 < W.heap.size) (hb : Below W.heap.size W w1) :
    w1.cell? ⟨b1, 0, none⟩ = some v1 ∧ w1.cell? ⟨b2, 0, none⟩ = some v2 ∧ Below w.heap.size w w1 ∧ b1 < w1.heap.size ∧ b2 < w1.heap.size := by
  obtain ⟨h1, h2, h3, h4, h5⟩ := h
  have hs := hb.size
  have hs0 := h3.size
  refine ⟨?_, ?_, h3.trans (hb.mono (by omega)), by omega, by omega⟩
  · rw [hb.cell (p := ⟨b1, 0, none⟩) h4]; exact h1
  · rw [hb.cell (p := ⟨b2, 0, none⟩) h5]; exact h2

theorem same51 (x : Nat) (w : World) : Calls Try.prog 23 #[.float .f64 x, .float .f64 x] w (Same.SaysB true w) := by
  have h := Same.sameFloat51 x x w
  rw [same_refl] at h
  exact h.mono fun _ _ h => h.toB

set_option maxHeartbeats 1000000 in
theorem walk (a0 : Nat) (_w0 : (Lit.float .f64 a0).wf = true) (w : World) :
    Calls Try.prog 8 #[.float .f64 a0] w fun e w' => e = .returned (.bool true) ∧ Below w.heap.size w w' := by
  go_enter Try.func8, Try.ntmps8
  go_wp2_with (first | (go_at_call 11; refine (F64.newF64 _ _).mono ?_; rintro e w' ⟨rfl, rfl⟩) | (go_at_call 13; refine (F64.value _ _).mono ?_; rintro e w1 ⟨rfl, rfl⟩))
  have hS : ∃ W, W = ((((w.alloc (Obj.cells #[Value.float FloatKind.f64 a0] 25)).alloc (Obj.cells #[Value.float FloatKind.f64 a0] 25)).alloc (Obj.cells #[Value.float FloatKind.f64 a0] 25)).alloc (Obj.cells #[Value.float FloatKind.f64 a0] 25)).alloc (Obj.cells #[Value.float FloatKind.f64 a0] 25) ∧
      (W.cell? ⟨w.heap.size + 1, 0, none⟩ = some (.float .f64 a0) ∧ W.cell? ⟨w.heap.size + 1 + 1 + 1 + 1, 0, none⟩ = some (.float .f64 a0) ∧ Below w.heap.size w W ∧ w.heap.size + 1 < W.heap.size ∧ w.heap.size + 1 + 1 + 1 + 1 < W.heap.size) := by
    refine ⟨_, rfl, ?_, ?_, ?_, ?_, ?_⟩
    · go_simp
    · go_simp
    · repeat (first | exact Below.refl _ _ | refine Below.alloc ?_ (by simp; try omega) _)
    · simp
    · simp
  obtain ⟨W, hW, hS⟩ := hS
  rw [← hW]
  clear hW
  generalize w.heap.size + 1 = b1 at *
  generalize b1 + 1 + 1 + 1 = b2 at *
  go_region_held3 (fun w' => w'.cell? ⟨b1, 0, none⟩ = some (.float .f64 a0) ∧ w'.cell? ⟨b2, 0, none⟩ = some (.float .f64 a0) ∧ Below w.heap.size w w' ∧ b1 < w'.heap.size ∧ b2 < w'.heap.size) (first | exact hS | exact keep2 (by assumption) (by first | assumption | exact (Below.refl _ _).drew | exact (Below.refl _ _).alloc (Nat.le_refl _) _ | exact below_drewN (Below.refl _ _) _))
    (first | (go_at_call 13; refine (F64.value _ _).mono ?_; rintro e w1 ⟨rfl, rfl⟩) | (go_at_call 23; refine (same51 _ _).mono ?_; rintro e w1 ⟨rfl, hb⟩) | (go_at_call 24; refine (Same.fIsNaN _ _).mono ?_; rintro e w1 ⟨rfl, rfl⟩))
  rename_i hH
  have hB := hH.2.2.1
  clear hH hS
  go_wp2
  go_ret
  exact ⟨rfl, hB⟩
end Go.Proofs.Ytgonkjgmelfdaaa.fnValueRewrapStable
