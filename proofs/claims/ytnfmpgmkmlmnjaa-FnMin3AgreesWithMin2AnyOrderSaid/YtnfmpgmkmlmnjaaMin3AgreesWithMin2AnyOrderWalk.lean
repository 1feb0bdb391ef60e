/-
  The walk of FnMin3AgreesWithMin2AnyOrder: it returns true for every three floats. No condition.
-/
import Derived.Test.YtnfmpgmkmlmnjaaMinMax
import Derived.Test.YtnfmpgmkmlmnjaaHeld4
namespace Go.Proofs.Ytnfmpgmkmlmnjaa.fnMin3AgreesWithMin2AnyOrder
open Go.RowKit Fl Small2 Held4 MinMax

set_option maxHeartbeats 1000000 in
theorem fMin3 (a b t : Nat) (w : World) : Calls Try.prog 45 #[.agg #[.float .f64 a], .agg #[.float .f64 b], .agg #[.float .f64 t]] w (F64.GivesF (· = minV (minV a b) t) w) := by
  go_enter Try.func45, Try.ntmps45
  go_wp2
  have hS : ∃ W, W = (((w.alloc (Obj.cells #[Value.float FloatKind.f64 a] 27)).alloc (Obj.cells #[Value.float FloatKind.f64 b] 27)).alloc (Obj.cells #[Value.float FloatKind.f64 t] 27)).alloc (Obj.cells #[Value.float FloatKind.f64 0] 27) ∧
      (W.cell? ⟨w.heap.size, 0, none⟩ = some (.float .f64 a) ∧ W.cell? ⟨w.heap.size + 1, 0, none⟩ = some (.float .f64 b) ∧ W.cell? ⟨w.heap.size + 1 + 1, 0, none⟩ = some (.float .f64 t) ∧ W.cell? ⟨w.heap.size + 1 + 1 + 1, 0, none⟩ = some (.float .f64 (cv W ⟨w.heap.size + 1 + 1 + 1, 0, none⟩)) ∧ W.frozen? ⟨w.heap.size + 1 + 1 + 1, 0, none⟩ = false ∧ Below w.heap.size w W ∧ w.heap.size + 1 + 1 + 1 < W.heap.size) := by
    refine ⟨_, rfl, ?_, ?_, ?_, ?_, ?_, ?_, ?_⟩
    · go_simp
    · go_simp
    · go_simp
    · refine cv_of (r := 0) ?_
      go_simp
    · go_simp
    · repeat (first | exact Below.refl _ _ | refine bla ?_ _)
    · simp
  obtain ⟨W, hW, hS⟩ := hS
  rw [← hW]
  clear hW
  go_region_held3 (fun w' => w'.cell? ⟨w.heap.size, 0, none⟩ = some (.float .f64 a) ∧ w'.cell? ⟨w.heap.size + 1, 0, none⟩ = some (.float .f64 b) ∧ w'.cell? ⟨w.heap.size + 1 + 1, 0, none⟩ = some (.float .f64 t) ∧ w'.cell? ⟨w.heap.size + 1 + 1 + 1, 0, none⟩ = some (.float .f64 (cv w' ⟨w.heap.size + 1 + 1 + 1, 0, none⟩)) ∧ w'.frozen? ⟨w.heap.size + 1 + 1 + 1, 0, none⟩ = false ∧ Below w.heap.size w w' ∧ w.heap.size + 1 + 1 + 1 < w'.heap.size)
    (first | exact hS | exact keep4s rfl (by assumption) | exact keep4 (by assumption) (by first | assumption | exact Below.refl _ _ | exact (Below.refl _ _).drew | exact (Below.refl _ _).alloc (Nat.le_refl _) _ | exact below_drewN (Below.refl _ _) _))
    (first | (go_at_call 55; refine (mathMin _ _ _).mono ?_; rintro e w1 ⟨rfl, rfl⟩) | (go_at_call 16; refine (newB _ _).mono ?_; rintro e w1 ⟨rfl, hb1⟩))
  have k1 := keep4 (keep4 hS (Below.refl _ _).drew) hb1
  have hc := World.cell?_setCell_same' w1 ⟨w.heap.size + 1 + 1 + 1, 0, none⟩ (.float .f64 (minV (minV a b) t)) (by rw [k1.2.2.2.1]; rfl)
  have hB := (keep4s (r := minV (minV a b) t) rfl k1).2.2.2.2.2.1
  rename_i hH
  clear hH k1 hb1 hS
  go_wp2
  exact bodyPost_ret (v := .agg #[.float .f64 (minV (minV a b) t)]) (by simp [results, Try.results45, go_sem, hc]) rfl ⟨_, rfl, rfl, hB⟩

theorem min3 (a b c : Nat) (w : World) : Calls Try.prog 22 #[.float .f64 a, .float .f64 b, .float .f64 c] w (GivesB (minV (minV a b) c) w) := by
  go_enter Try.func22, Try.ntmps22
  go_wp2_with (first | (go_at_call 16; refine (F64.newF64 _ _).mono ?_; rintro e w' ⟨rfl, rfl⟩) | (go_at_call 18; refine (F64.value _ _).mono ?_; rintro e w1 ⟨rfl, rfl⟩) | (go_at_call 45; refine (fMin3 _ _ _ _).mono ?_; rintro e w1 ⟨r, rfl, rfl, hb⟩))
  go_ret
  refine ⟨rfl, ?_⟩
  repeat (first | exact Below.refl _ _ | refine below_drewN ?_ _ | refine bla ?_ _ | refine bl ?_ (by assumption))

theorem r1 (a b c : Nat) : same (minV (minV a b) c) (minV (minV c a) b) = true := by
  rw [same_nk, nk_min, nk_min, nk_min, nk_min]; exact decide_eq_true (by omega)
theorem r2 (a b c : Nat) : same (minV (minV a b) c) (minV (minV b c) a) = true := by
  rw [same_nk, nk_min, nk_min, nk_min, nk_min]; exact decide_eq_true (by omega)

set_option maxHeartbeats 1000000 in
theorem walk (a0 : Nat) (_w0 : (Lit.float .f64 a0).wf = true) (a1 : Nat) (_w1 : (Lit.float .f64 a1).wf = true) (a2 : Nat) (_w2 : (Lit.float .f64 a2).wf = true) (w : World) :
    Calls Try.prog 6 #[.float .f64 a0, .float .f64 a1, .float .f64 a2] w fun e w' => e = .returned (.bool true) ∧ Below w.heap.size w w' := by
  have h1 := r1 a0 a1 a2
  have h2 := r2 a0 a1 a2
  go_enter Try.func6, Try.ntmps6
  go_wp2_with (first | (go_at_call 22; refine (min3 _ _ _ _).mono ?_; rintro e w1 ⟨rfl, hb⟩) | (go_at_call 15; refine (MinMax.min2 _ _ _).mono ?_; rintro e w1 ⟨rfl, hb⟩) | (go_at_call 14; refine (Same.sameF195 _ _ _).mono ?_; rintro e w1 ⟨rfl, n, rfl⟩))
  go_ret
  refine ⟨congrArg (fun b => Ending.returned (.bool b)) (by first | rfl | exact h1), ?_⟩
  repeat (first | exact Below.refl _ _ | refine below_drewN ?_ _ | refine bla ?_ _ | refine bl ?_ (by assumption))
end Go.Proofs.Ytnfmpgmkmlmnjaa.fnMin3AgreesWithMin2AnyOrder
