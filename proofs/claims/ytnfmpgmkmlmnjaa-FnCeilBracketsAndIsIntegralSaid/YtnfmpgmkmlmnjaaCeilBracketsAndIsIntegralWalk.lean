/-
  The walk of FnCeilBracketsAndIsIntegral: it returns true for every float. No condition.
-/
import Derived.Test.YtnfmpgmkmlmnjaaCeilMath
namespace Go.Proofs.Ytnfmpgmkmlmnjaa.fnCeilBracketsAndIsIntegral
open Go.RowKit Fl Small2 FloorMath CeilMath Itg
theorem bcell {W w1 : World} (hb : Below W.heap.size W w1) : ∀ b o, b < W.heap.size → w1.cell? ⟨b, o, none⟩ = W.cell? ⟨b, o, none⟩ := fun b o h => hb.cell (p := ⟨b, o, none⟩) h

def GivesW (v : Nat) (w : World) (e : Ending) (w' : World) : Prop := e = .returned (.agg #[.float .f64 v]) ∧ Below w.heap.size w w'
theorem ceilE {x F : Nat} (hn : nan x = false) (hF : D.write ((D.read x).integral .up) = F) (w : World) : Calls Try.prog 38 #[.agg #[.float .f64 x]] w (GivesW F w) := by
  refine (ceil x w).mono ?_
  rintro e w' ⟨r, h, rfl, hb⟩
  unfold FI at h
  rw [hn, hF] at h
  have h : r = F := by simpa using h
  subst h
  exact ⟨rfl, hb⟩
theorem floorE {x F : Nat} (hn : nan x = false) (hF : D.write ((D.read x).integral .down) = F) (w : World) : Calls Try.prog 40 #[.agg #[.float .f64 x]] w (GivesW F w) := by
  refine (floor x w).mono ?_
  rintro e w' ⟨r, h, rfl, hb⟩
  unfold FI at h
  rw [hn, hF] at h
  have h : r = F := by simpa using h
  subst h
  exact ⟨rfl, hb⟩
theorem sameE (x : Nat) (w : World) : Calls Try.prog 39 #[.float .f64 x, .float .f64 x] w (Same.Says true w) := by
  have h := Same.zzSame57 x x w
  rw [same_refl] at h
  exact h

theorem gt_max {x : Nat} (hn : nan x = false) : (D.order x 9218868437227405311 == some .gt) = decide (9218868437227405311 < Ie.key x) := by rw [gtr_key hn nan_max, key_max]
theorem lt_min {x : Nat} (hn : nan x = false) : (D.order x 18442240474082181119 == some .lt) = decide (Ie.key x < -9218868437227405311) := by rw [lss_key hn nan_min, key_min]
theorem lt_T {x : Nat} (hn : nan x = false) : (D.order x 4841369599423283200 == some .lt) = decide (Ie.key x < 4841369599423283200) := by rw [lss_key hn nan_T, key_T]
theorem gt_T {x : Nat} (hn : nan x = false) : (D.order x 14064741636278059008 == some .gt) = decide (-4841369599423283200 < Ie.key x) := by rw [gtr_key hn nan_T', key_T']

set_option maxHeartbeats 2000000 in
theorem walk (a0 : Nat) (w0 : (Lit.float .f64 a0).wf = true) (w : World) :
    Calls Try.prog 11 #[.float .f64 a0] w fun e w' => e = .returned (.bool true) ∧ Below w.heap.size w w' := by
  have hx : a0 < 2 ^ 64 := by simpa [Lit.wf] using w0
  cases hn : nan a0 with
  | true =>
    go_enter Try.func11, Try.ntmps11
    go_wp2_with (first | (go_at_call 16; refine (F64.newF64 _ _).mono ?_; rintro e w' ⟨rfl, rfl⟩) | (go_at_call 18; refine (F64.value _ _).mono ?_; rintro e w1 ⟨rfl, rfl⟩) | (go_at_call 38; refine (ceil _ _).mono ?_; rintro e w1 ⟨r, hr, rfl, hb⟩; replace hr := Lib.hid hr))
    go_ret
    have h := hr.out
    unfold FI at h
    rw [hn] at h
    refine ⟨congrArg (fun b => Ending.returned (.bool b)) (by simpa using h), ?_⟩
    repeat (first | exact Below.refl _ _ | refine below_drewN ?_ _ | refine bla ?_ _ | refine bl ?_ (by assumption))
  | false =>
    have g1 := gt_max hn
    have g2 := lt_min hn
    have g3 := lt_T hn
    have g4 := gt_T hn
    have hk := key_abs a0
    by_cases hbig : 1075 * 2 ^ 52 ≤ Ie.rg a0
    · have hF := itg_big .up a0 hx hn hbig
      have hF2 := itg_big .down a0 hx hn hbig
      have hlt : (D.order a0 a0 == some .lt) = false := by rw [order_self, hn]; rfl
      rw [← T_eq] at hbig
      have hbig' : 4841369599423283200 ≤ Ie.rg a0 := hbig
      have g34 : (decide (Ie.key a0 < 4841369599423283200) && decide (-4841369599423283200 < Ie.key a0)) = false := by
        rw [← Bool.decide_and]
        refine decide_eq_false ?_
        split at hk <;> omega
      by_cases hinf : 9218868437227405311 < Ie.key a0 ∨ Ie.key a0 < -9218868437227405311
      · cases b1 : decide (9218868437227405311 < Ie.key a0) <;> cases b2 : decide (Ie.key a0 < -9218868437227405311)
        case false.false => exact absurd hinf (by have := of_decide_eq_false b1; have := of_decide_eq_false b2; omega)
        all_goals
          rw [b1] at g1
          rw [b2] at g2
          clear b1 b2 hinf hk g3 g4 g34 hbig hbig'
          go_enter Try.func11, Try.ntmps11
          go_wp2_with (first | (go_at_call 16; refine (F64.newF64 _ _).mono ?_; rintro e w' ⟨rfl, rfl⟩) | (go_at_call 18; refine (F64.value _ _).mono ?_; rintro e w1 ⟨rfl, rfl⟩) | (go_at_call 39; refine (sameE _ _).mono ?_; rintro e w1 ⟨rfl, n, rfl⟩))
          refine (ceilE hn hF _).mono ?_
          rintro e w1 ⟨rfl, hb⟩
          go_wp2_with (first | (go_at_call 16; refine (F64.newF64 _ _).mono ?_; rintro e w' ⟨rfl, rfl⟩) | (go_at_call 18; refine (F64.value _ _).mono ?_; rintro e w1 ⟨rfl, rfl⟩) | (go_at_call 39; refine (sameE _ _).mono ?_; rintro e w1 ⟨rfl, n, rfl⟩))
          go_ret
          refine ⟨rfl, ?_⟩
          repeat (first | exact Below.refl _ _ | refine below_drewN ?_ _ | refine bla ?_ _ | refine bl ?_ (by assumption))
      · rw [decide_eq_false (by omega)] at g1
        rw [decide_eq_false (by omega)] at g2
        cases b3 : decide (Ie.key a0 < 4841369599423283200) <;> cases b4 : decide (-4841369599423283200 < Ie.key a0)
        case true.true => rw [b3, b4] at g34; cases g34
        all_goals
          rw [b3] at g3
          rw [b4] at g4
          clear b3 b4 hinf hk g34 hbig hbig'
          go_enter Try.func11, Try.ntmps11
          go_wp2_with (first | (go_at_call 16; refine (F64.newF64 _ _).mono ?_; rintro e w' ⟨rfl, rfl⟩) | (go_at_call 18; refine (F64.value _ _).mono ?_; rintro e w1 ⟨rfl, rfl⟩) | (go_at_call 39; refine (sameE _ _).mono ?_; rintro e w1 ⟨rfl, n, rfl⟩))
          refine (ceilE hn hF _).mono ?_
          rintro e w1 ⟨rfl, hb⟩
          go_wp2_with (first | (go_at_call 16; refine (F64.newF64 _ _).mono ?_; rintro e w' ⟨rfl, rfl⟩) | (go_at_call 18; refine (F64.value _ _).mono ?_; rintro e w1 ⟨rfl, rfl⟩) | (go_at_call 39; refine (sameE _ _).mono ?_; rintro e w1 ⟨rfl, n, rfl⟩))
          refine (ceilE hn hF _).mono ?_
          rintro e w2 ⟨rfl, hb2⟩
          have hz : w1.heap.size < w2.heap.size := by have := hb2.size; simp at this; omega
          have hcl : w2.cell? ⟨w1.heap.size, 0, none⟩ = some (.float .f64 a0) := by
            rw [hb2.cell (p := ⟨w1.heap.size, 0, none⟩) (by simp; try omega)]; go_simp
          go_wp2_with (first | (go_at_call 16; refine (F64.newF64 _ _).mono ?_; rintro e w' ⟨rfl, rfl⟩) | (go_at_call 18; refine (F64.value _ _).mono ?_; rintro e w1 ⟨rfl, rfl⟩) | (go_at_call 39; refine (sameE _ _).mono ?_; rintro e w1 ⟨rfl, n, rfl⟩))
          refine (floorE hn hF2 _).mono ?_
          rintro e w3 ⟨rfl, hb3⟩
          clear hcl hz
          go_wp2_with (first | (go_at_call 16; refine (F64.newF64 _ _).mono ?_; rintro e w' ⟨rfl, rfl⟩) | (go_at_call 18; refine (F64.value _ _).mono ?_; rintro e w1 ⟨rfl, rfl⟩) | (go_at_call 39; refine (sameE _ _).mono ?_; rintro e w1 ⟨rfl, n, rfl⟩))
          go_ret
          refine ⟨rfl, ?_⟩
          repeat (first | exact Below.refl _ _ | refine below_drewN ?_ _ | refine bla ?_ _ | refine bl ?_ (by assumption))
    · obtain ⟨s, m, p, d, q, h⟩ := small_of a0 (by omega)
      obtain ⟨F, hF, c1, c2, c3, c4, nF⟩ := ceil_facts h
      have c2' := fun w => c2 _ (fval_FR .sub F 4607182418800017408 w)
      have hsm : Ie.rg a0 < 4841369599423283200 := by have := T_eq; have e : T = 4841369599423283200 := rfl; omega
      rw [decide_eq_false (by split at hk <;> omega)] at g1
      rw [decide_eq_false (by split at hk <;> omega)] at g2
      rw [decide_eq_true (by split at hk <;> omega)] at g3
      rw [decide_eq_true (by split at hk <;> omega)] at g4
      clear c2 h hk hbig hsm
      go_enter Try.func11, Try.ntmps11
      go_wp2_with (first | (go_at_call 16; refine (F64.newF64 _ _).mono ?_; rintro e w' ⟨rfl, rfl⟩) | (go_at_call 18; refine (F64.value _ _).mono ?_; rintro e w1 ⟨rfl, rfl⟩) | (go_at_call 39; refine (sameE _ _).mono ?_; rintro e w1 ⟨rfl, n, rfl⟩))
      refine (ceilE hn hF _).mono ?_
      rintro e w1 ⟨rfl, hb⟩
      go_wp2_with (first | (go_at_call 16; refine (F64.newF64 _ _).mono ?_; rintro e w' ⟨rfl, rfl⟩) | (go_at_call 18; refine (F64.value _ _).mono ?_; rintro e w1 ⟨rfl, rfl⟩) | (go_at_call 39; refine (sameE _ _).mono ?_; rintro e w1 ⟨rfl, n, rfl⟩))
      refine (ceilE nF c3 _).mono ?_
      rintro e w2 ⟨rfl, hb2⟩
      have hz : w1.heap.size < w2.heap.size := by have := hb2.size; simp at this; omega
      have hcl : w2.cell? ⟨w1.heap.size, 0, none⟩ = some (.float .f64 F) := by
        rw [hb2.cell (p := ⟨w1.heap.size, 0, none⟩) (by simp; try omega)]; go_simp
      go_wp2_with (first | (go_at_call 16; refine (F64.newF64 _ _).mono ?_; rintro e w' ⟨rfl, rfl⟩) | (go_at_call 18; refine (F64.value _ _).mono ?_; rintro e w1 ⟨rfl, rfl⟩) | (go_at_call 39; refine (sameE _ _).mono ?_; rintro e w1 ⟨rfl, n, rfl⟩))
      refine (floorE nF c4 _).mono ?_
      rintro e w3 ⟨rfl, hb3⟩
      clear hcl hz
      go_wp2_with (first | (go_at_call 16; refine (F64.newF64 _ _).mono ?_; rintro e w' ⟨rfl, rfl⟩) | (go_at_call 18; refine (F64.value _ _).mono ?_; rintro e w1 ⟨rfl, rfl⟩) | (go_at_call 39; refine (sameE _ _).mono ?_; rintro e w1 ⟨rfl, n, rfl⟩))
      go_ret
      refine ⟨rfl, ?_⟩
      repeat (first | exact Below.refl _ _ | refine below_drewN ?_ _ | refine bla ?_ _ | refine bl ?_ (by assumption))
end Go.Proofs.Ytnfmpgmkmlmnjaa.fnCeilBracketsAndIsIntegral
