/-
  The walk of FnFloorMatchesTruncModel: it returns true for every float. No condition.
-/
import Derived.Test.YtgonkjgmelfdaaaSame
import Derived.Test.YtgonkjgmelfdaaaFloorMath
namespace Go.Proofs.Ytgonkjgmelfdaaa.fnFloorMatchesTruncModel
open Go.RowKit Fl Itg FloorMath

def Ans (x r' : Nat) : Prop := ∀ r, FI .down x r → same r r' = true

theorem ans_nan {x : Nat} (hn : nan x = true) : Ans x x := by
  intro r hr
  unfold FI at hr
  rw [if_pos hn] at hr
  simp [same, hr, hn]
theorem ans_of {x F : Nat} (hn : nan x = false) (hF : D.write ((D.read x).integral .down) = F) : Ans x F := by
  intro r hr
  unfold FI at hr
  rw [hn, hF] at hr
  have hr : r = F := by simpa using hr
  rw [hr]
  exact same_refl _

set_option maxHeartbeats 1000000 in
theorem model (x : Nat) (hx : x < 2 ^ 64) (w : World) : Calls Try.prog 15 #[.float .f64 x] w (GivesN (Ans x) w) := by
  cases hn : nan x with
  | true =>
    go_enter Try.func15, Try.ntmps15
    go_wp2
    go_ret
    exact ⟨_, 0, ans_nan hn, rfl, rfl⟩
  | false =>
    have hg := ge_T x hn
    have hl := le_T x hn
    have hk := key_abs x
    by_cases c1 : 4841369599423283200 ≤ Ie.key x
    · have hb := itg_big .down x hx hn (by rw [← T_eq]; show 4841369599423283200 ≤ _; split at hk <;> omega)
      have A := Lib.hid (ans_of hn hb)
      rw [decide_eq_true c1] at hg
      clear hl hk c1 hb
      go_enter Try.func15, Try.ntmps15
      go_wp2
      go_ret
      exact ⟨_, 0, A.out, rfl, rfl⟩
    · rw [decide_eq_false c1] at hg
      by_cases c2 : Ie.key x ≤ -4841369599423283200
      · have hb := itg_big .down x hx hn (by rw [← T_eq]; show 4841369599423283200 ≤ _; split at hk <;> omega)
        have A := Lib.hid (ans_of hn hb)
        rw [decide_eq_true c2] at hl
        clear hk c1 c2 hb
        go_enter Try.func15, Try.ntmps15
        go_wp2
        go_ret
        exact ⟨_, 0, A.out, rfl, rfl⟩
      · rw [decide_eq_false c2] at hl
        obtain ⟨n, t, F, hi, ho, hF, hrest⟩ := model_small x (by rw [← T_eq]; show _ < 4841369599423283200; split at hk <;> omega)
        have A := Lib.hid (ans_of hn hF)
        have hcv := fun w => run_convert_float_int (P := Try.prog) w 23 2 .f64 .i64 x n (by kernel_rfl) Try.underlying2 hi
        clear hk c1 c2 hF hi
        rcases hrest with ⟨g1, ⟨z1, hz⟩ | ⟨z1, hz⟩⟩ | ⟨g1, hz⟩
        · have HZ := Lib.hid hz
          clear hz
          go_enter Try.func15, Try.ntmps15
          go_wp2
          go_ret
          exact ⟨_, _, (HZ.out _ (fval_FR .mul x 0 _)) ▸ A.out, rfl, rfl⟩
        · subst hz
          go_enter Try.func15, Try.ntmps15
          go_wp2
          go_ret
          exact ⟨_, 0, A.out, rfl, rfl⟩
        · have hz2 := fun w => (hz _ (fval_FR .sub t 4607182418800017408 w)).2
          have HZ := Lib.hid hz
          clear hz
          go_enter Try.func15, Try.ntmps15
          go_wp2
          go_ret
          exact ⟨_, _, (HZ.out _ (fval_FR .sub t 4607182418800017408 _)).1 ▸ A.out, rfl, rfl⟩

theorem walk (a0 : Nat) (w0 : (Lit.float .f64 a0).wf = true) (w : World) :
    Calls Try.prog 4 #[.float .f64 a0] w fun e w' => e = .returned (.bool true) ∧ Below w.heap.size w w' := by
  have hx : a0 < 2 ^ 64 := by simpa [Lit.wf] using w0
  go_enter Try.func4, Try.ntmps4
  go_wp2_with (first | (go_at_call 11; refine (F64.newF64 _ _).mono ?_; rintro e w' ⟨rfl, rfl⟩) | (go_at_call 13; refine (F64.value _ _).mono ?_; rintro e w1 ⟨rfl, rfl⟩) | (go_at_call 12; refine (Itg.floor _ _).mono ?_; rintro e w1 ⟨r, hr, rfl, hb⟩) | (go_at_call 15; refine (model _ hx _).mono ?_; rintro e w2 ⟨s, n, hs, rfl, rfl⟩) | (go_at_call 14; refine (Same.zzSame57 _ _ _).mono ?_; rintro e w3 ⟨rfl, n2, rfl⟩))
  go_ret
  refine ⟨congrArg (fun b => Ending.returned (.bool b)) (hs _ hr), ?_⟩
  have h1 := hb.size
  simp at h1
  repeat (first | exact Below.refl _ _ | refine below_drewN ?_ _ | refine Below.alloc ?_ (by first | omega | simp | (simp; omega)) _ | refine Below.trans ?_ (hb.mono (by first | omega | simp | (simp; omega))))
end Go.Proofs.Ytgonkjgmelfdaaa.fnFloorMatchesTruncModel
