/-
  Rounding a float to a whole number (the library's Floor, Ceil and Trunc), in plain mathematics and as calls. No condition.
-/
import Derived.Test.YtnfmpgmkmlmnjaaF64
import Derived.Laws.Externs
namespace Go.Proofs.Ytnfmpgmkmlmnjaa.Itg
open Go.RowKit Fl Ieee

/-! ### the cut -/
def cutg (way : Toward) (neg : Bool) (n gap : Nat) : Nat :=
  n / gap + (match way with
    | .even => decide (gap < 2 * (n % gap)) || (gap == 2 * (n % gap) && n / gap % 2 == 1)
    | .down => neg && n % gap != 0
    | .up => !neg && n % gap != 0
    | .zero => false : Bool).toNat

theorem cut_gap (way : Toward) (neg : Bool) (n drop : Nat) : way.cut neg n drop = cutg way neg n (2 ^ drop) := by
  unfold Toward.cut
  dsimp only
  rw [Nat.shiftLeft_eq, Nat.one_mul]
  have hn : n < 2 ^ (n.log2 + 1) := Nat.lt_log2_self
  by_cases h : drop ≤ n.log2 + 2
  · rw [Nat.min_eq_left h]
    unfold cutg
    cases way <;> rfl
  · have h' : n.log2 + 2 ≤ drop := by omega
    rw [Nat.min_eq_right h']
    have e1 : 2 ^ (n.log2 + 2) = 2 * 2 ^ (n.log2 + 1) := by rw [Nat.pow_succ 2 (n.log2 + 1)]; omega
    have e2 : 2 ^ (n.log2 + 2) ≤ 2 ^ drop := Nat.pow_le_pow_right (by omega) h'
    have f1 : n / 2 ^ (n.log2 + 2) = 0 := Nat.div_eq_of_lt (by omega)
    have f2 : n % 2 ^ (n.log2 + 2) = n := Nat.mod_eq_of_lt (by omega)
    have f3 : n / 2 ^ drop = 0 := Nat.div_eq_of_lt (by omega)
    have f4 : n % 2 ^ drop = n := Nat.mod_eq_of_lt (by omega)
    unfold cutg
    rw [f1, f2, f3, f4]
    have g1 : ¬ 2 ^ (n.log2 + 2) < 2 * n := by omega
    have g2 : ¬ 2 ^ drop < 2 * n := by omega
    cases way <;> simp [g1, g2]

/-! ### the entry -/
def askQ : Question := .extern "math.Floor,Ceil,Trunc,RoundToEven.signallingNaN kept" 2
def iv (way : Toward) (x : Nat) (w : World) : Nat :=
  match D.read x with
  | .nan s t => if D.quiet t = t then x else if askQ.cut (w.tape w.drawn askQ) == 1 then x else D.write (.nan s (D.quiet t))
  | d => D.write (d.integral way)
def ic (x : Nat) : Nat :=
  match D.read x with
  | .nan _ t => if D.quiet t = t then 0 else 1
  | _ => 0

theorem run_itg (P : Program) (w : World) (name : String) (way : Toward) (x : Nat) :
    (Extern.MathFloor.toIntegral name way #[.float .f64 x]).run P w = .ok (.float .f64 (iv way x w)) (w.drewN (ic x)) := by
  unfold iv ic
  have e : Extern.MathFloor.toIntegral name way #[.float .f64 x] = match D.read x with
    | .nan s t => if D.quiet t = t then pure (.float .f64 x) else do
        let kept ← choose askQ
        pure (.float .f64 (if kept == 1 then x else D.write (.nan s (D.quiet t))))
    | d => pure (.float .f64 (D.write (d.integral way))) := rfl
  rw [e]
  cases h : D.read x with
  | nan s t =>
    by_cases hq : D.quiet t = t
    · simp [hq, World.drewN_zero]
    · simp [hq, World.drew_is_drewN, askQ, Question.forced]
  | infinity s => simp [World.drewN_zero]
  | number s m p => simp [World.drewN_zero]

/-- What rounding may give: the whole number; of a NaN some NaN. -/
def FI (way : Toward) (x r : Nat) : Prop := if nan x then nan r = true else r = D.write ((D.read x).integral way)

theorem quiet_nan (s : Bool) (t : Nat) (ht : t < 2 ^ 52) : nan (D.write (.nan s (D.quiet t))) = true := by
  have hq1 : D.quiet t < 2 ^ 52 := by
    show t ||| 2 ^ 51 < 2 ^ 52
    exact Nat.or_lt_two_pow ht (by decide)
  have hq2 : 2 ^ 51 ≤ D.quiet t := Nat.right_le_or
  have e : D.write (.nan s (D.quiet t)) = D.word s (2047 * 2 ^ 52 + D.quiet t % 2 ^ 52) := rfl
  rw [e, Nat.mod_eq_of_lt hq1, nan_eq]
  generalize D.quiet t = q at *
  rw [D_eq, Ie.rg_word _ _ (by omega)]
  exact decide_eq_true (by omega)

theorem iv_FI (way : Toward) (x : Nat) (w : World) : FI way x (iv way x w) := by
  unfold FI iv
  cases h : D.read x with
  | nan s t =>
    have hn : nan x = true := by unfold nan; rw [h]; rfl
    rw [if_pos hn]
    dsimp only
    split
    · exact hn
    · split
      · exact hn
      · refine quiet_nan s t ?_
        rw [D_eq, Ie.read_eq] at h
        split at h
        · cases h
        · split at h
          · cases h
          · cases h
            have : Ie.rg x < 2 ^ 63 := Nat.mod_lt _ (by decide)
            omega
  | infinity s =>
    have hn : nan x = false := by unfold nan; rw [h]; rfl
    simp [hn]
  | number s m p =>
    have hn : nan x = false := by unfold nan; rw [h]; rfl
    simp [hn]

def GivesN (p : Nat → Prop) (w : World) (e : Ending) (w' : World) : Prop := ∃ r n, p r ∧ e = .returned (.float .f64 r) ∧ w' = w.drewN n

theorem run_archFloor (x : Nat) (w : World) : (callFunc 61 #[.float .f64 x]).run Try.prog w = .ok (.value (.float .f64 (iv .down x w))) (w.drewN (ic x)) := by
  rw [run_callFunc_extern (fn := Try.f61) Try.func61 (by kernel_rfl) (by kernel_rfl) (by kernel_rfl) (e := Extern.MathFloor.toIntegral "math.archFloor" .down) (by kernel_rfl), run_itg]
  rfl
theorem mathFloor (x : Nat) (w : World) : Calls Try.prog 53 #[.float .f64 x] w (GivesN (FI .down x) w) := by
  have hd := run_archFloor x
  go_enter Try.func53, Try.ntmps53
  go_wp2
  go_ret
  exact ⟨_, _, iv_FI .down x w, rfl, rfl⟩
theorem floor (x : Nat) (w : World) : Calls Try.prog 40 #[.agg #[.float .f64 x]] w (F64.GivesF (FI .down x) w) := by
  go_enter Try.func40, Try.ntmps40
  go_wp2_with (first | (go_at_call 16; refine (F64.newF64 _ _).mono ?_; rintro e w' ⟨rfl, rfl⟩) | (go_at_call 53; refine (mathFloor _ _).mono ?_; rintro e w' ⟨r, n, hr, rfl, rfl⟩))
  refine bodyPost_ret (v := .agg #[.float .f64 r]) (by simp [results, Try.results40, go_sem]) rfl ⟨_, hr, rfl, ?_⟩
  repeat (first | exact Below.refl _ _ | refine Below.alloc ?_ (by simp; try omega) _ | refine Below.setCell ?_ (by simp; try omega) _ | refine below_drewN ?_ _)
theorem run_archCeil (x : Nat) (w : World) : (callFunc 59 #[.float .f64 x]).run Try.prog w = .ok (.value (.float .f64 (iv .up x w))) (w.drewN (ic x)) := by
  rw [run_callFunc_extern (fn := Try.f59) Try.func59 (by kernel_rfl) (by kernel_rfl) (by kernel_rfl) (e := Extern.MathFloor.toIntegral "math.archCeil" .up) (by kernel_rfl), run_itg]
  rfl
theorem mathCeil (x : Nat) (w : World) : Calls Try.prog 52 #[.float .f64 x] w (GivesN (FI .up x) w) := by
  have hd := run_archCeil x
  go_enter Try.func52, Try.ntmps52
  go_wp2
  go_ret
  exact ⟨_, _, iv_FI .up x w, rfl, rfl⟩
theorem ceil (x : Nat) (w : World) : Calls Try.prog 38 #[.agg #[.float .f64 x]] w (F64.GivesF (FI .up x) w) := by
  go_enter Try.func38, Try.ntmps38
  go_wp2_with (first | (go_at_call 16; refine (F64.newF64 _ _).mono ?_; rintro e w' ⟨rfl, rfl⟩) | (go_at_call 52; refine (mathCeil _ _).mono ?_; rintro e w' ⟨r, n, hr, rfl, rfl⟩))
  refine bodyPost_ret (v := .agg #[.float .f64 r]) (by simp [results, Try.results38, go_sem]) rfl ⟨_, hr, rfl, ?_⟩
  repeat (first | exact Below.refl _ _ | refine Below.alloc ?_ (by simp; try omega) _ | refine Below.setCell ?_ (by simp; try omega) _ | refine below_drewN ?_ _)
end Go.Proofs.Ytnfmpgmkmlmnjaa.Itg
