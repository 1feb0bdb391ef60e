/-
  Small facts for the float laws: the tests <= and >=, finiteness, a - a, 0 - a, and the statements' own comparisons. The only condition is that a float has 64 bits.
-/
import Derived.Test.YtnfmpgmkmlmnjaaBits
namespace Go.Proofs.Ytnfmpgmkmlmnjaa.Small2
open Go.RowKit Fl Bits Ieee

theorem bl {w W w1 : World} (h : Below w.heap.size w W) (hb : Below W.heap.size W w1) : Below w.heap.size w w1 := h.trans (hb.mono h.size)
theorem bla {w W : World} (h : Below w.heap.size w W) (o : Obj) : Below w.heap.size w (W.alloc o) := h.alloc h.size o

theorem le_key {x y : Nat} (hx : nan x = false) (hy : nan y = false) : (D.order x y == some .lt || D.order x y == some .eq) = decide (Ie.key x ≤ Ie.key y) := by
  rw [lss_key hx hy, eql_key hx hy, ← Bool.decide_or]
  exact decide_eq_decide.2 (by omega)
theorem ge_key {x y : Nat} (hx : nan x = false) (hy : nan y = false) : (D.order x y == some .gt || D.order x y == some .eq) = decide (Ie.key y ≤ Ie.key x) := by
  rw [gtr_key hx hy, eql_key hx hy, ← Bool.decide_or]
  exact decide_eq_decide.2 (by omega)

/-- finite: no NaN and no infinity. -/
def fin (x : Nat) : Bool := decide (Ie.rg x < 2047 * 2 ^ 52)
theorem fin_not_nan {x : Nat} (h : fin x = true) : nan x = false := by
  unfold fin at h
  have := of_decide_eq_true h
  rw [nan_eq]; exact decide_eq_false (by omega)
theorem fin_read {x : Nat} (h : fin x = true) : D.read x = .number (Ie.sg x) (Ie.rm (Ie.rg x)) (Ie.rq (Ie.rg x)) := by
  unfold fin at h
  rw [D_eq, Ie.read_eq, if_pos (of_decide_eq_true h)]
theorem inf_read {x : Nat} (h : fin x = false) (hn : nan x = false) : D.read x = .infinity (Ie.sg x) ∧ Ie.rg x = 2047 * 2 ^ 52 := by
  unfold fin at h
  have h1 := of_decide_eq_false h
  have h2 := FloorMath.not_nan_le hn
  rw [D_eq, Ie.read_eq, if_neg h1, if_pos (by omega)]
  exact ⟨rfl, by omega⟩
theorem nan_read {x : Nat} (hn : nan x = true) : ∃ s t, D.read x = .nan s t := by
  unfold nan at hn
  cases h : D.read x <;> simp [h, Datum.isNaN] at hn
  exact ⟨_, _, rfl⟩

theorem key_max : Ie.key 9218868437227405311 = 9218868437227405311 := by decide
theorem key_min : Ie.key 18442240474082181119 = -9218868437227405311 := by decide
theorem nan_max : nan 9218868437227405311 = false := by decide
theorem nan_min : nan 18442240474082181119 = false := by decide
theorem fin_key {x : Nat} (hn : nan x = false) : fin x = (decide (Ie.key x ≤ 9218868437227405311) && decide (-9218868437227405311 ≤ Ie.key x)) := by
  unfold fin
  have h := FloorMath.not_nan_le hn
  rw [← Bool.decide_and]
  refine decide_eq_decide.2 ?_
  unfold Ie.key
  split <;> omega

theorem isFiniteB7 (x : Nat) (w : World) : Calls Try.prog 20 #[.float .f64 x] w fun e w' => e = .returned (.bool (fin x)) ∧ w = w' := by
  cases hn : nan x with
  | true =>
    have hf : fin x = false := by
      cases h : fin x
      · rfl
      · have := fin_not_nan h; rw [hn] at this; cases this
    have HF := Lib.hid hf
    clear hf
    go_enter Try.func20, Try.ntmps20
    go_wp2
    go_ret
    exact ⟨congrArg (fun b => Ending.returned (.bool b)) HF.out.symm, rfl⟩
  | false =>
    have h1 := le_key hn nan_max
    have h2 := ge_key hn nan_min
    have HF := Lib.hid (fin_key hn)
    rw [key_max] at h1
    rw [key_min] at h2
    cases b1 : decide (Ie.key x ≤ 9218868437227405311) <;> cases b2 : decide (-9218868437227405311 ≤ Ie.key x) <;> rw [b1] at h1 <;> rw [b2] at h2 <;> rw [b1, b2] at HF <;> clear b1 b2
    all_goals
      go_enter Try.func20, Try.ntmps20
      go_wp2
      go_ret
      exact ⟨congrArg (fun b => Ending.returned (.bool b)) HF.out.symm, rfl⟩

theorem sub_self {x r : Nat} (h : FR .sub x x r) : if fin x then r = 0 else nan r = true := by
  unfold FR at h
  cases hf : fin x with
  | true =>
    have e : floatBits .sub .f64 x x = some 0 := by
      show D.sub x x = _
      unfold Format.sub
      rw [fin_read hf]
      generalize Ie.rm (Ie.rg x) = m
      generalize Ie.rq (Ie.rg x) = p
      simp only [Datum.opposite, Datum.sum]
      have e1 : signed (Ie.sg x) m (p - min p p).toNat + signed (!Ie.sg x) m (p - min p p).toNat = 0 := by
        unfold signed; cases Ie.sg x <;> simp <;> omega
      rw [e1]
      simp only [if_true, Int.natAbs_zero]
      show some (D.write _) = _
      rw [D_eq, Ie.write_number]
      have : Ie.rung 0 (min p p) = 0 := by unfold Ie.rung; rw [if_pos rfl]
      rw [this]
      cases Ie.sg x <;> rfl
    rw [e] at h
    simpa using h
  | false =>
    have e : floatBits .sub .f64 x x = none := by
      show D.sub x x = _
      unfold Format.sub
      cases hn : nan x with
      | true => obtain ⟨s, t, hr⟩ := nan_read hn; rw [hr]; rfl
      | false =>
        rw [(inf_read hf hn).1]
        cases Ie.sg x <;> rfl
    rw [e] at h
    simpa using h

/-- '0 - x'. -/
theorem zero_sub {x r : Nat} (hn : nan x = false) (h : FR .sub 0 x r) : nan r = false ∧ Ie.key r = -Ie.key x := by
  have hle := FloorMath.not_nan_le hn
  unfold FR at h
  cases hf : fin x with
  | true =>
    have hr := Ie.rung_of (Ie.rg x) hle
    have hlo := FloorMath.rq_lo (Ie.rg x)
    obtain ⟨s, hs, e⟩ : ∃ s, (Ie.rg x = 0 ∨ s = !Ie.sg x) ∧ floatBits .sub .f64 0 x = some (D.word s (Ie.rg x)) := by
      have hz := Ie.rm_zero (Ie.rg x)
      generalize hk : Ie.rg x = k at *
      have hz2 := Ie.at_zero (Ie.rm k) (Ie.rq k) (-1074)
      have e0 : floatBits .sub .f64 0 x = some (D.word (if ((if false = true then -((0 : Nat) : Int) else ((0 : Nat) : Int)) + (if (!Ie.sg x) = true then -(Ie.at_ (Ie.rm k) (Ie.rq k) (-1074) : Int) else (Ie.at_ (Ie.rm k) (Ie.rq k) (-1074) : Int))) = 0 then (false && !Ie.sg x) else decide (((if false = true then -((0 : Nat) : Int) else ((0 : Nat) : Int)) + (if (!Ie.sg x) = true then -(Ie.at_ (Ie.rm k) (Ie.rq k) (-1074) : Int) else (Ie.at_ (Ie.rm k) (Ie.rq k) (-1074) : Int))) < 0)) k) := by
        show D.sub 0 x = _
        unfold Format.sub
        rw [fin_read hf, read_zero, hk]
        simp only [Datum.opposite, Datum.sum]
        have hb : min (-1074) (Ie.rq k) = -1074 := by omega
        rw [hb, Ie.signed_at, Ie.signed_at]
        have z : Ie.at_ 0 (-1074) (-1074) = 0 := by decide
        rw [z]
        show some (D.write _) = _
        rw [D_eq, Ie.write_number]
        have hn : ((if false = true then -((0 : Nat) : Int) else ((0 : Nat) : Int)) + (if (!Ie.sg x) = true then -(Ie.at_ (Ie.rm k) (Ie.rq k) (-1074) : Int) else (Ie.at_ (Ie.rm k) (Ie.rq k) (-1074) : Int))).natAbs = Ie.at_ (Ie.rm k) (Ie.rq k) (-1074) := by
          cases Ie.sg x <;> simp
        rw [hn]
        have e1 : Ie.rung (Ie.at_ (Ie.rm k) (Ie.rq k) (-1074)) (-1074) = k := by
          refine Eq.trans ?_ hr
          refine Ie.eqv_rung ?_
          rw [Ie.eqv_at _ _ _ _ (-1074) (by omega) (by omega)]
          generalize Ie.at_ (Ie.rm k) (Ie.rq k) (-1074) = A
          unfold Ie.at_
          simp
        rw [e1]
      generalize Ie.at_ (Ie.rm k) (Ie.rq k) (-1074) = A at *
      refine ⟨_, ?_, e0⟩
      by_cases h0 : k = 0
      · left; exact h0
      · right
        have hA : A ≠ 0 := fun hh => h0 (hz.1 (hz2.1 hh))
        cases Ie.sg x
        · simp only [Bool.not_false, if_true, Bool.false_eq_true, if_false]
          rw [if_neg (by omega)]
          exact decide_eq_true (by omega)
        · simp only [Bool.not_true, Bool.false_eq_true, if_false]
          rw [if_neg (by omega)]
          exact decide_eq_false (by omega)
    rw [e] at h
    have h : r = D.word s (Ie.rg x) := h
    rw [h]
    refine ⟨FloorMath.nan_word hle, ?_⟩
    rw [FloorMath.keyOf_word hle]
    unfold Ie.key
    rcases hs with h0 | rfl
    · rw [h0]; cases s <;> cases Ie.sg x <;> rfl
    · cases Ie.sg x <;> simp
  | false =>
    obtain ⟨h1, h2⟩ := inf_read hf hn
    have e : floatBits .sub .f64 0 x = some (D.word (!Ie.sg x) (2047 * 2 ^ 52)) := by
      show D.sub 0 x = _
      unfold Format.sub
      rw [h1, read_zero]
      rfl
    rw [e] at h
    have h : r = D.word (!Ie.sg x) (2047 * 2 ^ 52) := h
    rw [h]
    refine ⟨FloorMath.nan_word (Nat.le_refl _), ?_⟩
    rw [FloorMath.keyOf_word (Nat.le_refl _)]
    unfold Ie.key
    rw [h2]
    cases Ie.sg x <;> simp

/-- Equal values that are no zeros have one sign. -/
theorem same_sgn {x y : Nat} (hx : nan x = false) (hy : nan y = false) : ((D.order x y == some .eq) && (neg x == neg y)) = same x y := by
  unfold same
  rw [hx, hy, eql_key hx hy, zero_key, neg_eq, neg_eq]
  simp only [Bool.false_eq_true, if_false]
  by_cases h : Ie.key x = Ie.key y
  · simp only [h, decide_true, Bool.true_and]
    by_cases hz : Ie.key y = 0
    · simp [hz]
    · have : Ie.sg x = Ie.sg y := by
        unfold Ie.key at h hz
        cases h1 : Ie.sg x <;> cases h2 : Ie.sg y <;> rw [h1, h2] at h <;> rw [h2] at hz <;> simp only [Bool.false_eq_true, if_false, if_true] at h hz <;> first | rfl | omega
      simp [hz, this]
  · simp [h]

theorem sameF268 (x y : Nat) (w : World) : Calls Try.prog 29 #[.float .f64 x, .float .f64 y] w (Same.Says (same x y) w) := by
  cases hx : nan x with
  | true =>
    have HS := Lib.hid (same_nan_l (y := y) hx)
    go_enter Try.func29, Try.ntmps29
    go_wp2_with (go_at_call 28; refine (Same.isNaN268 _ _).mono ?_; rintro e w' ⟨rfl, rfl⟩)
    go_ret
    exact Same.says_of0 HS.out.symm
  | false =>
    cases hy : nan y with
    | true =>
      have HS := Lib.hid (same_nan_r hx hy)
      go_enter Try.func29, Try.ntmps29
      go_wp2_with (go_at_call 28; refine (Same.isNaN268 _ _).mono ?_; rintro e w' ⟨rfl, rfl⟩)
      go_ret
      exact Same.says_of0 HS.out.symm
    | false =>
      have HS := Lib.hid (same_sgn hx hy)
      cases he : (D.order x y == some .eq)
      all_goals
        rw [he] at HS
        go_enter Try.func29, Try.ntmps29
        go_wp2_with (first | (go_at_call 28; refine (Same.isNaN268 _ _).mono ?_; rintro e w' ⟨rfl, rfl⟩) | (go_at_call 30; refine (Same.sign268 _ _).mono ?_; rintro e w' ⟨rfl, n, rfl⟩))
        go_ret
      · exact Same.says_of0 HS.out
      · refine Same.says_of ?_ _
        rw [← HS.out]
        simp [hx, hy]

theorem same157 (x y : Nat) (w : World) : Calls Try.prog 34 #[.float .f64 x, .float .f64 y] w (Same.Says (same x y) w) := by
  cases hx : nan x <;> cases hy : nan y
  case false.false =>
    cases zx : zero x <;> cases zy : zero y
    all_goals
      have HS := Lib.hid hx
      go_enter Try.func34, Try.ntmps34
      go_wp2_with (first | (go_at_call 32; refine (Same.isNaN157 _ _).mono ?_; rintro e w' ⟨rfl, rfl⟩) | (go_at_call 35; refine (Same.sign157 _ _).mono ?_; rintro e w' ⟨rfl, n, rfl⟩))
      go_ret
    · exact Same.says_of0 (same_other hx hy (.inl zx)).symm
    · exact Same.says_of0 (same_other hx hy (.inl zx)).symm
    · exact Same.says_of0 (same_other hx hy (.inr zy)).symm
    · refine Same.says_of ?_ _
      rw [same_zeros hx hy zx zy]
      try simp [hx, hy]
  all_goals
    go_enter Try.func34, Try.ntmps34
    go_wp2_with (go_at_call 32; refine (Same.isNaN157 _ _).mono ?_; rintro e w' ⟨rfl, rfl⟩)
    go_ret
    exact Same.says_of0 (by simp [same, hx, hy])
theorem abs157 (x : Nat) (hx : x < 2 ^ 64) (hn : nan x = false) (w : World) : Calls Try.prog 33 #[.float .f64 x] w fun e w' => e = .returned (.float .f64 (D.word false (Ie.rg x))) ∧ ∃ n, w' = w.drewN n := by
  have H1 := Lib.hid (fneg_eq x hx)
  have H2 := Lib.hid (w_self x hx)
  have hs := neg_eq x
  have HE := Lib.hid hs
  cases hg : neg x
  all_goals
    rw [hg] at HE
    clear hs
    go_enter Try.func33, Try.ntmps33
    go_wp2_with (go_at_call 35; refine (Same.sign157 _ _).mono ?_; rintro e w' ⟨rfl, n, rfl⟩)
    go_ret
  · refine ⟨congrArg (fun b => Ending.returned (.float .f64 b)) ?_, _, rfl⟩
    have := H2.out
    rw [← HE.out] at this
    exact this.symm
  · refine ⟨congrArg (fun b => Ending.returned (.float .f64 b)) ?_, _, rfl⟩
    have := H1.out
    rw [← HE.out] at this
    exact this
end Go.Proofs.Ytnfmpgmkmlmnjaa.Small2
