/-
  The law's answer from the two results: plain, no program in sight but the contracts of cos and sin. Condition: a float's 64 bits.
-/
import Derived.Test.YtknidlahblfnnaaDoorCeJ
namespace Go.Proofs.YtknidlahblfnnaaDoor.Ce
open Go Go.RowKit Fl Small2 Mono Ieee

theorem fo_lt {op : BinOp} {x y r : Nat} (h : floatBits op .f64 x y = some r) : r < 2 ^ 64 := by
  have := floatBits_wf h
  simpa [Lit.wf] using this
theorem polS_lt {z : Nat} (h : Red z) : polS z < 2 ^ 64 := fo_lt (sOk h).r
theorem polC_lt {z : Nat} (h : Red z) : polC z < 2 ^ 64 := fo_lt (cOk h).r
/-- What the law asks of the two results. -/
structure Good (c s : Nat) : Prop where
  fc : Small2.fin c = true
  lo : -Ie.key one ≤ Ie.key c
  hi : Ie.key c ≤ Ie.key one
  near : ∃ S C : Rat, Ap s S (2 * E) ∧ Ap c C (2 * E) ∧ Bd S 1 ∧ Bd C 1 ∧ Bd (S * S + C * C - 1) (3 * E)
theorem Good.negc {c s : Nat} (hc : c < 2 ^ 64) (h : Good c s) : Good (fneg c) s := by
  obtain ⟨S, C, a1, a2, a3, a4, a5⟩ := h.near
  have k := key_fneg c hc
  have h1 := h.lo
  have h2 := h.hi
  refine ⟨by rw [fin_fneg c hc]; exact h.fc, by omega, by omega, S, -C, a1, a2.neg hc, a3, ?_, ?_⟩
  · unfold Bd at *; grind
  · have : S * S + -C * -C - 1 = S * S + C * C - 1 := by grind
    rw [this]; exact a5
theorem Good.negs {c s : Nat} (hs : s < 2 ^ 64) (h : Good c s) : Good c (fneg s) := by
  obtain ⟨S, C, a1, a2, a3, a4, a5⟩ := h.near
  refine ⟨h.fc, h.lo, h.hi, -S, C, a1.neg hs, a2, ?_, a4, ?_⟩
  · unfold Bd at *; grind
  · have : -S * -S + C * C - 1 = S * S + C * C - 1 := by grind
    rw [this]; exact a5
theorem good_cs {z : Nat} (h : Red z) : Good (polC z) (polS z) := by
  obtain ⟨s1, s2⟩ := polS_ap h
  obtain ⟨c1, c2⟩ := polC_ap h
  obtain ⟨b1, b2⟩ := polC_between h
  exact ⟨c1.1, b1, b2, _, _, s1, c1, s2.weak (by decide +kernel), c2, squares h⟩
theorem good_sc {z : Nat} (h : Red z) : Good (polS z) (polC z) := by
  obtain ⟨s1, s2⟩ := polS_ap h
  obtain ⟨c1, c2⟩ := polC_ap h
  obtain ⟨b1, b2⟩ := polS_between h
  refine ⟨s1.1, b1, b2, _, _, c1, s1, c2, s2.weak (by decide +kernel), ?_⟩
  have q := squares h
  generalize val z * ev pS (val (sq z)) = X at *
  generalize ev pC (val (sq z)) = Y at *
  rw [show Y * Y + X * X - 1 = X * X + Y * Y - 1 by grind]
  exact q
theorem good_of {j z : Nat} (sg : Bool) (hO : Oct j) (h : Red z) : Good (cosV j z) (sinV sg j z) := by
  have a := good_cs h
  have b := good_sc h
  have l1 := polS_lt h
  have l2 := polC_lt h
  rcases hO with rfl | rfl | rfl | rfl <;> cases sg
  · exact a
  · exact a.negs l1
  · exact b.negc l1
  · exact (b.negc l1).negs l2
  · exact (a.negc l2).negs l1
  · exact a.negc l2
  · exact b.negs l2
  · exact b
theorem cosV_lt {j z : Nat} (hO : Oct j) (h : Red z) : cosV j z < 2 ^ 64 := by
  have l1 := polS_lt h
  have l2 := polC_lt h
  rcases hO with rfl | rfl | rfl | rfl
  · exact l2
  · exact fneg_lt _ l1
  · exact fneg_lt _ l2
  · exact l1
theorem cos_zero : cosV (phJ 0) (phZ 0) = one := by decide +kernel
theorem good_zero {s : Nat} (h : Ie.rg s = 0) : Good one s := by
  have hv : V s = 0 := by
    have hk : Ie.key s = 0 := (key_eq_zero s).2 h
    rw [V_W, hk]
    rfl
  have hf : Small2.fin s = true := by unfold Small2.fin; rw [h]; exact decide_eq_true (by omega)
  have hs : val s = 0 := by unfold val; rw [hv]; grind
  have a1 : Ap s 0 (2 * E) := (ap_of hf hs).weak (by decide +kernel)
  have a2 : Ap one 1 (2 * E) := (ap_of fin_one val_one).weak (by decide +kernel)
  exact ⟨fin_one, by decide +kernel, Int.le_refl _, 0, 1, a1, a2, by unfold Bd; decide +kernel, by unfold Bd; decide +kernel, by unfold Bd; decide +kernel⟩

/-- math.sin at a zero. -/
theorem sinZero (x : Nat) (hz : zero x = true) (w : World) : Calls Tryd.prog 19 #[.float .f64 x] w fun e w' => e = .returned (.float .f64 x) ∧ w = w' := by
  go_enter Tryd.func19, Tryd.ntmps19
  go_wp2
  go_ret
  exact ⟨rfl, rfl⟩
/-- math.cos at a NaN or an infinity. -/
theorem cosNot (x : Nat) (hx : x < 2 ^ 64) (h : Small2.fin x = false) (w : World) : Calls Tryd.prog 17 #[.float .f64 x] w fun e w' => e = .returned (.float .f64 9221120237041090561) ∧ w = w' := by
  cases hn : nan x with
  | true =>
    go_enter Tryd.func17, Tryd.ntmps17
    go_wp2_with (first | (go_at_call 20; refine (mathIsNaN _ _).mono ?_; rintro e w' ⟨rfl, rfl⟩) | (go_at_call 22; refine (mathNaN _).mono ?_; rintro e w' ⟨rfl, rfl⟩))
    go_ret
    exact ⟨rfl, rfl⟩
  | false =>
    have hi : inf x = true := decide_eq_true (inf_read h hn).2
    go_enter Tryd.func17, Tryd.ntmps17
    go_wp2_with (first | (go_at_call 20; refine (mathIsNaN _ _).mono ?_; rintro e w' ⟨rfl, rfl⟩) | (go_at_call 21; refine (mathIsInf _ hx hn _).mono ?_; rintro e w' ⟨rfl, rfl⟩) | (go_at_call 22; refine (mathNaN _).mono ?_; rintro e w' ⟨rfl, rfl⟩))
    go_ret
    exact ⟨rfl, rfl⟩
/-- What cos and sin give at a finite float. -/
theorem both (x : Nat) (hx : x < 2 ^ 64) (hf : Small2.fin x = true) : ∃ c s : Nat, c < 2 ^ 64 ∧ Good c s ∧
    (∀ y, y < 2 ^ 64 → Ie.rg y = Ie.rg x → ∀ w, Gl w → Calls Tryd.prog 17 #[.float .f64 y] w fun e w' => e = .returned (.float .f64 c) ∧ ∃ n, w.drewN n = w') ∧
    (∀ w, Gl w → Calls Tryd.prog 19 #[.float .f64 x] w fun e w' => e = .returned (.float .f64 s) ∧ ∃ n, w.drewN n = w') := by
  have fy : ∀ y, Ie.rg y = Ie.rg x → nan y = false ∧ inf y = false := by
    intro y hy
    unfold Small2.fin at hf
    have := of_decide_eq_true hf
    refine ⟨?_, ?_⟩
    · rw [nan_eq, hy]; exact decide_eq_false (by omega)
    · unfold inf; rw [hy]; exact decide_eq_false (by omega)
  obtain ⟨a, ha⟩ : ∃ a, Ie.rg x = a := ⟨_, rfl⟩
  have hlt := rg_lt x
  rw [ha] at hlt
  have e1 : Ie.rg a = a := Nat.mod_eq_of_lt hlt
  have e2 : Ie.sg a = false := by
    unfold Ie.sg
    have : a / 2 ^ 63 = 0 := Nat.div_eq_of_lt hlt
    rw [this]
    rfl
  have hk : Ie.key a = (a : Int) := by
    unfold Ie.key
    rw [e1, e2]
    rfl
  have fa : Small2.fin a = true := by
    unfold Small2.fin at *
    rw [e1, ← ha]; exact hf
  have hna := fin_not_nan fa
  have ht : nan 4737786807993761792 = false := by decide +kernel
  have hkt : Ie.key 4737786807993761792 = 4737786807993761792 := by decide +kernel
  have hge := ge_key hna ht
  rw [hk, hkt] at hge
  have hsx : (D.order x 0 == some .lt) = true → fneg x = a := by
    intro h
    rw [lss_key (fin_not_nan hf) nan_zero, key_zero] at h
    have hlt2 := of_decide_eq_true h
    have hsg : Ie.sg x = true := by
      cases q : Ie.sg x with
      | true => rfl
      | false => unfold Ie.key at hlt2; rw [q] at hlt2; simp at hlt2; omega
    rw [fneg_eq x hx, hsg, ha]
    rfl
  by_cases h0 : a = 0
  · subst h0
    have S : Small 0 := small_ok fin_zero (by decide +kernel) (by rw [val_zero]; decide +kernel)
    have hge2 : (D.order 0 4737786807993761792 == some .gt || D.order 0 4737786807993761792 == some .eq) = false := by rw [hge]; decide +kernel
    refine ⟨one, x, by decide, good_zero ha, fun y hy hr w G => ?_, fun w _ => ?_⟩
    · have := cosSmall G hy (hr.trans ha) (fy y hr).1 (fy y hr).2 hge2 fin_zero S
      rw [cos_zero] at this
      exact this
    · have hz : zero x = true := by rw [zero_eq, ha]; rfl
      exact (sinZero x hz w).mono fun e w' h => ⟨h.1, 0, by rw [World.drewN_zero]; exact h.2⟩
  · have hz : zero x = false := by rw [zero_eq, ha]; exact decide_eq_false h0
    have hsy : (D.order x 0 == some .lt) = false → x = a := by
      intro h
      rw [lss_key (fin_not_nan hf) nan_zero, key_zero] at h
      have hlt2 := of_decide_eq_false h
      have hsg : Ie.sg x = false := by
        cases q : Ie.sg x with
        | false => rfl
        | true => unfold Ie.key at hlt2; rw [q, ha] at hlt2; simp at hlt2; omega
      have hw := Ie.word_of x hx
      rw [hsg, ha] at hw
      exact hw.symm
    by_cases hb : 4737786807993761792 ≤ (a : Int)
    · rw [decide_eq_true hb] at hge
      obtain ⟨j, z, hO, hZ, T⟩ := trig_ex a fa e1 e2 (by omega)
      refine ⟨cosV j z, sinV (D.order x 0 == some .lt) j z, cosV_lt hO hZ, good_of _ hO hZ, fun y hy hr w G => ?_, fun w G => ?_⟩
      · exact cosBig G hy (hr.trans ha) (fy y hr).1 (fy y hr).2 hge hO hZ T
      · exact sinBig G hx ha (fy x rfl).1 (fy x rfl).2 hz hsx hsy hge hO hZ T
    · rw [decide_eq_false hb] at hge
      have S : Small a := by
        refine small_ok fa (V_nonneg_of_key (by omega)) ?_
        have f29 : Small2.fin 4737786807993761792 = true := by decide +kernel
        have v29 : val 4737786807993761792 = 2 ^ 29 := by rw [val_of (x := 4737786807993761792) 0 (2 ^ 29) (by decide +kernel)]; decide +kernel
        rw [← v29]
        exact val_le_of_key fa f29 (by omega)
      refine ⟨cosV (phJ a) (phZ a), sinV (D.order x 0 == some .lt) (phJ a) (phZ a), cosV_lt (phJ_oct a) S.z, good_of _ (phJ_oct a) S.z, fun y hy hr w G => ?_, fun w G => ?_⟩
      · exact cosSmall G hy (hr.trans ha) (fy y hr).1 (fy y hr).2 hge fa S
      · exact sinSmall G hx ha (fy x rfl).1 (fy x rfl).2 hz hsx hsy hge fa S
end Go.Proofs.YtknidlahblfnnaaDoor.Ce
