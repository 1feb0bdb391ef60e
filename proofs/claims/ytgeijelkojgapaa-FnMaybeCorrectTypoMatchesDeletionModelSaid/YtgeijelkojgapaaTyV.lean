/-
  zzValidUTF8 of the typo law: where it says yes every rune is good. Condition: a length.
-/
import Derived.Test.YtgeijelkojgapaaTyB
import Derived.Deep.CutRange
namespace Go.Proofs.Ytgeijelkojgapaa.Ty
open Go.RowKit Go.Lib Go.Proofs.Ytgeijelkojgapaa.U8 Go.Proofs.Ytgeijelkojgapaa.Pct Go.Proofs.Ytgeijelkojgapaa.By

/-- A rune start, all runes before it good. -/
def VTo (s : ByteArray) (i : Nat) : Prop := ∃ t, ps s t = i ∧ ∀ t', t' < t → GoodR s (ps s t')
theorem vto_zero (s : ByteArray) : VTo s 0 := ⟨0, rfl, fun _ h => absurd h (by omega)⟩
theorem vto_next {s : ByteArray} {i : Nat} (h : VTo s i) (hg : GoodR s i) : VTo s (i + wd s i) := by
  obtain ⟨t, rfl, ht⟩ := h
  refine ⟨t + 1, rfl, fun t' h => ?_⟩
  rcases Nat.lt_or_ge t' t with g | g
  · exact ht t' g
  · rw [show t' = t by omega]; exact hg
theorem ps_mono (s : ByteArray) (a b : Nat) (h : a ≤ b) : ps s a ≤ ps s b := by
  induction b with
  | zero => rw [show a = 0 by omega]; exact Nat.le_refl _
  | succ b ih =>
    rcases Nat.lt_or_ge a (b + 1) with g | g
    · exact Nat.le_trans (ih (by omega)) (Nat.le_add_right _ _)
    · rw [show a = b + 1 by omega]; exact Nat.le_refl _
theorem vto_end {s : ByteArray} {i : Nat} (h : VTo s i) (hi : s.size ≤ i) : Valid s := by
  obtain ⟨t, rfl, ht⟩ := h
  rintro j ⟨hj, t', rfl⟩
  refine ht t' ?_
  rcases Nat.lt_or_ge t' t with g | g
  · exact g
  · have := ps_mono s t t' g
    omega
/-- What the checks say of a rune of several bytes. -/
theorem good_of (s : ByteArray) (i : Nat) (hb : 194 ≤ bt s i ∧ bt s i ≤ 244) (hl : i + wf (bt s i) ≤ s.size) (h1 : lo1 (bt s i) ≤ bt s (i + 1) ∧ bt s (i + 1) ≤ hi1 (bt s i)) (h2 : ∀ k, 2 ≤ k → k < wf (bt s i) → 128 ≤ bt s (i + k) ∧ bt s (i + k) ≤ 191) :
    GoodR s i ∧ wd s i = wf (bt s i) := by
  have hr := lo_rng (bt s i)
  have c1 : ct s (i + 1) (lo1 (bt s i)) (hi1 (bt s i)) = true := by
    unfold ct
    refine decide_eq_true ⟨?_, h1.1, h1.2⟩
    unfold wf at hl
    rw [if_neg (by omega)] at hl
    split at hl <;> (try split at hl) <;> omega
  unfold GoodR wd
  rcases (show bt s i ≤ 223 ∨ (224 ≤ bt s i ∧ bt s i ≤ 239) ∨ 240 ≤ bt s i by omega) with g | g | g
  · have hw : wf (bt s i) = 2 := by unfold wf; rw [if_neg (by omega), if_pos (by omega)]
    have c0 : ct s (i + 1) 128 191 = true := by
      unfold ct at *
      have := of_decide_eq_true c1
      exact decide_eq_true ⟨this.1, by omega, by omega⟩
    rw [dec2 s i ⟨hb.1, g⟩, c0, hw]
    exact ⟨by simp, rfl⟩
  · have hw : wf (bt s i) = 3 := by unfold wf; rw [if_neg (by omega), if_neg (by omega), if_pos (by omega)]
    have c2 : ct s (i + 2) 128 191 = true := by
      unfold ct
      rw [hw] at hl
      exact decide_eq_true ⟨by omega, h2 2 (by omega) (by omega)⟩
    rw [dec3 s i g, c1, c2, hw]
    exact ⟨by simp, rfl⟩
  · have hw : wf (bt s i) = 4 := by unfold wf; rw [if_neg (by omega), if_neg (by omega), if_neg (by omega)]
    have c2 : ct s (i + 2) 128 191 = true := by
      unfold ct
      rw [hw] at hl
      exact decide_eq_true ⟨by omega, h2 2 (by omega) (by omega)⟩
    have c3 : ct s (i + 3) 128 191 = true := by
      unfold ct
      rw [hw] at hl
      exact decide_eq_true ⟨by omega, h2 3 (by omega) (by omega)⟩
    rw [dec4 s i ⟨g, hb.2⟩, c1, c2, c3, hw]
    exact ⟨by simp, rfl⟩
theorem good_ascii (s : ByteArray) (i : Nat) (h : bt s i < 128) : GoodR s i ∧ wd s i = 1 := by
  unfold GoodR wd
  rw [dec1 s i h]
  refine ⟨fun e => ?_, rfl⟩
  injection e with e _
  omega
theorem and192 (b : Nat) (hb : b < 256) : bits .and .u8 (b : Int) 192 = ((b / 64 * 64 : Nat) : Int) := by
  have t : ∀ x : Fin 256, bits .and .u8 ((x.val : Nat) : Int) 192 = ((x.val / 64 * 64 : Nat) : Int) := by decide +kernel
  exact t ⟨b, hb⟩
set_option maxRecDepth 100000 in
set_option maxHeartbeats 8000000 in
theorem validU (s : ByteArray) (w : World) (hs : s.size ≤ 1048576) : Calls Try.prog 13 #[.string s] w (SomeBl (Valid s) w) := by
  go_enter Try.func13, Try.ntmps13
  go_wp2_with fail
  go_loopg [3] s.size (fun g iv wr => wr = w ∧ ∃ i : Nat, i ≤ s.size ∧ g = s.size - i ∧ iv = .int .i64 i ∧ VTo s i)
  case atStart => exact ⟨rfl, 0, Nat.zero_le _, rfl, rfl, vto_zero s⟩
  case round =>
    obtain ⟨rfl, i, hi, rfl, rfl, hV⟩ := hrel
    rcases Nat.lt_or_ge i s.size with hlt | hge
    · have e0 := bt_eq s i hlt
      have l0 : (i : Int) < (s.size : Int) := by omega
      have hbb := bt_lt s i
      by_cases ha : bt s i < 128
      · obtain ⟨hg, hw⟩ := good_ascii s i ha
        have hN := Lib.hid (hw ▸ vto_next hV hg)
        have n1 : (bt s i : Int) < 128 := by omega
        clear hg hw
        replace hV := Lib.hid hV
        go_wp2_with fail
        go_roundg (s.size - (i + 1))
        case measure => omega
        case rel => exact ⟨rfl, i + 1, by omega, rfl, by simp, hN.out⟩
      · have n1 : ¬ (bt s i : Int) < 128 := by omega
        have hgd := good_of s i
        replace hgd := Lib.hid hgd
        replace hV := Lib.hid hV
        obtain ⟨b, hb⟩ : ∃ b, bt s i = b := ⟨_, rfl⟩
        rw [hb] at e0 ha n1 hbb
        replace hb := Lib.hid hb
        go_upto_region 8 with fail
        iterate 8 (first | go_skip | go_guarded | go_step | go_upon | go_back)
        go_cut [5, 6, 7] from 21 to 60 (fun u v x wx => ∃ N LO HI : Nat, u = .int .i64 N ∧ v = .int .u8 LO ∧ x = .int .u8 HI ∧ N = wf b ∧ LO = lo1 b ∧ HI = hi1 b ∧ 194 ≤ b ∧ b ≤ 244 ∧ wx = wr)
        case first =>
          by_cases k0 : 194 ≤ b ∧ b ≤ 223
          · obtain ⟨ka, kb⟩ := k0
            have g194 : (194 : Int) ≤ (b : Int) := by omega
            have l223 : (b : Int) ≤ 223 := by omega
            have e224 : ((b : Int) == 224) = false := by simp; omega
            have g225 : ¬ (225 : Int) ≤ (b : Int) := by omega
            have l236 : (b : Int) ≤ 236 := by omega
            have e237 : ((b : Int) == 237) = false := by simp; omega
            have e238 : ((b : Int) == 238) = false := by simp; omega
            have e239 : ((b : Int) == 239) = false := by simp; omega
            have e240 : ((b : Int) == 240) = false := by simp; omega
            have g241 : ¬ (241 : Int) ≤ (b : Int) := by omega
            have l243 : (b : Int) ≤ 243 := by omega
            have e244 : ((b : Int) == 244) = false := by simp; omega
            have hW := Lib.hid (show wf b = 2 ∧ lo1 b = 128 ∧ hi1 b = 191 ∧ 194 ≤ b ∧ b ≤ 244 from by
              refine ⟨?_, ?_, ?_, by omega, by omega⟩
              · unfold wf; rw [if_neg (by omega)]; rw [if_pos (by omega)]
              · unfold lo1; rw [if_neg (by omega), if_neg (by omega)]
              · unfold hi1; rw [if_neg (by omega), if_neg (by omega)])
            clear ka kb
            go_wp2_with fail
            go_meet
            exact ⟨2, 128, 191, rfl, rfl, rfl, hW.out.1.symm, hW.out.2.1.symm, hW.out.2.2.1.symm, hW.out.2.2.2.1, hW.out.2.2.2.2, rfl⟩
          by_cases k1 : 224 ≤ b ∧ b ≤ 224
          · obtain ⟨ka, kb⟩ := k1
            have g194 : (194 : Int) ≤ (b : Int) := by omega
            have l223 : ¬ (b : Int) ≤ 223 := by omega
            have e224 : ((b : Int) == 224) = true := by simp; omega
            have g225 : ¬ (225 : Int) ≤ (b : Int) := by omega
            have l236 : (b : Int) ≤ 236 := by omega
            have e237 : ((b : Int) == 237) = false := by simp; omega
            have e238 : ((b : Int) == 238) = false := by simp; omega
            have e239 : ((b : Int) == 239) = false := by simp; omega
            have e240 : ((b : Int) == 240) = false := by simp; omega
            have g241 : ¬ (241 : Int) ≤ (b : Int) := by omega
            have l243 : (b : Int) ≤ 243 := by omega
            have e244 : ((b : Int) == 244) = false := by simp; omega
            have hW := Lib.hid (show wf b = 3 ∧ lo1 b = 160 ∧ hi1 b = 191 ∧ 194 ≤ b ∧ b ≤ 244 from by
              refine ⟨?_, ?_, ?_, by omega, by omega⟩
              · unfold wf; rw [if_neg (by omega)]; rw [if_neg (by omega)]; rw [if_pos (by omega)]
              · unfold lo1; rw [if_pos (by omega)]
              · unfold hi1; rw [if_neg (by omega), if_neg (by omega)])
            clear ka kb k0
            go_wp2_with fail
            go_meet
            exact ⟨3, 160, 191, rfl, rfl, rfl, hW.out.1.symm, hW.out.2.1.symm, hW.out.2.2.1.symm, hW.out.2.2.2.1, hW.out.2.2.2.2, rfl⟩
          by_cases k2 : 225 ≤ b ∧ b ≤ 236
          · obtain ⟨ka, kb⟩ := k2
            have g194 : (194 : Int) ≤ (b : Int) := by omega
            have l223 : ¬ (b : Int) ≤ 223 := by omega
            have e224 : ((b : Int) == 224) = false := by simp; omega
            have g225 : (225 : Int) ≤ (b : Int) := by omega
            have l236 : (b : Int) ≤ 236 := by omega
            have e237 : ((b : Int) == 237) = false := by simp; omega
            have e238 : ((b : Int) == 238) = false := by simp; omega
            have e239 : ((b : Int) == 239) = false := by simp; omega
            have e240 : ((b : Int) == 240) = false := by simp; omega
            have g241 : ¬ (241 : Int) ≤ (b : Int) := by omega
            have l243 : (b : Int) ≤ 243 := by omega
            have e244 : ((b : Int) == 244) = false := by simp; omega
            have hW := Lib.hid (show wf b = 3 ∧ lo1 b = 128 ∧ hi1 b = 191 ∧ 194 ≤ b ∧ b ≤ 244 from by
              refine ⟨?_, ?_, ?_, by omega, by omega⟩
              · unfold wf; rw [if_neg (by omega)]; rw [if_neg (by omega)]; rw [if_pos (by omega)]
              · unfold lo1; rw [if_neg (by omega), if_neg (by omega)]
              · unfold hi1; rw [if_neg (by omega), if_neg (by omega)])
            clear ka kb k0 k1
            go_wp2_with fail
            go_meet
            exact ⟨3, 128, 191, rfl, rfl, rfl, hW.out.1.symm, hW.out.2.1.symm, hW.out.2.2.1.symm, hW.out.2.2.2.1, hW.out.2.2.2.2, rfl⟩
          by_cases k3 : 237 ≤ b ∧ b ≤ 237
          · obtain ⟨ka, kb⟩ := k3
            have g194 : (194 : Int) ≤ (b : Int) := by omega
            have l223 : ¬ (b : Int) ≤ 223 := by omega
            have e224 : ((b : Int) == 224) = false := by simp; omega
            have g225 : (225 : Int) ≤ (b : Int) := by omega
            have l236 : ¬ (b : Int) ≤ 236 := by omega
            have e237 : ((b : Int) == 237) = true := by simp; omega
            have e238 : ((b : Int) == 238) = false := by simp; omega
            have e239 : ((b : Int) == 239) = false := by simp; omega
            have e240 : ((b : Int) == 240) = false := by simp; omega
            have g241 : ¬ (241 : Int) ≤ (b : Int) := by omega
            have l243 : (b : Int) ≤ 243 := by omega
            have e244 : ((b : Int) == 244) = false := by simp; omega
            have hW := Lib.hid (show wf b = 3 ∧ lo1 b = 128 ∧ hi1 b = 159 ∧ 194 ≤ b ∧ b ≤ 244 from by
              refine ⟨?_, ?_, ?_, by omega, by omega⟩
              · unfold wf; rw [if_neg (by omega)]; rw [if_neg (by omega)]; rw [if_pos (by omega)]
              · unfold lo1; rw [if_neg (by omega), if_neg (by omega)]
              · unfold hi1; rw [if_pos (by omega)])
            clear ka kb k0 k1 k2
            go_wp2_with fail
            go_meet
            exact ⟨3, 128, 159, rfl, rfl, rfl, hW.out.1.symm, hW.out.2.1.symm, hW.out.2.2.1.symm, hW.out.2.2.2.1, hW.out.2.2.2.2, rfl⟩
          by_cases k4 : 238 ≤ b ∧ b ≤ 238
          · obtain ⟨ka, kb⟩ := k4
            have g194 : (194 : Int) ≤ (b : Int) := by omega
            have l223 : ¬ (b : Int) ≤ 223 := by omega
            have e224 : ((b : Int) == 224) = false := by simp; omega
            have g225 : (225 : Int) ≤ (b : Int) := by omega
            have l236 : ¬ (b : Int) ≤ 236 := by omega
            have e237 : ((b : Int) == 237) = false := by simp; omega
            have e238 : ((b : Int) == 238) = true := by simp; omega
            have e239 : ((b : Int) == 239) = false := by simp; omega
            have e240 : ((b : Int) == 240) = false := by simp; omega
            have g241 : ¬ (241 : Int) ≤ (b : Int) := by omega
            have l243 : (b : Int) ≤ 243 := by omega
            have e244 : ((b : Int) == 244) = false := by simp; omega
            have hW := Lib.hid (show wf b = 3 ∧ lo1 b = 128 ∧ hi1 b = 191 ∧ 194 ≤ b ∧ b ≤ 244 from by
              refine ⟨?_, ?_, ?_, by omega, by omega⟩
              · unfold wf; rw [if_neg (by omega)]; rw [if_neg (by omega)]; rw [if_pos (by omega)]
              · unfold lo1; rw [if_neg (by omega), if_neg (by omega)]
              · unfold hi1; rw [if_neg (by omega), if_neg (by omega)])
            clear ka kb k0 k1 k2 k3
            go_wp2_with fail
            go_meet
            exact ⟨3, 128, 191, rfl, rfl, rfl, hW.out.1.symm, hW.out.2.1.symm, hW.out.2.2.1.symm, hW.out.2.2.2.1, hW.out.2.2.2.2, rfl⟩
          by_cases k5 : 239 ≤ b ∧ b ≤ 239
          · obtain ⟨ka, kb⟩ := k5
            have g194 : (194 : Int) ≤ (b : Int) := by omega
            have l223 : ¬ (b : Int) ≤ 223 := by omega
            have e224 : ((b : Int) == 224) = false := by simp; omega
            have g225 : (225 : Int) ≤ (b : Int) := by omega
            have l236 : ¬ (b : Int) ≤ 236 := by omega
            have e237 : ((b : Int) == 237) = false := by simp; omega
            have e238 : ((b : Int) == 238) = false := by simp; omega
            have e239 : ((b : Int) == 239) = true := by simp; omega
            have e240 : ((b : Int) == 240) = false := by simp; omega
            have g241 : ¬ (241 : Int) ≤ (b : Int) := by omega
            have l243 : (b : Int) ≤ 243 := by omega
            have e244 : ((b : Int) == 244) = false := by simp; omega
            have hW := Lib.hid (show wf b = 3 ∧ lo1 b = 128 ∧ hi1 b = 191 ∧ 194 ≤ b ∧ b ≤ 244 from by
              refine ⟨?_, ?_, ?_, by omega, by omega⟩
              · unfold wf; rw [if_neg (by omega)]; rw [if_neg (by omega)]; rw [if_pos (by omega)]
              · unfold lo1; rw [if_neg (by omega), if_neg (by omega)]
              · unfold hi1; rw [if_neg (by omega), if_neg (by omega)])
            clear ka kb k0 k1 k2 k3 k4
            go_wp2_with fail
            go_meet
            exact ⟨3, 128, 191, rfl, rfl, rfl, hW.out.1.symm, hW.out.2.1.symm, hW.out.2.2.1.symm, hW.out.2.2.2.1, hW.out.2.2.2.2, rfl⟩
          by_cases k6 : 240 ≤ b ∧ b ≤ 240
          · obtain ⟨ka, kb⟩ := k6
            have g194 : (194 : Int) ≤ (b : Int) := by omega
            have l223 : ¬ (b : Int) ≤ 223 := by omega
            have e224 : ((b : Int) == 224) = false := by simp; omega
            have g225 : (225 : Int) ≤ (b : Int) := by omega
            have l236 : ¬ (b : Int) ≤ 236 := by omega
            have e237 : ((b : Int) == 237) = false := by simp; omega
            have e238 : ((b : Int) == 238) = false := by simp; omega
            have e239 : ((b : Int) == 239) = false := by simp; omega
            have e240 : ((b : Int) == 240) = true := by simp; omega
            have g241 : ¬ (241 : Int) ≤ (b : Int) := by omega
            have l243 : (b : Int) ≤ 243 := by omega
            have e244 : ((b : Int) == 244) = false := by simp; omega
            have hW := Lib.hid (show wf b = 4 ∧ lo1 b = 144 ∧ hi1 b = 191 ∧ 194 ≤ b ∧ b ≤ 244 from by
              refine ⟨?_, ?_, ?_, by omega, by omega⟩
              · unfold wf; rw [if_neg (by omega)]; rw [if_neg (by omega)]; rw [if_neg (by omega)]
              · unfold lo1; rw [if_neg (by omega), if_pos (by omega)]
              · unfold hi1; rw [if_neg (by omega), if_neg (by omega)])
            clear ka kb k0 k1 k2 k3 k4 k5
            go_wp2_with fail
            go_meet
            exact ⟨4, 144, 191, rfl, rfl, rfl, hW.out.1.symm, hW.out.2.1.symm, hW.out.2.2.1.symm, hW.out.2.2.2.1, hW.out.2.2.2.2, rfl⟩
          by_cases k7 : 241 ≤ b ∧ b ≤ 243
          · obtain ⟨ka, kb⟩ := k7
            have g194 : (194 : Int) ≤ (b : Int) := by omega
            have l223 : ¬ (b : Int) ≤ 223 := by omega
            have e224 : ((b : Int) == 224) = false := by simp; omega
            have g225 : (225 : Int) ≤ (b : Int) := by omega
            have l236 : ¬ (b : Int) ≤ 236 := by omega
            have e237 : ((b : Int) == 237) = false := by simp; omega
            have e238 : ((b : Int) == 238) = false := by simp; omega
            have e239 : ((b : Int) == 239) = false := by simp; omega
            have e240 : ((b : Int) == 240) = false := by simp; omega
            have g241 : (241 : Int) ≤ (b : Int) := by omega
            have l243 : (b : Int) ≤ 243 := by omega
            have e244 : ((b : Int) == 244) = false := by simp; omega
            have hW := Lib.hid (show wf b = 4 ∧ lo1 b = 128 ∧ hi1 b = 191 ∧ 194 ≤ b ∧ b ≤ 244 from by
              refine ⟨?_, ?_, ?_, by omega, by omega⟩
              · unfold wf; rw [if_neg (by omega)]; rw [if_neg (by omega)]; rw [if_neg (by omega)]
              · unfold lo1; rw [if_neg (by omega), if_neg (by omega)]
              · unfold hi1; rw [if_neg (by omega), if_neg (by omega)])
            clear ka kb k0 k1 k2 k3 k4 k5 k6
            go_wp2_with fail
            go_meet
            exact ⟨4, 128, 191, rfl, rfl, rfl, hW.out.1.symm, hW.out.2.1.symm, hW.out.2.2.1.symm, hW.out.2.2.2.1, hW.out.2.2.2.2, rfl⟩
          by_cases k8 : 244 ≤ b ∧ b ≤ 244
          · obtain ⟨ka, kb⟩ := k8
            have g194 : (194 : Int) ≤ (b : Int) := by omega
            have l223 : ¬ (b : Int) ≤ 223 := by omega
            have e224 : ((b : Int) == 224) = false := by simp; omega
            have g225 : (225 : Int) ≤ (b : Int) := by omega
            have l236 : ¬ (b : Int) ≤ 236 := by omega
            have e237 : ((b : Int) == 237) = false := by simp; omega
            have e238 : ((b : Int) == 238) = false := by simp; omega
            have e239 : ((b : Int) == 239) = false := by simp; omega
            have e240 : ((b : Int) == 240) = false := by simp; omega
            have g241 : (241 : Int) ≤ (b : Int) := by omega
            have l243 : ¬ (b : Int) ≤ 243 := by omega
            have e244 : ((b : Int) == 244) = true := by simp; omega
            have hW := Lib.hid (show wf b = 4 ∧ lo1 b = 128 ∧ hi1 b = 143 ∧ 194 ≤ b ∧ b ≤ 244 from by
              refine ⟨?_, ?_, ?_, by omega, by omega⟩
              · unfold wf; rw [if_neg (by omega)]; rw [if_neg (by omega)]; rw [if_neg (by omega)]
              · unfold lo1; rw [if_neg (by omega), if_neg (by omega)]
              · unfold hi1; rw [if_neg (by omega), if_pos (by omega)])
            clear ka kb k0 k1 k2 k3 k4 k5 k6 k7
            go_wp2_with fail
            go_meet
            exact ⟨4, 128, 143, rfl, rfl, rfl, hW.out.1.symm, hW.out.2.1.symm, hW.out.2.2.1.symm, hW.out.2.2.2.1, hW.out.2.2.2.2, rfl⟩
          have hbad : b < 194 ∨ 244 < b := by omega
          have f1 : ¬ (194 ≤ b ∧ b ≤ 223) := by omega
          clear k0 k1 k2 k3 k4 k5 k6 k7 k8
          rcases hbad with hbad | hbad
          · have ka : 128 ≤ b := by omega
            have kb : b ≤ 193 := by omega
            have g194 : ¬ (194 : Int) ≤ (b : Int) := by omega
            have l223 : (b : Int) ≤ 223 := by omega
            have e224 : ((b : Int) == 224) = false := by simp; omega
            have g225 : ¬ (225 : Int) ≤ (b : Int) := by omega
            have l236 : (b : Int) ≤ 236 := by omega
            have e237 : ((b : Int) == 237) = false := by simp; omega
            have e238 : ((b : Int) == 238) = false := by simp; omega
            have e239 : ((b : Int) == 239) = false := by simp; omega
            have e240 : ((b : Int) == 240) = false := by simp; omega
            have g241 : ¬ (241 : Int) ≤ (b : Int) := by omega
            have l243 : (b : Int) ≤ 243 := by omega
            have e244 : ((b : Int) == 244) = false := by simp; omega
            clear ka kb f1 hbad
            go_wp2_with fail
            go_ret
            exact ⟨false, rfl, fun h => absurd h (by decide), rfl⟩
          · have ka : 245 ≤ b := by omega
            have kb : b ≤ 255 := by omega
            have g194 : (194 : Int) ≤ (b : Int) := by omega
            have l223 : ¬ (b : Int) ≤ 223 := by omega
            have e224 : ((b : Int) == 224) = false := by simp; omega
            have g225 : (225 : Int) ≤ (b : Int) := by omega
            have l236 : ¬ (b : Int) ≤ 236 := by omega
            have e237 : ((b : Int) == 237) = false := by simp; omega
            have e238 : ((b : Int) == 238) = false := by simp; omega
            have e239 : ((b : Int) == 239) = false := by simp; omega
            have e240 : ((b : Int) == 240) = false := by simp; omega
            have g241 : (241 : Int) ≤ (b : Int) := by omega
            have l243 : ¬ (b : Int) ≤ 243 := by omega
            have e244 : ((b : Int) == 244) = false := by simp; omega
            clear ka kb f1 hbad
            go_wp2_with fail
            go_ret
            exact ⟨false, rfl, fun h => absurd h (by decide), rfl⟩
        case rest =>
          obtain ⟨N, LO, HI, rfl, rfl, rfl, hN, hL, hH, c1, c2, rfl⟩ := hcut
          have hN2 : 2 ≤ N ∧ N ≤ 4 := by
            rw [hN]
            unfold wf
            rw [if_neg (by omega)]
            split <;> (try split) <;> omega
          have hbe := hb.out
          have hx1 := bt_lt s (i + 1)
          replace hN := Lib.hid hN
          replace hL := Lib.hid hL
          replace hH := Lib.hid hH
          replace hbe := Lib.hid hbe
          by_cases p1 : (s.size : Int) < (i : Int) + (N : Int)
          · go_wp2_with fail
            go_ret
            exact ⟨false, rfl, fun h => absurd h (by decide), rfl⟩
          have hl1 : i + 1 < s.size := by omega
          have e1 := bt_eq s (i + 1) hl1
          have t1 : ((i : Int) + 1).toNat = i + 1 := by omega
          have l1 : (i : Int) + 1 < (s.size : Int) := by omega
          obtain ⟨d, hd⟩ : ∃ d, bt s (i + 1) = d := ⟨_, rfl⟩
          rw [hd] at e1 hx1
          replace hd := Lib.hid hd
          by_cases p2 : (d : Int) < (LO : Int)
          · go_wp2_with fail
            go_ret
            exact ⟨false, rfl, fun h => absurd h (by decide), rfl⟩
          by_cases p3 : (HI : Int) < (d : Int)
          · go_wp2_with fail
            go_ret
            exact ⟨false, rfl, fun h => absurd h (by decide), rfl⟩
          go_wp2_with fail
          go_loopg [9] (N - 2) (fun g kv wx => wx = wc ∧ ∃ k : Nat, 2 ≤ k ∧ k ≤ N ∧ g = N - k ∧ kv = .int .i64 k ∧ ∀ j, 2 ≤ j → j < k → 128 ≤ bt s (i + j) ∧ bt s (i + j) ≤ 191)
          case atStart => exact ⟨rfl, 2, Nat.le_refl _, hN2.1, rfl, rfl, fun j h1 h2 => by omega⟩
          case round =>
            obtain ⟨rfl, k, hk2, hkN, rfl, rfl, hj⟩ := hrel
            replace hj := Lib.hid hj
            rcases Nat.lt_or_ge k N with hkl | hkg
            · have hl2 : i + k < s.size := by omega
              have e2 := bt_eq s (i + k) hl2
              have t2 : ((i : Int) + (k : Int)).toNat = i + k := by omega
              have l2 : (i : Int) + (k : Int) < (s.size : Int) := by omega
              have hx2 := bt_lt s (i + k)
              have ha2 := and192 _ hx2
              have l3 : (k : Int) < (N : Int) := by omega
              by_cases p4 : bt s (i + k) / 64 = 2
              · have hc2 : 128 ≤ bt s (i + k) ∧ bt s (i + k) ≤ 191 := by omega
                have hnew : ∀ j, 2 ≤ j → j < k + 1 → 128 ≤ bt s (i + j) ∧ bt s (i + j) ≤ 191 := fun j h1 h2 => by
                  rcases Nat.lt_or_ge j k with h | h
                  · exact hj.out j h1 h
                  · rw [show j = k by omega]; exact hc2
                replace hnew := Lib.hid hnew
                rw [p4] at ha2
                clear p4 hc2
                go_wp2_with fail
                go_roundg (N - (k + 1))
                case measure => omega
                case rel => exact ⟨rfl, k + 1, by omega, by omega, rfl, by simp, hnew.out⟩
              · have hne : ¬ (((bt s (i + k) / 64 * 64 : Nat) : Int)) = 128 := by omega
                rw [← ha2] at hne
                have hne2 : (bits .and .u8 ((bt s (i + k) : Nat) : Int) 192 == 128) = false := by simpa using hne
                clear p4 ha2 hne
                go_wp2_with fail
                go_ret
                exact ⟨false, rfl, fun h => absurd h (by decide), rfl⟩
            · have hkn : k = N := by omega
              subst hkn
              have hq := hgd.out (by rw [hb.out]; exact ⟨c1, c2⟩) (by rw [hb.out, ← hN.out]; omega) (by rw [hb.out, hd.out, ← hL.out, ← hH.out]; omega) (fun j h1 h2 => hj.out j h1 (by rw [hb.out, ← hN.out] at h2; exact h2))
              have hV2 := vto_next hV.out hq.1
              rw [hq.2, hb.out, ← hN.out] at hV2
              replace hV2 := Lib.hid hV2
              clear hq
              go_wp2_with fail
              go_roundg (s.size - (i + k))
              case measure => omega
              case rel => exact ⟨rfl, i + k, by omega, rfl, by simp, hV2.out⟩
    · have hfin := Lib.hid (vto_end hV hge)
      clear hV
      go_wp2_with fail
      go_ret
      exact ⟨true, rfl, fun _ => hfin.out, rfl⟩
end Go.Proofs.Ytgeijelkojgapaa.Ty
