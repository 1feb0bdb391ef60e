/-
  The walk of FnIsUnsupportedRegularExpressionMonotoneInFeatures: it returns true for every two feature sets, place and text. No condition.
-/
import Derived.Test.YtfalpclhekpnnaaFmtRx5
namespace Go.Proofs.YtfalpclhekpnnaaFmt.fnIsUnsupportedRegularExpressionMonotoneInFeatures
open Go.RowKit Go.Proofs.YtfalpclhekpnnaaFmt.Ints Go.Proofs.YtfalpclhekpnnaaFmt.Lg Go.Proofs.YtfalpclhekpnnaaFmt.U8 Go.Proofs.YtfalpclhekpnnaaFmt.Rx
open Go.Extern.Stop Go.Stop Go.Extern

theorem u64_wf {a : Int} (h : (Lit.int .u64 a).wf = true) : 0 ≤ a ∧ a < 18446744073709551616 := by
  have : 0 ≤ a ∧ a ≤ 18446744073709551615 := by simpa [Lit.wf, IntKind.min, IntKind.max, IntKind.signed, IntKind.bits] using h
  omega
theorem or_mono (a b : Int) (ha : 0 ≤ a ∧ a < 18446744073709551616) (hb : 0 ≤ b ∧ b < 18446744073709551616) (c : Int) (hc0 : 0 ≤ c) (hc1 : c < 18446744073709551616) (h : hasB a c = true) : hasB (bits .or .u64 a b) c = true := by
  unfold hasB at *
  obtain ⟨x, rfl⟩ := Int.eq_ofNat_of_zero_le ha.1
  obtain ⟨y, rfl⟩ := Int.eq_ofNat_of_zero_le hb.1
  obtain ⟨z, rfl⟩ := Int.eq_ofNat_of_zero_le hc0
  have hx : x < 18446744073709551616 := by omega
  have hy : y < 18446744073709551616 := by omega
  have hz : z < 18446744073709551616 := by omega
  have hxy : x ||| y < 18446744073709551616 := Nat.or_lt_two_pow (n := 64) hx hy
  rw [u64_and_nat x z hx hz] at h
  rw [u64_or_nat x y hx hy, u64_and_nat _ z hxy hz, Nat.and_or_distrib_right]
  have e : ∀ n : Nat, ((n : Int) != 0) = true ↔ n ≠ 0 := fun n => by simp
  rw [e] at h ⊢
  intro h0
  exact h (Nat.or_eq_zero_iff.1 h0).1
def True_ (w : World) (e : Ending) (w' : World) : Prop := e = .returned (.bool true) ∧ Below w.heap.size w w'
set_option maxRecDepth 100000 in
set_option maxHeartbeats 4000000 in
theorem walk {I : Interp} (a0 : Int) (w0 : (Lit.int .u64 a0).wf = true) (a1 : Int) (w1 : (Lit.int .u64 a1).wf = true) (a2 : Int) (w2 : (Lit.int .i32 a2).wf = true) (a3 : ByteArray) (w3 : a3.size ≤ 9223372036854775807) (w : World) (hI : I.answers w.tape) :
    Calls Tryf.prog 3 #[.int .u64 a0, .int .u64 a1, .int .i32 a2, .string a3] w (True_ w) := by
  have hm := Lib.hid (or_mono a0 a1 (u64_wf w0) (u64_wf w1))
  clear w0 w1 w2
  replace hI := Lib.hid hI
  by_cases h : a3.size ≤ 1048576
  · have d1 : decide (a3.size ≤ 1048576) = true := decide_eq_true h
    have d2 : ¬ (1048576 : Int) < (a3.size : Int) := by omega
    by_cases h1 : Lib.lastIndexByte a3 47 < 1
    · have cb := Lib.hid (Rx.bytes a0 a1 a2 a3 w3 w)
      have cl := Lib.hid (lastSlash a3 h w)
      go_enter Tryf.func3, Tryf.ntmps3
      go_wp2_with (first | (go_at_call 4; refine cb.out.mono ?_; rintro y w' ⟨rfl, rfl⟩) | (go_at_call 5; refine cl.out.mono ?_; rintro y w' ⟨rfl, rfl⟩))
      go_ret
      exact ⟨rfl, Below.refl _ _⟩
    · have cb := Lib.hid (Rx.bytes a0 a1 a2 a3 w3 w)
      have cl := Lib.hid (lastSlash a3 h w)
      have h1' := Lib.hid h1
      go_enter Tryf.func3, Tryf.ntmps3
      go_wp2_with (first | (go_at_call 4; refine cb.out.mono ?_; rintro y w' ⟨rfl, rfl⟩) | (go_at_call 5; refine cl.out.mono ?_; rintro y w' ⟨rfl, rfl⟩))
      clear cb cl
      go_at_call 6
      refine (newParser a0 w).mono ?_
      rintro y u1 ⟨P, K, M, H, G, rfl, hP, hL, b1⟩
      go_wp2_with fail
      go_at_call 6
      have hmU := uns_mono hm.out (uO a3) (patO a3) (flO a3)
      have hmE := err_mono hm.out (uO a3) (patO a3)
      generalize bits .or .u64 a0 a1 = ab at *
      refine (newParser ab u1).mono ?_
      rintro y u2 ⟨P2, K2, M2, H2, G2, rfl, hP2, hL2, b2⟩
      have nH : H ≠ H2 := by have := lt_of_blk hL.bH; have := hL2.hH; omega
      have nG : G ≠ G2 := by have := lt_of_blk hL.bG; have := hL2.hG; omega
      have hPa := hP.below b2
      have hLa := hL.below b2
      have s1 := b1.size
      have s2 := b2.size
      have t2 : u2.tape = w.tape := b2.tape.trans b1.tape
      have c1 := Lib.hid (thin (I := I) w.heap.size P K M H G 0 false (.slice none 0 0) [] a0 a2 a3 u2 (t2 ▸ hI.out) hLa (by omega) (by omega) hPa (by have := h1'.out; omega) h)
      have b2w := Lib.hid (b1.trans (b2.mono s1))
      replace hPa := Lib.hid hPa
      replace hLa := Lib.hid hLa
      replace hP2 := Lib.hid hP2
      replace hL2 := Lib.hid hL2
      replace nH := Lib.hid nH
      replace nG := Lib.hid nG
      replace s1 := Lib.hid s1
      replace s2 := Lib.hid s2
      replace t2 := Lib.hid t2
      replace hmU := Lib.hid hmU
      replace hmE := Lib.hid hmE
      clear hP hL b1 b2 hm
      go_wp2_with fail
      go_at_call 7
      refine c1.out.mono ?_
      rintro y u3 ⟨rfl, n3, v3, x3, hLb, k3⟩
      have hPb := Lib.hid (hPa.out.kept k3 hLa.out)
      have hP2b := Lib.hid (hP2.out.kept k3 hLa.out)
      have hL2b := Lib.hid (Rx.Lg.kept hL2.out k3 hLa.out (Ne.symm nH.out) (Ne.symm nG.out))
      have b3w := Lib.hid (b2w.out.trans k3.bel)
      have s3 := k3.bel.size
      have t3 : u3.tape = w.tape := k3.bel.tape.trans t2.out
      have c2 := Lib.hid (thin (I := I) u1.heap.size P2 K2 M2 H2 G2 0 false (.slice none 0 0) [] ab a2 a3 u3 (t3 ▸ hI.out) hL2b.out (by have := s2.out; omega) (by omega) hP2b.out (by have := h1'.out; omega) h)
      replace hLb := Lib.hid hLb
      replace s3 := Lib.hid s3
      clear t3 k3 c1 hPa hLa hP2 hL2 b2w
      go_wp2_with fail
      go_at_call 7
      refine c2.out.mono ?_
      rintro y u4 ⟨rfl, n4, v4, x4, hLc, k4⟩
      have hPc := hPb.out.kept k4 hL2b.out
      have hP2c := hP2b.out.kept k4 hL2b.out
      have hLa4 := Rx.Lg.kept hLb.out k4 hL2b.out nH.out nG.out
      have b4w := Lib.hid (b3w.out.trans (k4.bel.mono s1.out))
      have s4 : w.heap.size ≤ u4.heap.size := b4w.out.size
      have c3 := Lib.hid (hasErr u4 hP2c hLc)
      have c4 : Hid (∀ u5 : World, (∀ b : Nat, u5.heap[b]? = u4.heap[b]?) → Calls Tryf.prog 8 #[pt P] u5 (Says w.heap.size (.bool (err a0 (uO a3) (patO a3) || false)) u5)) :=
        Lib.hid (fun u5 hs => hasErr u5 (hPc.same (hs P)) (hLa4.same (fun b _ => hs b)))
      clear hPc hP2c hLa4 k4 hLc c2 hPb hP2b hL2b b3w hLb
      have mU := hmU.out
      have mE := hmE.out
      clear hmU hmE
      generalize uns a0 (uO a3) (patO a3) (flO a3) = uA at *
      generalize uns ab (uO a3) (patO a3) (flO a3) = uB at *
      generalize err a0 (uO a3) (patO a3) = eA at *
      generalize err ab (uO a3) (patO a3) = eB at *
      cases uA <;> cases uB <;> (try (exact absurd (mU rfl) (by decide)))
      all_goals clear mU
      all_goals cases eB <;> cases eA <;> (try (exact absurd (mE rfl) (by decide)))
      all_goals clear mE
      all_goals
        simp only [Bool.or_false] at c3 c4
        go_wp2_with fail
        go_at_call 8
        refine c3.out.mono ?_
        rintro y u5 ⟨rfl, b5, hs5⟩
        have b5w := Lib.hid (b4w.out.trans (b5.mono s1.out))
        have c5 := Lib.hid (c4.out u5 hs5)
        clear b5 hs5 c3 c4
        go_wp2_with (go_at_call 8; refine c5.out.mono ?_; rintro y u6 ⟨rfl, b6, _⟩)
        go_ret
        first | exact ⟨rfl, b5w.out⟩ | exact ⟨rfl, b5w.out.trans (b6.mono (Nat.le_refl _))⟩
  · have d1 : decide (a3.size ≤ 1048576) = false := decide_eq_false h
    have cb := Lib.hid (Rx.bytes a0 a1 a2 a3 w3 w)
    go_enter Tryf.func3, Tryf.ntmps3
    go_wp2_with (go_at_call 4; refine cb.out.mono ?_; rintro y w' ⟨rfl, rfl⟩)
    go_ret
    exact ⟨rfl, Below.refl _ _⟩
end Go.Proofs.YtfalpclhekpnnaaFmt.fnIsUnsupportedRegularExpressionMonotoneInFeatures
