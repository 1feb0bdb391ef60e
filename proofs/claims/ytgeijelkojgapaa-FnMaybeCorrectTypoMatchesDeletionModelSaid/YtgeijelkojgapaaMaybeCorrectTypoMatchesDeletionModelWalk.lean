/-
  The walk of FnMaybeCorrectTypoMatchesDeletionModel: it returns true for every word list and every typo. No condition.
-/
import Derived.Test.YtgeijelkojgapaaTyF
namespace Go.Proofs.Ytgeijelkojgapaa.fnMaybeCorrectTypoMatchesDeletionModel
open Go.RowKit Go.WideShapes Go.ChangeAt Go.ChangeShapes Go.Proofs.Ytgeijelkojgapaa.Ints Go.Proofs.Ytgeijelkojgapaa.Ty

set_option maxRecDepth 100000 in
set_option maxHeartbeats 8000000 in
theorem main (o : Option Addr) (n cap : Nat) (f : Nat → ByteArray) (s : ByteArray) (w : World) (hn : n ≤ maxLen) (ht : s.size ≤ maxLen) (hI : StrsAt w o n f) (hs : ∀ i, i < n → (f i).size ≤ maxLen) (h0 : o = none → n = 0 ∧ cap = 0) :
    Calls Try.prog 4 #[.slice o n cap, .string s] w fun e w' => e = .returned (.bool true) ∧ Below w.heap.size w w' := by
  have c1 := Lib.hid (bytes4 o n cap f s w hn ht hI hs)
  have hb0 := Lib.hid (Below.refl w.heap.size w)
  have hI0 := Lib.hid hI
  replace hI := Lib.hid hI
  replace h0 := Lib.hid h0
  clear hs
  go_enter Try.func4, Try.ntmps4
  go_wp2_with fail
  go_at_call 10
  refine c1.out.mono ?_
  rintro e w1 ⟨x1, rfl, hx1, rfl⟩
  clear c1
  cases x1 with
  | false =>
    go_wp2_with fail
    go_ret
    exact ⟨rfl, hb0.out⟩
  | true =>
  obtain ⟨y1, y2, y3⟩ := hx1 rfl
  have c2 := Lib.hid (sizeOK o n cap f s w1 y1 y2 hI.out y3)
  replace y3 := Lib.hid y3
  clear hx1
  go_wp2_with fail
  go_at_call 11
  refine c2.out.mono ?_
  rintro e w2 ⟨x2, rfl, hx2, rfl⟩
  clear c2
  cases x2 with
  | false =>
    go_wp2_with fail
    go_ret
    exact ⟨rfl, hb0.out⟩
  | true =>
  obtain ⟨z1, z2⟩ := hx2 rfl
  have c3 := Lib.hid (unfoldOK o n cap f w2 z1 hI.out y3.out)
  clear hx2
  go_wp2_with fail
  go_at_call 12
  refine c3.out.mono ?_
  rintro e w3 ⟨x3, rfl, hx3, rfl⟩
  clear c3 hx3
  cases x3 with
  | false =>
    go_wp2_with fail
    go_ret
    exact ⟨rfl, hb0.out⟩
  | true =>
  have c4 := Lib.hid (validU s w3 (by omega))
  go_wp2_with fail
  go_at_call 13
  refine c4.out.mono ?_
  rintro e w4 ⟨x4, rfl, hx4, rfl⟩
  clear c4
  cases x4 with
  | false =>
    go_wp2_with fail
    go_ret
    exact ⟨rfl, hb0.out⟩
  | true =>
  have hvs := Lib.hid (hx4 rfl)
  clear hx4
  go_wp2_with fail
  go_loopg [5] n (fun gk i wr => ∃ r : Nat, r ≤ n ∧ gk = n - r ∧ i = .int .i64 r ∧ wr = w4 ∧ ∀ j, j < r → 3 < (f j).size → Valid (f j))
  case atStart => exact ⟨0, Nat.zero_le _, rfl, rfl, rfl, fun j h => by omega⟩
  case round =>
    obtain ⟨r, hr, rfl, rfl, rfl, hv⟩ := hrel
    rcases Nat.lt_or_ge r n with hlt | hge
    · rcases hI.out with h | ⟨bb, off, rfl, hbb, hcl⟩
      · omega
      · have g2 := hcl r hlt
        have hsz := y3.out r hlt
        replace hv := Lib.hid hv
        clear hcl
        by_cases p3 : 3 < (f r).size
        · have c5 := validU (f r) wr hsz
          go_wp2_with fail
          go_at_call 13
          refine c5.mono ?_
          rintro e w5 ⟨x5, rfl, hx5, rfl⟩
          clear c5
          cases x5 with
          | false =>
            go_wp2_with fail
            go_ret
            exact ⟨rfl, hb0.out⟩
          | true =>
            have hv5 := Lib.hid (hx5 rfl)
            clear hx5
            go_wp2_with fail
            go_roundg (n - (r + 1))
            case measure => omega
            case rel =>
              refine ⟨r + 1, by omega, rfl, rfl, rfl, fun j h h3 => ?_⟩
              rcases Nat.lt_or_ge j r with g | g
              · exact hv.out j g h3
              · rw [show j = r by omega]
                exact hv5.out
        · go_wp2_with fail
          go_roundg (n - (r + 1))
          case measure => omega
          case rel =>
            refine ⟨r + 1, by omega, rfl, rfl, rfl, fun j h h3 => ?_⟩
            rcases Nat.lt_or_ge j r with g | g
            · exact hv.out j g h3
            · rw [show j = r by omega] at h3
              exact absurd h3 p3
    · have hrn : r = n := by omega
      subst hrn
      have c6 := Lib.hid (copy o r cap f wr z1 hI.out h0.out)
      replace hv := Lib.hid hv
      go_wp2_with fail
      go_at_call 14
      refine c6.out.mono ?_
      rintro e w6 ⟨o6, rfl, hI6, hb6⟩
      have c7 := Lib.hid (model o6 r r f s w6 z1 hI6 y3.out hv.out z2 hvs.out)
      replace hI6 := Lib.hid hI6
      replace hb6 := Lib.hid hb6
      clear c6
      go_wp2_with fail
      go_at_call 15
      refine c7.out.mono ?_
      rintro e w7 ⟨rfl, hb7⟩
      have c8 := Lib.hid (make o6 r r f w7 z1 (hI6.out.below hb7) y3.out hv.out)
      have hb7' := Lib.hid (hb6.out.trans (hb7.mono hb6.out.size))
      clear c7 hb7 hI6
      have hAd : ∃ A, ans (lk f r) s = A := ⟨_, rfl⟩
      obtain ⟨A, hA⟩ := hAd
      rw [hA]
      obtain ⟨a, b⟩ := A
      replace hA := Lib.hid hA
      dsimp only
      go_wp2_with fail
      go_at_call 16
      refine c8.out.mono ?_
      rintro e w8 ⟨M, D, c, rfl, hown, hrd, hM, hb8⟩
      have c9 := Lib.hid (fun ob => find M c D (lk f r) s (w8.alloc ob) (hown.alloc ob) hrd z2 hvs.out)
      have hb9 := Lib.hid (hb7'.out.trans (hb8.mono hb7'.out.size))
      clear c8 hown hrd hb8 hM
      go_wp2_with fail
      refine (c9.out _).mono ?_
      rintro e w9 ⟨rfl, hb10⟩
      have hA9 := hA.out
      rw [hA9]
      clear c9
      have hs8 := hb9.out.size
      have hfin : Below wr.heap.size wr w9 := by
        refine (hb9.out.alloc hs8 _).trans (hb10.mono ?_)
        simp
        omega
      replace hfin := Lib.hid hfin
      clear hb10
      dsimp only
      cases b with
      | false =>
        go_wp2_with fail
        go_ret
        exact ⟨by simp, hfin.out⟩
      | true =>
        go_wp2_with fail
        go_ret
        exact ⟨by simp, hfin.out⟩
theorem walk (W : World) {H : Type} {enc : TypeId × Value → H} {base : Nat} {p0 : List MemPlace} (v0 : Value) (d0 : DataW H) (k0 : Value.okWide Try.prog W .any base 28 v0) (h0 : DataW.Trod enc Try.prog W 0 (fun _ => true) true 28 v0 d0 p0) (s : ByteArray) (m1 : s.size ≤ maxLen) :
    Calls Try.prog 4 #[v0, .string s] W fun e w' => e = .returned (.bool true) ∧ Below W.heap.size W w' := by
  obtain ⟨a0, l0, c0, rfl⟩ := okWide_slice Try.underlying28 k0
  obtain ⟨f0, hf0⟩ := h0
  obtain ⟨o, n, c, f, he, x1, x2, i0, s0, z0⟩ := openStrs (v := .slice a0 l0 c0) Try.underlying28 Try.underlying9 (by kernel_rfl) hf0
  rw [he]
  exact main o n c f s W (Nat.le_trans x1 x2) m1 i0 s0 z0
end Go.Proofs.Ytgeijelkojgapaa.fnMaybeCorrectTypoMatchesDeletionModel
