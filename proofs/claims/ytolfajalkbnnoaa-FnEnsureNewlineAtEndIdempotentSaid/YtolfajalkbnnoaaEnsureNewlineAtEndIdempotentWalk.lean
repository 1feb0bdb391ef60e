/-
  The walk of FnEnsureNewlineAtEndIdempotent: it returns true for every script and every number of calls. No condition.
-/
import Derived.Test.YtolfajalkbnnoaaJoin8
namespace Go.Proofs.Ytolfajalkbnnoaa.fnEnsureNewlineAtEndIdempotent
open Go.RowKit Go.WideShapes Go.ChangeAt Go.ChangeShapes Go.Proofs.Ytolfajalkbnnoaa.Ints Go.Proofs.Ytolfajalkbnnoaa.Join

def SomeBool (w : World) (e : Ending) (w' : World) : Prop := ∃ r : Bool, e = .returned (.bool r) ∧ w = w'
theorem bytes (o o2 : Option Addr) (n m cap cap2 : Nat) (f : Nat → ByteArray) (t : Int) (w : World) (hI : StrsAt w o n f) (hf : ∀ i, i < n → (f i).size ≤ maxLen) (hn0 : n ≤ maxLen) (hm0 : m ≤ maxLen) :
    Calls Try.prog 15 #[.slice o n cap, .slice o2 m cap2, .int .u8 t] w (SomeBool w) := by
  have hm1 : maxLen = 9223372036854775807 := rfl
  rw [hm1] at hf hn0 hm0
  by_cases hn : 1048576 < n
  · go_enter Try.func15, Try.ntmps15
    go_wp2_with fail
    go_ret
    exact ⟨_, rfl, rfl⟩
  go_enter Try.func15, Try.ntmps15
  go_wp2_with fail
  go_loopg [7, 8] n (fun gk t i wr => w = wr ∧ ∃ r T : Nat, r ≤ n ∧ gk = n - r ∧ i = .int .i64 r ∧ t = .int .i64 T ∧ T ≤ 1048576)
  case atStart => exact ⟨rfl, 0, n, Nat.zero_le _, rfl, rfl, rfl, by omega⟩
  case round =>
    obtain ⟨rfl, r, T, hr, rfl, rfl, rfl, hTl⟩ := hrel
    rcases Nat.lt_or_ge r n with hlt | hge
    · have hA := hI
      rcases hA with h0 | ⟨b, off, rfl, _, hc⟩
      · omega
      have g1 := hc r hlt
      have hfr := hf r hlt
      clear hc
      by_cases h1 : 1048576 < (f r).size
      · go_wp2_with fail
        go_ret
        exact ⟨_, rfl, rfl⟩
      by_cases h2 : 1048576 < T + (f r).size
      · go_wp2_with fail
        go_ret
        exact ⟨_, rfl, rfl⟩
      go_wp2_with fail
      go_roundg (n - (r + 1))
      case measure => omega
      case rel => exact ⟨rfl, r + 1, T + (f r).size, by omega, rfl, rfl, by simp, by omega⟩
    · have hrn : r = n := by omega
      subst hrn
      by_cases h1 : 1048576 < m
      · go_wp2_with fail
        go_ret
        exact ⟨_, rfl, rfl⟩
      by_cases h2 : 1048576 < T + m
      · go_wp2_with fail
        go_ret
        exact ⟨_, rfl, rfl⟩
      go_wp2_with fail
      go_ret
      exact ⟨_, rfl, rfl⟩
theorem lenM (B J : Nat) (x : Sc) (w : World) (h : Made B w J x) : Calls Try.prog 11 #[.pointer (some ⟨J, 0, none⟩)] w fun e w' => e = .returned (.int .u32 x.L) ∧ w = w' := by
  obtain ⟨bs, hT, hJ⟩ := h
  exact length B J x.S bs x.L x.c w hJ
theorem lastM (B J : Nat) (x : Sc) (w : World) (h : Made B w J x) : Calls Try.prog 12 #[.pointer (some ⟨J, 0, none⟩)] w fun e w' => e = .returned (.int .u8 x.c) ∧ w = w' := by
  obtain ⟨bs, hT, hJ⟩ := h
  exact lastByte B J x.S bs x.L x.c w hJ
set_option maxRecDepth 100000 in
set_option maxHeartbeats 4000000 in
theorem main (o o2 : Option Addr) (n m cap cap2 : Nat) (f : Nat → ByteArray) (k : Nat → Bool) (t : Int) (ht0 : 0 ≤ t) (ht1 : t ≤ 255) (w : World) (hI : StrsAt w o n f) (hK : BoolsAt w o2 m k) (hf : ∀ i, i < n → (f i).size ≤ maxLen) (hn0 : n ≤ maxLen) (hm0 : m ≤ maxLen) :
    Calls Try.prog 4 #[.slice o n cap, .slice o2 m cap2, .int .u8 t] w fun e w' => e = .returned (.bool true) ∧ Below w.heap.size w w' := by
  replace hf := Lib.hid hf
  go_enter Try.func4, Try.ntmps4
  go_wp2_with fail
  go_at_call 15
  refine (bytes o o2 n m cap cap2 f t w hI hf.out hn0 hm0).mono ?_
  rintro e w' ⟨r, rfl, rfl⟩
  cases r with
  | false =>
    go_wp2_with fail
    go_ret
    exact ⟨rfl, Below.refl _ _⟩
  | true =>
    go_wp2_with fail
    go_at_call 16
    refine (tooBig o o2 n m cap cap2 f w hI hf.out hn0 hm0).mono ?_
    rintro e w' ⟨b, rfl, rfl, hb⟩
    cases b with
    | true =>
      go_wp2_with fail
      go_ret
      exact ⟨rfl, Below.refl _ _⟩
    | false =>
      obtain ⟨hn, hm, htot⟩ := hb rfl
      replace htot : Hid (tot f n ≤ 1048576) := Lib.hid (by omega)
      clear hb hn0 hm0
      go_wp2_with fail
      have M0 := made_new w
      have bel0 : Below w.heap.size w (w.alloc (.cells #[.slice none 0 0, .slice none 0 0, .int .u32 0, .int .u8 0] 30)) := (Below.refl _ _).alloc (Nat.le_refl _) _
      have hsz0 : w.heap.size ≤ (w.alloc (.cells #[.slice none 0 0, .slice none 0 0, .int .u32 0, .int .u8 0] 30)).heap.size := by simp
      generalize (w.alloc (.cells #[.slice none 0 0, .slice none 0 0, .int .u32 0, .int .u8 0] 30)) = w0 at M0 bel0 hsz0 ⊢
      go_wp2_with fail
      go_at_call 17
      refine (build w.heap.size w.heap.size o o2 n m cap cap2 f k w w0 M0 hI hK bel0 (Nat.le_refl _) hsz0 hn hm htot.out).mono ?_
      rintro e w1 ⟨rfl, M1, b1⟩
      generalize hx : scr f (kindAt m k) n = x at M1
      have xL : x.L + 1 ≤ 2097152 := by rw [← hx, scr_L]; have := htot.out; omega
      have xS : x.S.length + 1 ≤ 1048576 := by rw [← hx]; have := (scr_len f (kindAt m k) n).1; omega
      have xl : x.lone := by rw [← hx]; exact scr_lone f (kindAt m k) n
      replace hx := Lib.hid hx
      replace xL := Lib.hid xL
      replace xS := Lib.hid xS
      replace b1 := bel0.trans b1
      clear bel0 hsz0 M0
      go_wp2_with fail
      go_at_call 18
      refine (ensure w.heap.size w.heap.size x w1 M1 xL.out xS.out).mono ?_
      rintro e w2 ⟨rfl, M2, b2⟩
      replace b2 := b1.trans b2
      clear b1 M1
      go_wp2_with fail
      have N0 := made_new w2
      have bel2 : Below w2.heap.size w2 (w2.alloc (.cells #[.slice none 0 0, .slice none 0 0, .int .u32 0, .int .u8 0] 30)) := (Below.refl _ _).alloc (Nat.le_refl _) _
      have hsz2 : w2.heap.size ≤ (w2.alloc (.cells #[.slice none 0 0, .slice none 0 0, .int .u32 0, .int .u8 0] 30)).heap.size := by simp
      generalize (w2.alloc (.cells #[.slice none 0 0, .slice none 0 0, .int .u32 0, .int .u8 0] 30)) = w3 at N0 bel2 hsz2 ⊢
      have hw2 : w.heap.size ≤ w2.heap.size := b2.size
      have hI2 := hI.below b2
      have hK2 := hK.below b2
      go_wp2_with fail
      go_at_call 17
      refine (build w2.heap.size w2.heap.size o o2 n m cap cap2 f k w2 w3 N0 hI2 hK2 bel2 (Nat.le_refl _) hsz2 hn hm htot.out).mono ?_
      rintro e w4 ⟨rfl, N4, b4⟩
      rw [hx.out] at N4
      replace b4 := bel2.trans b4
      clear bel2 hsz2 N0 hI2 hK2
      generalize hA : w.heap.size = A at *
      generalize hA2 : w2.heap.size = A2 at *
      replace hA := Lib.hid hA
      replace hA2 := Lib.hid hA2
      have j0 : 0 ≤ t.tmod 8 ∧ t.tmod 8 ≤ 7 := by rw [Int.tmod_eq_emod_of_nonneg ht0]; omega
      go_wp2_with fail
      obtain ⟨K, hK7, hKt⟩ : ∃ K : Nat, K ≤ 7 ∧ t % 8 = (K : Int) := ⟨(t % 8).toNat, by omega, by omega⟩
      rw [hKt]
      clear hKt
      have ens2 : x.ens.ens = x.ens := x.ens_ens
      have xL2 : Hid (x.ens.L + 1 ≤ 2097152) := Lib.hid (by
        have h1 := xL.out
        have h2 := x.ens_L
        have h3 : x.L ≤ 1048576 := by rw [← hx.out, scr_L]; exact htot.out
        omega)
      have xS2 : Hid (x.ens.S.length + 1 ≤ 1048576) := Lib.hid (by
        have h2 := x.ens_S
        have h3 := (scr_len f (kindAt m k) n).1
        rw [hx.out] at h3
        omega)
      replace ens2 := Lib.hid ens2
      go_loopg [10] (K + 1) (fun gk i wr => ∃ r : Nat, r ≤ K + 1 ∧ gk = K + 1 - r ∧ i = .int .i64 r ∧ Made A2 wr A2 (if r = 0 then x else x.ens) ∧ Below A2 w2 wr)
      case atStart => exact ⟨0, Nat.zero_le _, rfl, rfl, N4, b4⟩
      case round =>
        clear N4 b4
        obtain ⟨r, hr, rfl, rfl, N, b⟩ := hrel
        rcases Nat.lt_or_ge r (K + 1) with hlt | hge
        · go_wp2_with fail
          go_at_call 18
          refine (ensure A2 A2 (if r = 0 then x else x.ens) wr N (by split; exact xL.out; exact xL2.out) (by split; exact xS.out; exact xS2.out)).mono ?_
          rintro e w5 ⟨rfl, N5, b5⟩
          have e1 : (if r = 0 then x else x.ens).ens = x.ens := by split; rfl; exact ens2.out
          rw [e1] at N5
          replace b5 := b.trans b5
          clear e1 N b
          go_wp2_with fail
          go_roundg (K + 1 - (r + 1))
          case measure => omega
          case rel => exact ⟨r + 1, by omega, rfl, rfl, by rw [if_neg (by omega)]; exact N5, b5⟩
        · have hrn : r = K + 1 := by omega
          subst hrn
          rw [if_neg (by omega)] at N
          have M := M2.below (w' := wr) (by rw [hA2.out]; exact b)
          clear M2
          have hend := Lib.hid x.ens_end
          have xl2 := Lib.hid (Sc.lone_ens xl)
          clear xl
          generalize x.ens = y at *
          go_wp2_with fail
          go_at_call 11
          refine (lenM A A y wr M).mono ?_
          rintro e w5 ⟨rfl, rfl⟩
          go_wp2_with fail
          go_at_call 11
          refine (lenM A2 A2 y wr N).mono ?_
          rintro e w5 ⟨rfl, rfl⟩
          go_wp2_with fail
          go_at_call 11
          refine (lenM A2 A2 y wr N).mono ?_
          rintro e w5 ⟨rfl, rfl⟩
          rcases Nat.eq_zero_or_pos y.L with h0 | h0
          · rw [h0]
            go_wp2_with fail
            go_at_call 14
            refine (doneM A A y wr M xl2.out).mono ?_
            rintro e w6 ⟨p, c1, rfl, hb1, B1, hl⟩
            have N6 := N.below B1
            go_wp2_with fail
            go_at_call 14
            refine (doneM A2 A2 y w6 N6 xl2.out).mono ?_
            rintro e w7 ⟨p2, c2, rfl, hb2, B2, _⟩
            have hb3 : BytesAt w7 p y.out.length y.out := hb1.keep (fun bb cur fr hg => B2.block bb (Array.getElem?_eq_some_iff.1 hg).1)
            have B3 : Below A w w7 := Below.trans b2 (Below.mono (Below.trans (Below.mono b (Nat.le_refl _)) (Below.mono (B1.trans (B2.mono B1.size)) (Nat.le_trans (Nat.le_of_eq hA2.out.symm) b.size))) hw2)
            replace hb1 := Lib.hid hb1
            replace hb2 := Lib.hid hb2
            replace hb3 := Lib.hid hb3
            replace hl := Lib.hid hl
            generalize y.out.length = ol at hb1 hb2 hb3 hl ⊢
            go_wp2_with fail
            go_at_call 19
            refine (eqBytes2 p p2 ol c1 c2 y.out w7 hb3.out hb2.out hl.out).mono ?_
            rintro e w8 ⟨rfl, B8⟩
            go_wp2_with fail
            go_ret
            exact ⟨rfl, by have := hA.out; exact Below.trans (this ▸ B3) (B8.mono B3.size)⟩
          · have hc10 : y.c = 10 := by have := hend.out; omega
            go_wp2_with fail
            go_at_call 12
            refine (lastM A2 A2 y wr N).mono ?_
            rintro e w5 ⟨rfl, rfl⟩
            rw [hc10]
            go_wp2_with fail
            go_at_call 14
            refine (doneM A A y wr M xl2.out).mono ?_
            rintro e w6 ⟨p, c1, rfl, hb1, B1, hl⟩
            have N6 := N.below B1
            go_wp2_with fail
            go_at_call 14
            refine (doneM A2 A2 y w6 N6 xl2.out).mono ?_
            rintro e w7 ⟨p2, c2, rfl, hb2, B2, _⟩
            have hb3 : BytesAt w7 p y.out.length y.out := hb1.keep (fun bb cur fr hg => B2.block bb (Array.getElem?_eq_some_iff.1 hg).1)
            have B3 : Below A w w7 := Below.trans b2 (Below.mono (Below.trans (Below.mono b (Nat.le_refl _)) (Below.mono (B1.trans (B2.mono B1.size)) (Nat.le_trans (Nat.le_of_eq hA2.out.symm) b.size))) hw2)
            replace hb1 := Lib.hid hb1
            replace hb2 := Lib.hid hb2
            replace hb3 := Lib.hid hb3
            replace hl := Lib.hid hl
            generalize y.out.length = ol at hb1 hb2 hb3 hl ⊢
            go_wp2_with fail
            go_at_call 19
            refine (eqBytes2 p p2 ol c1 c2 y.out w7 hb3.out hb2.out hl.out).mono ?_
            rintro e w8 ⟨rfl, B8⟩
            go_wp2_with fail
            go_ret
            exact ⟨rfl, by have := hA.out; exact Below.trans (this ▸ B3) (B8.mono B3.size)⟩
set_option maxRecDepth 100000 in
theorem walk (W : World) {H : Type} {enc : TypeId × Value → H} {base : Nat} {p0 p1 : List MemPlace} (v0 : Value) (d0 : DataW H) (k0 : Value.okWide Try.prog W .any base 38 v0) (h0 : DataW.Trod enc Try.prog W 0 (fun _ => true) true 38 v0 d0 p0)
    (v1 : Value) (d1 : DataW H) (k1 : Value.okWide Try.prog W .any base 39 v1) (h1 : DataW.Trod enc Try.prog W 0 (fun _ => true) true 39 v1 d1 p1) (a2 : Int) (w2 : (Lit.int .u8 a2).wf = true) :
    Calls Try.prog 4 #[v0, v1, .int .u8 a2] W fun e w' => e = .returned (.bool true) ∧ Below W.heap.size W w' := by
  have e1 : IntKind.u8.min = 0 := rfl
  have e2 : IntKind.u8.max = 255 := rfl
  obtain ⟨a0, l0, c0, rfl⟩ := okWide_slice Try.underlying38 k0
  obtain ⟨f0, hf0⟩ := h0
  obtain ⟨o, n, c, f, he, x1, x2, i0, s0, z0⟩ := openStrs (v := .slice a0 l0 c0) Try.underlying38 Try.underlying9 (by kernel_rfl) hf0
  rw [he]
  obtain ⟨o2, m, c2, k, rfl, y1, y2, i1, z1⟩ := openBools Try.underlying39 Try.underlying4 (by kernel_rfl) k1 h1
  have q0 : 0 ≤ a2 ∧ a2 ≤ 255 := by simpa [Lit.wf, e1, e2] using w2
  exact main o o2 n m c c2 f k a2 q0.1 q0.2 W i0 i1 s0 (Nat.le_trans x1 x2) (Nat.le_trans y1 y2)
end Go.Proofs.Ytolfajalkbnnoaa.fnEnsureNewlineAtEndIdempotent
