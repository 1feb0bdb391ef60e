/-
  The walk of FnNewSymbolConsecutiveRefsStoreInputs: it returns true for every input, where the variable InvalidRef holds what its initialiser lays. No other condition.
-/
import Derived.Test.YtimmcjjkfhambaaDoorSym3
import Derived.Deep.RegionWith
namespace Go.Proofs.YtimmcjjkfhambaaDoor.fnNewSymbolConsecutiveRefsStoreInputs
open Go.RowKit Go.ChangeShapes Go.WideShapes Go.ChangeAt Go.Proofs.YtimmcjjkfhambaaDoor.Ints Go.Proofs.YtimmcjjkfhambaaDoor.Sym

structure Gl (w : World) : Prop where
  g0 : w.cell? ⟨0, 0, none⟩ = some (.int .u32 4294967295)
  g1 : w.cell? ⟨0, 1, none⟩ = some (.int .u32 4294967295)
theorem Gl.below {B : Nat} {w w' : World} (h : Gl w) (hb : Below B w w') (hB : 0 < B) : Gl w' := ⟨(hb.cell (p := ⟨0, 0, none⟩) hB).trans h.g0, (hb.cell (p := ⟨0, 1, none⟩) hB).trans h.g1⟩
theorem belowN {B : Nat} {a w : World} (h : Below B a w) (n : Nat) : Below B a (w.drewN n) := ⟨h.os, h.tape, h.output, h.size, h.block⟩
theorem nameQ {B P n i : Nat} {src : Int} {tp : Bool} {K : Nat → Int} {M : Nat → ByteArray} {w : World} (h : Ps B w P src tp n K M) (hi : i < n) (hn : n ≤ 65536) (k : Nat) :
    Calls Tryd.prog 16 #[.pointer (some ⟨P, 0, none⟩), .int .i64 i] (w.drewN k) fun e w'' => e = .returned (.string (M i)) ∧ ∃ y, w'' = w.drewN y :=
  Calls.quiet_of_same ((symName B P n i src tp K M (w.drewN k) (h.next (belowN (Below.refl _ _) k)) hi hn).mono fun _ _ h => ⟨h.1, h.2.symm⟩)
set_option maxRecDepth 20000 in
set_option maxHeartbeats 4000000 in
theorem main (src : Int) (tp : Bool) (o o2 : Option Addr) (n m cap cap2 : Nat) (f : Nat → ByteArray) (g : Nat → Int) (w : World) (hG : Gl w) (hI : StrsAt w o n f) (hJ : IntsAt .u8 w o2 m g) (hs : ∀ i, i < n → (f i).size ≤ maxLen) (hg : ∀ i, i < m → 0 ≤ g i ∧ g i ≤ 255) (hn0 : n ≤ maxLen) (hm0 : m ≤ maxLen)
    (z1 : o = none → n = 0 ∧ cap = 0) (z2 : o2 = none → m = 0 ∧ cap2 = 0) :
    Calls Tryd.prog 3 #[.int .u32 src, .bool tp, .slice o n cap, .slice o2 m cap2] w fun e w' => e = .returned (.bool true) ∧ Below w.heap.size w w' := by
  have hn1 := hn0
  have hm1 := hm0
  unfold maxLen at hn1 hm1
  have hw0 : 0 < w.heap.size := lt_of_cell hG.g0
  replace z1 := Lib.hid z1
  replace z2 := Lib.hid z2
  replace hG := Lib.hid hG
  replace hg := Lib.hid hg
  go_enter Tryd.func3, Tryd.ntmps3
  go_wp2_with fail
  go_at_call 4
  refine (Sym.bytes o o2 n m cap cap2 _ _ f w hI hs hn0 hm0).mono ?_
  rintro e w' ⟨r, rfl, rfl, hsm⟩
  replace hs := Lib.hid hs
  replace hsm := Lib.hid hsm
  cases r with
  | false =>
    go_wp2_with fail
    go_ret
    exact ⟨rfl, Below.refl _ _⟩
  | true =>
    by_cases c1 : 65536 < n
    · go_wp2_with fail
      go_ret
      exact ⟨rfl, Below.refl _ _⟩
    by_cases c2 : 65536 < m
    · go_wp2_with fail
      go_ret
      exact ⟨rfl, Below.refl _ _⟩
    replace hI := Lib.hid hI
    replace hJ := Lib.hid hJ
    go_wp2_with fail
    go_at_call 5
    refine (strBytes o n cap f w hI.out (hsm.out (by simp)) (by omega)).mono ?_
    rintro e w' ⟨sv, hsv, rfl, rfl⟩
    by_cases c3 : 1048576 < m + sv
    · go_wp2_with fail
      go_ret
      exact ⟨rfl, Below.refl _ _⟩
    go_wp2_with fail
    go_at_call 6
    refine (clone o n cap f w (by omega) hI.out z1.out).mono ?_
    rintro e w1 ⟨p1, rfl, L1, B1⟩
    have hJ1 := hJ.out.below B1
    have hG1 := hG.out.below B1 hw0
    replace L1 := Lib.hid L1
    replace B1 := Lib.hid B1
    go_wp2_with fail
    go_at_call 7
    refine (cloneU o2 m cap2 g w1 (by omega) hJ1 z2.out).mono ?_
    rintro e w2 ⟨p2, rfl, I2, B2⟩
    have hw1 : 0 < w1.heap.size := by have := B1.out.size; omega
    have hG2 := hG1.below B2 hw1
    have I1 := L1.out.at_.below B2
    have b2 : Below w.heap.size w w2 := B1.out.trans (B2.mono B1.out.size)
    have hw2 : 0 < w2.heap.size := by have := B2.size; omega
    replace I1 := Lib.hid I1
    replace I2 := Lib.hid I2
    replace B2 := Lib.hid B2
    replace hG1 := Lib.hid hG1
    replace hG2 := Lib.hid hG2
    replace hJ1 := Lib.hid hJ1
    replace b2 := Lib.hid b2
    go_wp2_with fail
    go_at_call 8
    refine (newParser src tp (fun i => if i < m then g i else ((i % 256 : Nat) : Int)) f w2).mono ?_
    rintro e w3 ⟨P, rfl, b3, hP⟩
    have hK : ∀ i : Nat, 0 ≤ (fun i : Nat => if i < m then g i else ((i % 256 : Nat) : Int)) i ∧ (fun i : Nat => if i < m then g i else ((i % 256 : Nat) : Int)) i ≤ 255 := fun i => by
      by_cases h : i < m
      · have := hg.out i h
        simp only [h, if_true]
        exact this
      · simp only [h, if_false]
        omega
    generalize hKK : (fun i : Nat => if i < m then g i else ((i % 256 : Nat) : Int)) = K at hP hK
    replace hKK := Lib.hid hKK
    replace hK := Lib.hid hK
    replace hP := Lib.hid hP
    replace b3 := Lib.hid b3
    go_wp2_with fail
    go_loopg [11] n (fun gk i wr => ∃ r : Nat, r ≤ n ∧ gk = n - r ∧ i = .int .i64 r ∧ Below w2.heap.size w2 wr ∧ Ps w2.heap.size wr P src tp r K f)
    case atStart => exact ⟨0, Nat.zero_le _, rfl, rfl, b3.out, hP.out⟩
    case round =>
      obtain ⟨r, hr, rfl, rfl, b4, hP4⟩ := hrel
      have hG4 := hG2.out.below b4 hw2
      have I4 := I1.out.below b4
      have J4 := I2.out.below b4
      replace hP4 := Lib.hid hP4
      replace b4 := Lib.hid b4
      replace hG4 := Lib.hid hG4
      rcases Nat.lt_or_ge r n with hlt | hge
      · obtain ⟨bb, off, rfl, hb, hc⟩ := I4.resolve_left (by omega)
        have s1 := hc r hlt
        replace hc := Lib.hid hc
        replace J4 := Lib.hid J4
        go_wp2_with fail
        have J5 : IntsAt .u8 wr.drew p2 m g := J4.out.below (Below.refl _ _).drew
        have hP5 : Ps w2.heap.size wr.drew P src tp r K f := hP4.out.next (Below.refl _ _).drew
        have hkk : ∀ W, IntsAt .u8 W p2 m g → Calls Tryd.prog 10 #[.slice p2 m m, .int .i64 r] W fun e w' => e = .returned (.int .u8 (K r)) ∧ W = w' := fun W h => by
          rw [← hKK.out]
          exact kindAt p2 m m r g W (by omega) (by omega) h
        replace J5 := Lib.hid J5
        replace hP5 := Lib.hid hP5
        replace hkk := Lib.hid hkk
        go_region_with (first
          | (go_at_call 10; refine (hkk.out _ J5.out).mono ?_; rintro e w' ⟨rfl, rfl⟩)
          | (go_at_call 9; refine (newSymZ w2.heap.size P r src tp K f wr.drew hP5.out hw2 (by omega) hG4.out.g0 hG4.out.g1 (hK.out r)).mono ?_; rintro e w5 ⟨rfl, b5, hP6⟩; replace hP6 := Lib.hid hP6; replace b5 := Lib.hid b5))
        all_goals
          have hr2 : (r : Int) % 4294967296 = r := by omega
          go_wp2_with fail
          go_roundg (n - (r + 1))
          case measure => omega
          case rel => exact ⟨r + 1, by omega, rfl, rfl, b4.out.drew.trans b5.out, hP6.out⟩
      · have hrn : r = n := by omega
        rw [hrn] at hP4
        replace I4 := Lib.hid I4
        replace J4 := Lib.hid J4
        go_wp2_with fail
        go_at_call 11
        refine (symCount w2.heap.size P n src tp K f wr hP4.out).mono ?_
        rintro e w5 ⟨rfl, rfl⟩
        go_wp2_with fail
        go_at_call 12
        refine (tsLen w2.heap.size P n src tp K f wr hP4.out).mono ?_
        rintro e w5 ⟨rfl, rfl⟩
        go_wp2_with fail
        go_at_call 13
        refine (wantTS n tp wr).mono ?_
        rintro e w5 ⟨rfl, rfl⟩
        obtain ⟨V, rfl⟩ : ∃ V, V = wr := ⟨_, rfl⟩
        have hV0 : 0 < V.heap.size := by have := b4.out.size; omega
        cases tp with
        | false =>
          go_wp2_with fail
          go_loopg [15] n (fun gk i wz => ∃ y : Nat, y ≤ n ∧ gk = n - y ∧ i = .int .i64 y ∧ Below V.heap.size V wz)
          case atStart => exact ⟨0, Nat.zero_le _, rfl, rfl, Below.refl _ _⟩
          case round =>
            obtain ⟨y, hy, rfl, rfl, b7⟩ := hrel
            have hP7 := hP4.out.next b7
            have I7 := I4.out.below b7
            have J7 := J4.out.below b7
            have hG7 := hG4.out.below b7 hV0
            have s7 := b7.size
            replace b7 := Lib.hid b7
            replace hP7 := Lib.hid hP7
            replace hG7 := Lib.hid hG7
            replace J7 := Lib.hid J7
            rcases Nat.lt_or_ge y n with hlt | hge2
            · obtain ⟨bb, off, rfl, hb, hc⟩ := I7.resolve_left (by omega)
              have s1 := hc y hlt
              replace hc := Lib.hid hc
              have hkk : Calls Tryd.prog 10 #[.slice p2 m m, .int .i64 y] wr fun e w' => e = .returned (.int .u8 (K y)) ∧ wr = w' := by
                rw [← hKK.out]
                exact kindAt p2 m m y g wr (by omega) (by omega) J7.out
              replace hkk := Lib.hid hkk
              go_wp2_with fail
              go_at_call 15
              refine (symKind w2.heap.size P n y src _ K f wr hP7.out hlt (by omega) (hK.out y)).mono ?_
              rintro e w8 ⟨rfl, rfl⟩
              go_wp2_with fail
              go_at_call 10
              refine hkk.out.mono ?_
              rintro e w8 ⟨rfl, rfl⟩
              go_wp2_with fail
              go_quiet ((go_at_call 16; exact nameQ hP7.out hlt (by omega) _))
              have b8 : Below wr.heap.size wr (wr.drewN nq) := belowN (Below.refl _ _) _
              have b9 := b7.out.trans (b8.mono s7)
              have hP8 := hP7.out.next b8
              have hG8 := hG7.out.below b8 (by omega)
              generalize wr.drewN nq = X1 at *
              clear s1
              replace b8 := Lib.hid b8
              replace hP8 := Lib.hid hP8
              replace hG8 := Lib.hid hG8
              have s9 := b9.size
              replace b9 := Lib.hid b9
              go_wp2_with fail
              go_at_call 17
              refine (symLink w2.heap.size P n y src _ K f X1 hP8.out hlt (by omega) hG8.out.g0 hG8.out.g1).mono ?_
              rintro e X2 ⟨rfl, ba⟩
              replace ba := Lib.hid ba
              go_wp2_with fail
              go_roundg (n - (y + 1))
              case measure => omega
              case rel => exact ⟨y + 1, by omega, rfl, rfl, b9.out.trans (ba.out.mono s9)⟩
            · clear I7
              go_wp2_with fail
              go_ret
              exact ⟨rfl, (b2.out.trans (b4.out.mono b2.out.size)).trans (b7.out.mono (Nat.le_trans b2.out.size b4.out.size))⟩
        | true =>
          go_wp2_with fail
          go_loopg [14] n (fun gk i wz => ∃ y : Nat, y ≤ n ∧ gk = n - y ∧ i = .int .i64 y ∧ V = wz)
          case atStart => exact ⟨0, Nat.zero_le _, rfl, rfl, rfl⟩
          case round =>
            obtain ⟨y, hy, rfl, rfl, rfl⟩ := hrel
            rcases Nat.lt_or_ge y n with hlt | hge2
            · go_wp2_with fail
              go_at_call 14
              refine (tsCount w2.heap.size P n y src K f V hP4.out hlt (by omega)).mono ?_
              rintro e w8 ⟨rfl, rfl⟩
              go_wp2_with fail
              go_roundg (n - (y + 1))
              case measure => omega
              case rel => exact ⟨y + 1, by omega, rfl, rfl, rfl⟩
            · go_wp2_with fail
              rw [show decide (y < n) = false from decide_eq_false (by omega)]
              go_loopg [15] n (fun gk i wz => ∃ y : Nat, y ≤ n ∧ gk = n - y ∧ i = .int .i64 y ∧ Below V.heap.size V wz)
              case atStart => exact ⟨0, Nat.zero_le _, rfl, rfl, Below.refl _ _⟩
              case round =>
                obtain ⟨y, hy, rfl, rfl, b7⟩ := hrel
                have hP7 := hP4.out.next b7
                have I7 := I4.out.below b7
                have J7 := J4.out.below b7
                have hG7 := hG4.out.below b7 hV0
                have s7 := b7.size
                replace b7 := Lib.hid b7
                replace hP7 := Lib.hid hP7
                replace hG7 := Lib.hid hG7
                replace J7 := Lib.hid J7
                rcases Nat.lt_or_ge y n with hlt | hge2
                · obtain ⟨bb, off, rfl, hb, hc⟩ := I7.resolve_left (by omega)
                  have s1 := hc y hlt
                  replace hc := Lib.hid hc
                  have hkk : Calls Tryd.prog 10 #[.slice p2 m m, .int .i64 y] wr fun e w' => e = .returned (.int .u8 (K y)) ∧ wr = w' := by
                    rw [← hKK.out]
                    exact kindAt p2 m m y g wr (by omega) (by omega) J7.out
                  replace hkk := Lib.hid hkk
                  go_wp2_with fail
                  go_at_call 15
                  refine (symKind w2.heap.size P n y src _ K f wr hP7.out hlt (by omega) (hK.out y)).mono ?_
                  rintro e w8 ⟨rfl, rfl⟩
                  go_wp2_with fail
                  go_at_call 10
                  refine hkk.out.mono ?_
                  rintro e w8 ⟨rfl, rfl⟩
                  go_wp2_with fail
                  go_quiet ((go_at_call 16; exact nameQ hP7.out hlt (by omega) _))
                  have b8 : Below wr.heap.size wr (wr.drewN nq) := belowN (Below.refl _ _) _
                  have b9 := b7.out.trans (b8.mono s7)
                  have hP8 := hP7.out.next b8
                  have hG8 := hG7.out.below b8 (by omega)
                  generalize wr.drewN nq = X1 at *
                  clear s1
                  replace b8 := Lib.hid b8
                  replace hP8 := Lib.hid hP8
                  replace hG8 := Lib.hid hG8
                  have s9 := b9.size
                  replace b9 := Lib.hid b9
                  go_wp2_with fail
                  go_at_call 17
                  refine (symLink w2.heap.size P n y src _ K f X1 hP8.out hlt (by omega) hG8.out.g0 hG8.out.g1).mono ?_
                  rintro e X2 ⟨rfl, ba⟩
                  replace ba := Lib.hid ba
                  go_wp2_with fail
                  go_roundg (n - (y + 1))
                  case measure => omega
                  case rel => exact ⟨y + 1, by omega, rfl, rfl, b9.out.trans (ba.out.mono s9)⟩
                · clear I7
                  go_wp2_with fail
                  go_ret
                  exact ⟨rfl, (b2.out.trans (b4.out.mono b2.out.size)).trans (b7.out.mono (Nat.le_trans b2.out.size b4.out.size))⟩
set_option maxRecDepth 100000 in
theorem walk (W : World) {H : Type} {enc : TypeId × Value → H} {base : Nat} {p2 p3 : List MemPlace} (a0 : Int) (_w0 : (Lit.int .u32 a0).wf = true) (a1 : Bool) (v2 : Value) (d2 : DataW H) (k2 : Value.okWide Tryd.prog W .any base 23 v2) (h2 : DataW.Trod enc Tryd.prog W 0 (fun _ => true) true 23 v2 d2 p2)
    (v3 : Value) (d3 : DataW H) (k3 : Value.okWide Tryd.prog W .any base 24 v3) (h3 : DataW.Trod enc Tryd.prog W 0 (fun _ => true) true 24 v3 d3 p3) (hG : Gl W) :
    Calls Tryd.prog 3 #[.int .u32 a0, .bool a1, v2, v3] W fun e w' => e = .returned (.bool true) ∧ Below W.heap.size W w' := by
  obtain ⟨o3, n3, c3, f3, rfl, x3, y3, i3, l3, z3⟩ := openInts (k := .u8) Tryd.underlying24 Tryd.underlying5 (by kernel_rfl) k3 h3
  obtain ⟨a0', len, cap, rfl⟩ := okWide_slice Tryd.underlying23 k2
  obtain ⟨fuel, hf⟩ := h2
  obtain ⟨o2, n2, c2, f2, e2, x2, y2, i2, l2, z2⟩ := openStrs Tryd.underlying23 Tryd.underlying9 (by kernel_rfl) hf
  cases e2
  refine main a0 a1 _ o3 _ n3 _ c3 f2 f3 W hG i2 i3 l2 (fun i hi => ?_) (Nat.le_trans x2 y2) (Nat.le_trans x3 y3) z2 z3
  have hl := l3 i hi
  simp [Lit.wf, IntKind.min, IntKind.max, IntKind.signed, IntKind.bits] at hl
  omega
end Go.Proofs.YtimmcjjkfhambaaDoor.fnNewSymbolConsecutiveRefsStoreInputs
