/-
  The walk of FnBitSetStringEqualExactlyWhenSameBits: it returns true for every size and two lists. No condition.
-/
import Derived.Test.YtjnbhhfgoigalaaBitsetLaw
import Derived.Deep.QuietTactic
import Derived.BigQuiet
namespace Go.Proofs.Ytjnbhhfgoigalaa.fnBitSetStringEqualExactlyWhenSameBits
open Go.RowKit Go.Proofs.Ytjnbhhfgoigalaa.Ints Go.Proofs.Ytjnbhhfgoigalaa.Bitset

def SomeBool (w : World) (e : Ending) (w' : World) : Prop := ∃ r : Bool, e = .returned (.bool r) ∧ w = w'
theorem bytes (o o' : Option Addr) (n c n' c' : Nat) (x : Value) (w : World) (m1 : n ≤ maxLen) (m2 : n' ≤ maxLen) :
    Calls Try.prog 16 #[x, .slice o n c, .slice o' n' c'] w (SomeBool w) := by
  unfold maxLen at m1 m2
  go_enter Try.func16, Try.ntmps16
  go_wp2
  all_goals
    go_ret
    exact ⟨_, rfl, rfl⟩
theorem bl {w W w1 : World} (h : Below w.heap.size w W) (hb : Below W.heap.size W w1) : Below w.heap.size w w1 := h.trans (hb.mono h.size)
theorem row_below {w w' : World} {b : Nat} {t : TypeId} {n : Nat} {f : Nat → Value} (h : w.rowIs b t n f) (hB : Below w.heap.size w w') : w'.rowIs b t n f := h.of_block (hB.block _ h.lt)
theorem cell_below {w w' : World} {a : Addr} {v : Value} (h : w.cell? a = some v) (hB : Below w.heap.size w w') : w'.cell? a = some v := (hB.cell (lt_of_cell h)).trans h

structure Sets (w : World) (m d d' b b' : Nat) (g g' : Nat → Int) : Prop where
  x : w.cell? ⟨d, 0, none⟩ = some (.slice (some ⟨b, 0, none⟩) m m)
  y : w.cell? ⟨d', 0, none⟩ = some (.slice (some ⟨b', 0, none⟩) m m)
  r : w.rowIs b 5 m (fun i => .int .u8 (g i))
  r' : w.rowIs b' 5 m (fun i => .int .u8 (g' i))
theorem Sets.below {w w' : World} {m d d' b b' : Nat} {g g' : Nat → Int} (h : Sets w m d d' b b' g g') (hB : Below w.heap.size w w') : Sets w' m d d' b b' g g' :=
  ⟨cell_below h.x hB, cell_below h.y hB, row_below h.r hB, row_below h.r' hB⟩

/-- The second half: strings and verdicts. -/
theorem below_drewN {B : Nat} {a w : World} (h : Below B a w) (n : Nat) : Below B a (w.drewN n) := ⟨h.os, h.tape, h.output, h.size, h.block⟩
def Drawn (w wr : World) : Prop := ∃ t, wr = w.drewN t
theorem Drawn.step {w wr : World} (h : Drawn w wr) (n : Nat) : Drawn w (wr.drewN n) := by
  obtain ⟨t, rfl⟩ := h
  exact ⟨t + n, World.drewN_drewN _ _ _⟩
theorem Drawn.below {w wr : World} (h : Drawn w wr) : Below w.heap.size w wr := by
  obtain ⟨t, rfl⟩ := h
  exact below_drewN (Below.refl _ _) _
theorem same_succ (f f' : Nat → Int) (l l' r : Nat) : sameM f f' l l' (r + 1) = (sameM f f' l l' r && (marked f l r == marked f' l' r)) := by
  unfold sameM
  rw [Bool.eq_iff_iff, Bool.and_eq_true, decide_eq_true_eq, decide_eq_true_eq, beq_iff_eq]
  constructor
  · exact fun h => ⟨fun p hp => h p (by omega), h r (by omega)⟩
  · rintro ⟨h1, h2⟩ p hp
    by_cases e : p = r
    · rw [e]; exact h2
    · exact h1 p (by omega)

set_option maxRecDepth 100000 in
set_option maxHeartbeats 4000000 in
theorem main (n : Nat) (o : Option Addr) (l c : Nat) (f : Nat → Int) (o' : Option Addr) (l' c' : Nat) (f' : Nat → Int) (w : World) (m1 : l ≤ maxLen) (m2 : l' ≤ maxLen) (h1 : IntsAt .u32 w o l f) (h2 : IntsAt .u32 w o' l' f')
    (z1 : o = none → l = 0 ∧ c = 0) (z2 : o' = none → l' = 0 ∧ c' = 0) (hf : ∀ i, i < l → 0 ≤ f i) (hf' : ∀ i, i < l' → 0 ≤ f' i) :
    Calls Try.prog 5 #[.int .u32 n, .slice o l c, .slice o' l' c'] w fun e w' => e = .returned (.bool true) ∧ Below w.heap.size w w' := by
  have hm1 := m1
  have hm2 := m2
  unfold maxLen at hm1 hm2
  go_enter Try.func5, Try.ntmps5
  go_wp2_with fail
  go_at_call 16
  refine (bytes _ _ _ _ _ _ _ _ m1 m2).mono ?_
  rintro e w' ⟨r, rfl, rfl⟩
  cases r with
  | false =>
    go_wp2
    go_ret
    exact ⟨rfl, Below.refl _ _⟩
  | true =>
    by_cases big : l ≤ 65536 ∧ l' ≤ 65536 ∧ n ≤ 65536
    · obtain ⟨b1, b2, b3⟩ := big
      go_wp2_with fail
      go_loopg [7] l (fun gk i wr => w = wr ∧ ∃ r : Nat, r ≤ l ∧ gk = l - r ∧ i = .int .i64 r ∧ ∀ j, j < r → f j < n)
      case atStart => exact ⟨rfl, 0, Nat.zero_le _, rfl, rfl, fun j hj => absurd hj (by omega)⟩
      case round =>
        obtain ⟨rfl, r, hr, rfl, rfl, hq⟩ := hrel
        replace hq := Lib.hid hq
        rcases Nat.lt_or_ge r l with hlt | hge
        · have h1' := h1
          rcases h1' with h0 | ⟨bb, off, he, hbb, hc⟩
          · omega
          · cases he
            obtain ⟨q, hqe⟩ := Int.eq_ofNat_of_zero_le (hf r hlt)
            have g2 : w.cell? ⟨bb, off + r, none⟩ = some (.int .u32 q) := by rw [← hqe]; exact hc r hlt
            replace hqe := Lib.hid hqe
            clear hc
            by_cases hqn : q < n
            · go_wp2_with fail
              go_roundg (l - (r + 1))
              case measure => omega
              case rel =>
                refine ⟨rfl, r + 1, by omega, rfl, rfl, fun j hj => ?_⟩
                by_cases e : j = r
                · rw [e, hqe.out]; omega
                · exact hq.out j (by omega)
            · go_wp2_with fail
              go_ret
              exact ⟨rfl, Below.refl _ _⟩
        · have hrn : r = l := by omega
          subst hrn
          have hF : ∀ j, j < r → 0 ≤ f j ∧ f j < n := fun j hj => ⟨hf j hj, hq.out j hj⟩
          replace hF := Lib.hid hF
          clear hq hf
          go_wp2_with fail
          go_loopg [8] l' (fun gk i wr => w = wr ∧ ∃ r : Nat, r ≤ l' ∧ gk = l' - r ∧ i = .int .i64 r ∧ ∀ j, j < r → f' j < n)
          case atStart => exact ⟨rfl, 0, Nat.zero_le _, rfl, rfl, fun j hj => absurd hj (by omega)⟩
          case round =>
            obtain ⟨rfl, s, hs, rfl, rfl, hq⟩ := hrel
            replace hq := Lib.hid hq
            rcases Nat.lt_or_ge s l' with hlt | hge
            · have h2' := h2
              rcases h2' with h0 | ⟨bb, off, he, hbb, hc⟩
              · omega
              · cases he
                obtain ⟨q, hqe⟩ := Int.eq_ofNat_of_zero_le (hf' s hlt)
                have g2 : w.cell? ⟨bb, off + s, none⟩ = some (.int .u32 q) := by rw [← hqe]; exact hc s hlt
                replace hqe := Lib.hid hqe
                clear hc
                by_cases hqn : q < n
                · go_wp2_with fail
                  go_roundg (l' - (s + 1))
                  case measure => omega
                  case rel =>
                    refine ⟨rfl, s + 1, by omega, rfl, rfl, fun j hj => ?_⟩
                    by_cases e : j = s
                    · rw [e, hqe.out]; omega
                    · exact hq.out j (by omega)
                · go_wp2_with fail
                  go_ret
                  exact ⟨rfl, Below.refl _ _⟩
            · have hsn : s = l' := by omega
              subst hsn
              have hF' : ∀ j, j < s → 0 ≤ f' j ∧ f' j < n := fun j hj => ⟨hf' j hj, hq.out j hj⟩
              replace hF' := Lib.hid hF'
              clear hq hf'
              go_wp2_with fail
              go_at_call 17
              refine (copyU o r c f w (by omega) h1 z1).mono ?_
              rintro e w1 ⟨p1, rfl, i1, B1⟩
              go_wp2_with fail
              go_at_call 17
              refine (copyU o' s c' f' w1 (by omega) (h2.below B1) z2).mono ?_
              rintro e w2 ⟨p2, rfl, i2, B2⟩
              replace i1 := i1.below B2
              replace B2 := bl B1 B2
              clear h1 h2 z1 z2 B1
              go_wp2_with fail
              go_at_call 18
              refine (build n b3 p1 r r b1 f w2 i1 hF.out).mono ?_
              rintro e w3 ⟨b, g, rfl, B3, R3, hg, hM⟩
              replace hM := Lib.hid hM
              replace i1 := i1.below B3
              replace i2 := i2.below B3
              replace B3 := bl B2 B3
              clear B2
              have LW := Lib.hid (fun (g' : Nat → Int) (hg' : Byte g') (h' : ∀ i, bitOn g' i = marked f' s i) => law (m := (n + 7) / 8) hg hg' rfl hM.out h' hF.out hF'.out)
              have hm : (n + 7) / 8 ≤ 8192 := by omega
              have hmI : ((n : Int) + 7) / 8 = (((n + 7) / 8 : Nat) : Int) := by omega
              have BD := Lib.hid (fun w hI => build n b3 p2 s s b2 f' w hI hF'.out)
              have hmI' := Lib.hid hmI
              clear hmI hM hg
              generalize (n + 7) / 8 = m at R3 LW hm BD hmI' ⊢
              go_wp2_with fail
              go_at_call 18
              refine (BD.out _ (i2.below ((Below.refl _ _).alloc (Nat.le_refl _) _))).mono ?_
              rintro e w4 ⟨b', g', rfl, B4, R4, hg', hM'⟩
              have HL := Lib.hid (LW.out g' hg' hM')
              clear LW hg' hM' BD
              have A3 : Below w3.heap.size w3 (w3.alloc (.cells #[.slice (some ⟨b, 0, none⟩) m m] 36)) := (Below.refl _ _).alloc (Nat.le_refl _) _
              have C3 : (w3.alloc (.cells #[.slice (some ⟨b, 0, none⟩) m m] 36)).cell? ⟨w3.heap.size, 0, none⟩ = some (.slice (some ⟨b, 0, none⟩) m m) := by simp
              replace C3 := cell_below C3 B4
              replace R3 := row_below R3 (bl A3 B4)
              replace i1 := i1.below (bl A3 B4)
              replace i2 := i2.below (bl A3 B4)
              replace B4 := bl B3 (bl A3 B4)
              clear B3 A3
              have A4 : Below w4.heap.size w4 (w4.alloc (.cells #[.slice (some ⟨b', 0, none⟩) m m] 36)) := (Below.refl _ _).alloc (Nat.le_refl _) _
              have hSt : Sets (w4.alloc (.cells #[.slice (some ⟨b', 0, none⟩) m m] 36)) m w3.heap.size w4.heap.size b b' g g' := ⟨cell_below C3 A4, by simp, row_below R3 A4, row_below R4 A4⟩
              replace i1 := i1.below A4
              replace i2 := i2.below A4
              replace B4 := bl B4 A4
              obtain ⟨d, hd⟩ : ∃ d, d = w3.heap.size := ⟨_, rfl⟩
              obtain ⟨d', hd'⟩ : ∃ d, d = w4.heap.size := ⟨_, rfl⟩
              clear A4 C3 R3 R4
              go_wp2_with fail
              rw [← hd, ← hd'] at hSt ⊢
              replace hd := Lib.hid hd
              replace hd' := Lib.hid hd'
              generalize w4.alloc (.cells #[.slice (some ⟨b', 0, none⟩) m m] 36) = w5 at hSt i1 i2 B4 ⊢
              go_at_call 19
              refine (marks n b3 p1 r r b1 f w5 i1 hF.out).mono ?_
              rintro e w6 ⟨rfl, B6, R6⟩
              replace hSt := hSt.below B6
              replace i2 := i2.below B6
              replace B6 := bl B4 B6
              obtain ⟨ma, hma⟩ : ∃ d, d = w5.heap.size := ⟨_, rfl⟩
              rw [← hma] at R6 ⊢
              replace hma := Lib.hid hma
              clear B4 i1
              go_wp2_with fail
              go_at_call 19
              refine (marks n b3 p2 s s b2 f' w6 i2 hF'.out).mono ?_
              rintro e w7 ⟨rfl, B7, R7⟩
              replace hSt := hSt.below B7
              replace R6 := row_below R6 B7
              replace B7 := bl B6 B7
              obtain ⟨mb, hmb⟩ : ∃ d, d = w6.heap.size := ⟨_, rfl⟩
              rw [← hmb] at R7 ⊢
              replace hmb := Lib.hid hmb
              clear B6 i2 hF hF'
              go_wp2_with fail
              go_loopg [13, 14] n (fun gk sv i wr => ∃ q : Nat, Drawn w7 wr ∧ q ≤ n ∧ gk = n - q ∧ i = .int .i64 q ∧ sv = .bool (sameM f f' r s q))
              case atStart => exact ⟨0, ⟨0, rfl⟩, Nat.zero_le _, rfl, rfl, by simp [sameM]⟩
              case round =>
                obtain ⟨q, hD, hq, rfl, rfl, rfl⟩ := hrel
                have Bt := hD.below
                rcases Nat.lt_or_ge q n with hlt | hge
                · have g1 := row_below R6 Bt |>.cell hlt
                  have g2 := row_below R7 Bt |>.cell hlt
                  have HS := Lib.hid (same_succ f f' r s q)
                  have hqi : (q : Int) < (n : Int) := by omega
                  clear hSt R6 R7 Bt B7
                  cases hx : marked f r q <;> cases hy : marked f' s q <;> cases hz : sameM f f' r s q
                  all_goals
                    rw [hx] at g1
                    rw [hy] at g2
                    rw [hx, hy, hz] at HS
                    replace hx := Lib.hid hx
                    replace hy := Lib.hid hy
                    replace hz := Lib.hid hz
                    go_wp2_with fail
                    go_quiet (fail)
                    go_wp2_with fail
                    go_roundg (n - (q + 1))
                    case measure => omega
                    case rel => exact ⟨q + 1, hD.step _, by omega, rfl, rfl, by rw [HS.out]; rfl⟩
                · have hqn : q = n := by omega
                  subst hqn
                  have hSw := hSt.below Bt
                  have Bw := bl B7 Bt
                  clear hSt B7 Bt R6 R7
                  clear hD
                  have gx := hSw.x
                  have gy := hSw.y
                  go_wp2_with fail
                  go_at_call 20
                  refine (str b m g _ hm hSw.r).mono ?_
                  rintro e w9 ⟨rfl, B9⟩
                  replace hSw := hSw.below B9
                  replace B9 := bl Bw B9
                  clear gx gy Bw
                  have gy := hSw.y
                  go_wp2_with fail
                  go_at_call 20
                  refine (str b' m g' _ hm hSw.r').mono ?_
                  rintro e wA ⟨rfl, BA⟩
                  replace hSw := hSw.below BA
                  replace BA := bl B9 BA
                  clear gy B9
                  have gx := hSw.x
                  have gy := hSw.y
                  have hsz := strOf_size g m
                  have hmI := hmI'.out
                  obtain ⟨sb, hsb⟩ : ∃ sb, sb = sameM f f' r s q := ⟨_, rfl⟩
                  rw [← hsb] at HL ⊢
                  replace hsb := Lib.hid hsb
                  cases sb
                  all_goals
                    have hX := HL.out
                    go_wp2_with fail
                    go_at_call 21
                    refine (equals b b' m g g' _ hSw.r hSw.r').mono ?_
                    rintro e wB ⟨rfl, BB⟩
                    replace BB := bl BA BB
                    clear gx gy hSw BA
                    rw [hX]
                    go_wp2_with fail
                    go_ret
                    exact ⟨rfl, BB⟩
    · go_wp2
      all_goals first | omega | (go_ret; exact ⟨rfl, Below.refl _ _⟩)

theorem u32_wf {a : Int} (h : (Lit.int .u32 a).wf = true) : 0 ≤ a := by
  have : 0 ≤ a ∧ a ≤ 4294967295 := by simpa [Lit.wf, IntKind.min, IntKind.max, IntKind.signed, IntKind.bits] using h
  exact this.1
theorem walk (W : World) {H : Type} {enc : TypeId × Value → H} {base : Nat} {p1 p2 : List MemPlace} (a0 : Int) (w0 : (Lit.int .u32 a0).wf = true)
    (v1 : Value) (d1 : DataW H) (k1 : Value.okWide Try.prog W .any base 41 v1) (h1 : DataW.Trod enc Try.prog W 0 (fun _ => true) true 41 v1 d1 p1)
    (v2 : Value) (d2 : DataW H) (k2 : Value.okWide Try.prog W .any base 41 v2) (h2 : DataW.Trod enc Try.prog W 0 (fun _ => true) true 41 v2 d2 p2) :
    Calls Try.prog 5 #[.int .u32 a0, v1, v2] W fun e w' => e = .returned (.bool true) ∧ Below W.heap.size W w' := by
  obtain ⟨o1, n1, c1, f1, rfl, x1, y1, i1, g1, z1⟩ := openInts (k := .u32) Try.underlying41 Try.underlying22 (by kernel_rfl) k1 h1
  obtain ⟨o2, n2, c2, f2, rfl, x2, y2, i2, g2, z2⟩ := openInts (k := .u32) Try.underlying41 Try.underlying22 (by kernel_rfl) k2 h2
  obtain ⟨n, rfl⟩ := Int.eq_ofNat_of_zero_le (u32_wf w0)
  exact main n o1 n1 c1 f1 o2 n2 c2 f2 W (Nat.le_trans x1 y1) (Nat.le_trans x2 y2) i1 i2 z1 z2 (fun i hi => u32_wf (g1 i hi)) (fun i hi => u32_wf (g2 i hi))
end Go.Proofs.Ytjnbhhfgoigalaa.fnBitSetStringEqualExactlyWhenSameBits
