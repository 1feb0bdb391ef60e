/-
  The walk of FnDoneAgreesWithAddMinusOne: it returns true for every script of steps. No condition.
-/
import Derived.Test.YtfliibbhdfiloaaWg
namespace Go.Proofs.Ytfliibbhdfiloaa.fnDoneAgreesWithAddMinusOne
open Go.RowKit Go.Proofs.Ytfliibbhdfiloaa.Ints Go.Proofs.Ytfliibbhdfiloaa.Wg

def ht (f : Nat → Bool) : Nat → Int
  | 0 => 0
  | r + 1 => ht f r + if f r then 1 else -1
theorem ht_rng (f : Nat → Bool) (r : Nat) : -(r : Int) ≤ ht f r ∧ ht f r ≤ r := by
  induction r with
  | zero => exact ⟨by simp [ht], by simp [ht]⟩
  | succ r ih => unfold ht; split <;> omega
theorem ht_t {f : Nat → Bool} {r : Nat} (h : f r = true) : ht f (r + 1) = ht f r + 1 := by simp [ht, h]
theorem ht_f {f : Nat → Bool} {r : Nat} (h : f r = false) : ht f (r + 1) = ht f r - 1 := by simp [ht, h]; omega
theorem infoB : (Try.prog.info? 4).map (fun i => (i.zero, i.size, i.bytes)) = some (some (.bool false), 1, 1) := by kernel_rfl
theorem eql_nil (t e : TypeId) (a : Option Addr) (l c : Nat) (h : Try.prog.underlying t = some (.slice e)) (w : World) : (binOp .eql t (.slice a l c) (.slice none 0 0)).run Try.prog w = .ok (.bool a.isNone) w := by
  simp [binOp, run_equal_slice_nil w t e a l c h]
theorem clone_some (a : Addr) (n cap : Nat) (f : Nat → Bool) (w : World) (hn : n ≤ 65536) (hI : BoolsAt w (some a) n f) :
    Calls Try.prog 9 #[.slice (some a) n cap] w fun e w' => e = .returned (.slice (some ⟨w.heap.size, 0, none⟩) n n) ∧ FillingB w w' 4 n n f := by
  have hmk := run_make_row' (P := Try.prog) 28 4 (.bool false) 1 Try.underlying28 infoB rfl .i64 .i64 n (by omega) (by omega)
  have hnil := eql_nil 28 4 (some a) n cap Try.underlying28
  go_enter Try.func9, Try.ntmps9
  go_wp2
  clear hmk
  go_loopg [4] n (fun g i wr => ∃ r : Nat, r ≤ n ∧ g = n - r ∧ i = .int .i64 r ∧ FillingB w wr 4 n r f)
  case atStart => exact ⟨0, Nat.zero_le _, rfl, rfl, fillingB_start _ _ _ _⟩
  case round =>
    obtain ⟨r, hr, rfl, rfl, hF⟩ := hrel
    rcases Nat.lt_or_ge r n with hlt | hge
    · rcases hI with h0 | ⟨b, off, he, hb, hc⟩
      · omega
      · cases he
        have g2 : wr.cell? ⟨b, off + r, none⟩ = some (.bool (f r)) := (hF.below.cell (by exact hb)).trans (hc r hlt)
        have g4 : wr.cell? ⟨w.heap.size, r, none⟩ = some (.bool false) := by simpa [fillB] using hF.row.cell hlt
        have g5 := hF.row.frozen r
        clear hc
        go_wp2
        go_roundg (n - (r + 1))
        case measure => omega
        case rel => exact ⟨r + 1, by omega, rfl, rfl, fillingB_step hF⟩
    · have hrn : r = n := by omega
      subst hrn
      clear hI
      go_wp2
      go_ret
      exact ⟨rfl, hF⟩
theorem clone_nil (w : World) : Calls Try.prog 9 #[.slice none 0 0] w fun e w' => e = .returned (.slice none 0 0) ∧ w = w' := by
  have hnil := eql_nil 28 4 none 0 0 Try.underlying28
  go_enter Try.func9, Try.ntmps9
  go_wp2
  go_ret
  exact ⟨rfl, rfl⟩
def Cloned (n : Nat) (f : Nat → Bool) (w : World) (e : Ending) (w' : World) : Prop := ∃ o, e = .returned (.slice o n n) ∧ BoolsAt w' o n f ∧ Below w.heap.size w w'
theorem clone (o : Option Addr) (n cap : Nat) (f : Nat → Bool) (w : World) (hn : n ≤ 65536) (hI : BoolsAt w o n f) (h0 : o = none → n = 0 ∧ cap = 0) :
    Calls Try.prog 9 #[.slice o n cap] w (Cloned n f w) := by
  cases o with
  | none =>
    obtain ⟨rfl, rfl⟩ := h0 rfl
    refine (clone_nil w).mono ?_
    rintro e w' ⟨rfl, rfl⟩
    exact ⟨none, rfl, .inl rfl, Below.refl _ _⟩
  | some a =>
    refine (clone_some a n cap f w hn hI).mono ?_
    rintro e w' ⟨rfl, hF⟩
    exact ⟨_, rfl, bools_of_row (hF.row.congr fun i hi => by simp [fillB, hi]), hF.below⟩
def SomeBool (w : World) (e : Ending) (w' : World) : Prop := ∃ r : Bool, e = .returned (.bool r) ∧ w = w'
theorem bytes (o : Option Addr) (n c : Nat) (w : World) (m : n ≤ maxLen) : Calls Try.prog 8 #[.slice o n c] w (SomeBool w) := by
  unfold maxLen at m
  go_enter Try.func8, Try.ntmps8
  go_wp2
  all_goals
    go_ret
    exact ⟨_, rfl, rfl⟩
/-- The two groups stand at height h, no token is pending. -/
structure St (w0 w : World) (G1 c1 G2 c2 : Nat) (h : Int) (p : Bool) : Prop where
  below : Below w0.heap.size w0 w
  g1 : Grp w G1 c1 h p
  g2 : Grp w G2 c2 h p
structure Apart (B G1 c1 G2 c2 : Nat) : Prop where
  a1 : B ≤ G1
  a2 : B ≤ c1
  a3 : B ≤ G2
  a4 : B ≤ c2
  n1 : G1 ≠ G2
  n2 : G1 ≠ c2
  n3 : c1 ≠ G2
  n4 : c1 ≠ c2
theorem step1 {w0 w w' : World} {G1 c1 G2 c2 : Nat} {h' : Int} {q : Bool} (A : Apart w0.heap.size G1 c1 G2 c2) (hb : Below w0.heap.size w0 w) (g2 : Grp w G2 c2 h' q) (L : OnlyG G1 c1 w w') : Below w0.heap.size w0 w' ∧ Grp w' G2 c2 h' q :=
  ⟨hb.trans (L.below.mono (Nat.le_min.2 ⟨A.a1, A.a2⟩)), g2.next (L.other _ g2.lt.1 A.n1.symm A.n3.symm) (L.other _ g2.lt.2 A.n2.symm A.n4.symm)⟩
theorem step2 {w0 w w' : World} {G1 c1 G2 c2 : Nat} {h' : Int} {q : Bool} (A : Apart w0.heap.size G1 c1 G2 c2) (hb : Below w0.heap.size w0 w) (g1 : Grp w G1 c1 h' q) (L : OnlyG G2 c2 w w') : Below w0.heap.size w0 w' ∧ Grp w' G1 c1 h' q :=
  ⟨hb.trans (L.below.mono (Nat.le_min.2 ⟨A.a3, A.a4⟩)), g1.next (L.other _ g1.lt.1 A.n1 A.n2) (L.other _ g1.lt.2 A.n3 A.n4)⟩

set_option maxRecDepth 100000 in
set_option maxHeartbeats 4000000 in
theorem main (o : Option Addr) (n c : Nat) (f : Nat → Bool) (w : World) (hm : n ≤ maxLen) (hI : BoolsAt w o n f) (h0 : o = none → n = 0 ∧ c = 0) :
    Calls Try.prog 4 #[.slice o n c] w fun e w' => e = .returned (.bool true) ∧ Below w.heap.size w w' := by
  have hm' := hm
  unfold maxLen at hm'
  replace h0 := Lib.hid h0
  go_enter Try.func4, Try.ntmps4
  go_wp2_with fail
  go_at_call 8
  refine (bytes _ _ _ _ hm).mono ?_
  rintro e w' ⟨r, rfl, rfl⟩
  cases r with
  | false =>
    go_wp2_with fail
    go_ret
    exact ⟨rfl, Below.refl _ _⟩
  | true =>
    by_cases big : n ≤ 65536
    · clear hm hm'
      go_wp2_with fail
      go_loopg [3, 4] n (fun gk hh i wr => ∃ r : Nat, r ≤ n ∧ gk = n - r ∧ i = .int .i64 r ∧ hh = .int .i64 (ht f r) ∧ (∀ q, q ≤ r → 0 ≤ ht f q) ∧ wr = w)
      case atStart => exact ⟨0, Nat.zero_le _, rfl, rfl, rfl, fun q hq => by (obtain rfl : q = 0 := by omega); simp [ht], rfl⟩
      case round =>
        obtain ⟨r, hr, rfl, rfl, rfl, hq, rfl⟩ := hrel
        replace hq := Lib.hid hq
        have hrg := ht_rng f r
        rcases Nat.lt_or_ge r n with hlt | hge
        · rcases hI with h1 | ⟨b, off, he, hb, hc⟩
          · omega
          · cases he
            have g2 := hc r hlt
            have hpos := hq.out r (Nat.le_refl _)
            clear hc
            cases hf : f r with
            | true =>
              have e := Lib.hid (ht_t hf)
              rw [hf] at g2
              replace hf := Lib.hid hf
              generalize hx : ht f r = x at *
              replace hx := Lib.hid hx
              go_wp2_with fail
              go_roundg (n - (r + 1))
              case measure => omega
              case rel => exact ⟨r + 1, by omega, rfl, rfl, by rw [e.out], fun q hq' => by
                rcases Nat.lt_or_ge q (r + 1) with h | h
                · exact hq.out q (by omega)
                · (obtain rfl : q = r + 1 := by omega); rw [e.out]; omega, rfl⟩
            | false =>
              have e := Lib.hid (ht_f hf)
              rw [hf] at g2
              replace hf := Lib.hid hf
              generalize hx : ht f r = x at *
              replace hx := Lib.hid hx
              by_cases h1 : x = 0
              · subst h1
                go_wp2_with fail
                go_ret
                exact ⟨rfl, Below.refl _ _⟩
              · have h2 : ¬ x - 1 < 0 := by omega
                go_wp2_with fail
                go_roundg (n - (r + 1))
                case measure => omega
                case rel => exact ⟨r + 1, by omega, rfl, rfl, by rw [e.out], fun q hq' => by
                  rcases Nat.lt_or_ge q (r + 1) with h | h
                  · exact hq.out q (by omega)
                  · (obtain rfl : q = r + 1 := by omega); rw [e.out]; omega, rfl⟩
        · have hrn : n = r := by omega
          subst hrn
          go_wp2_with fail
          go_at_call 9
          refine (clone o n c f wr big hI h0.out).mono ?_
          rintro e w0 ⟨o2, rfl, I2, B0⟩
          go_wp2_with fail
          go_at_call 10
          refine (make w0).mono ?_
          rintro e w1 ⟨rfl, B1, g1⟩
          go_wp2_with fail
          go_at_call 10
          refine (make w1).mono ?_
          rintro e w2 ⟨rfl, B2, g2⟩
          have hl1 := Grp.lt g1
          have hs1 := B1.size
          replace g1 := g1.next (B2.block _ hl1.1) (B2.block _ hl1.2)
          have A : Apart w0.heap.size (w0.heap.size + 1) w0.heap.size (w1.heap.size + 1) w1.heap.size := ⟨by omega, by omega, by omega, by omega, by omega, by omega, by omega, by omega⟩
          have S0 : St w0 w2 (w0.heap.size + 1) w0.heap.size (w1.heap.size + 1) w1.heap.size 0 false := ⟨B1.trans (B2.mono hs1), g1, g2⟩
          clear g1 g2 B1 B2 hl1 hs1
          generalize w0.heap.size + 1 = G1 at A S0 ⊢
          generalize w1.heap.size + 1 = G2 at A S0 ⊢
          generalize w1.heap.size = c2 at A S0 ⊢
          go_wp2_with fail
          go_loopg [3, 7] n (fun gk hh i wr => ∃ r : Nat, r ≤ n ∧ gk = n - r ∧ i = .int .i64 r ∧ hh = .int .i64 (ht f r) ∧ St w0 wr G1 w0.heap.size G2 c2 (ht f r) false)
          case atStart => exact ⟨0, Nat.zero_le _, rfl, rfl, rfl, S0⟩
          case round =>
            clear S0
            obtain ⟨r, hr, rfl, rfl, rfl, S⟩ := hrel
            have hrg := ht_rng f r
            have hpos := hq.out r hr
            obtain ⟨hB, g1, g2⟩ := S
            rcases Nat.lt_or_ge r n with hlt | hge
            · have hIw := I2
              rcases hIw with h1 | ⟨b, off, he, hb, hc⟩
              · omega
              subst he
              have g0 := hc r hlt
              have gc := (hB.cell (p := ⟨b, off + r, none⟩) hb).trans g0
              replace I2 := Lib.hid I2
              replace hI := Lib.hid hI
              clear hc
              cases hf : f r with
              | true =>
                have e := Lib.hid (ht_t hf)
                rw [hf] at gc
                clear g0
                replace hf := Lib.hid hf
                generalize hx : ht f r = x at *
                replace hx := Lib.hid hx
                have j1 : x + 1 ≠ 0 := by omega
                go_wp2_with fail
                go_at_call 11
                refine (addPos G1 w0.heap.size x 1 _ g1 (by omega) (by omega)).mono ?_
                rintro e wn ⟨rfl, L, g1⟩
                obtain ⟨hB, g2⟩ := step1 A hB g2 L
                clear L
                go_wp2_with fail
                go_at_call 11
                refine (addPos G2 c2 x 1 _ g2 (by omega) (by omega)).mono ?_
                rintro e wn ⟨rfl, L, g2⟩
                obtain ⟨hB, g1⟩ := step2 A hB g1 L
                clear L
                go_wp2_with fail
                go_at_call 13
                refine (counter G1 w0.heap.size _ _ _ g1).mono ?_
                rintro e wn ⟨rfl, rfl⟩
                go_wp2_with fail
                go_at_call 13
                refine (counter G2 c2 _ _ _ g2).mono ?_
                rintro e wn ⟨rfl, rfl⟩
                go_wp2_with fail
                go_at_call 13
                refine (counter G1 w0.heap.size _ _ _ g1).mono ?_
                rintro e wn ⟨rfl, rfl⟩
                go_wp2_with fail
                go_at_call 14
                refine (pending G1 w0.heap.size _ _ _ g1).mono ?_
                rintro e wn ⟨rfl, rfl⟩
                go_wp2_with fail
                go_at_call 14
                refine (pending G2 c2 _ _ _ g2).mono ?_
                rintro e wn ⟨rfl, rfl⟩
                go_wp2_with fail
                go_at_call 14
                refine (pending G1 w0.heap.size _ _ _ g1).mono ?_
                rintro e wn ⟨rfl, rfl⟩
                go_wp2_with fail
                go_at_call 14
                refine (pending G2 c2 _ _ _ g2).mono ?_
                rintro e wn ⟨rfl, rfl⟩
                go_wp2_with fail
                go_roundg (n - (r + 1))
                case measure => omega
                case rel => exact ⟨r + 1, by omega, rfl, rfl, by rw [e.out], by rw [e.out]; exact ⟨hB, g1, g2⟩⟩
              | false =>
                have e := Lib.hid (ht_f hf)
                have hpos1 := hq.out (r + 1) hlt
                rw [e.out] at hpos1
                rw [hf] at gc g0
                replace g0 := Lib.hid g0
                replace hf := Lib.hid hf
                generalize hx : ht f r = x at *
                replace hx := Lib.hid hx
                by_cases h1 : x = 1
                · subst h1
                  go_wp2_with fail
                  go_at_call 12
                  refine (done G1 w0.heap.size 1 _ g1 (by omega) (by omega)).mono ?_
                  rintro e wn ⟨rfl, L, g1⟩
                  replace g1 : Grp wn G1 w0.heap.size 0 true := g1
                  obtain ⟨hB, g2⟩ := step1 A hB g2 L
                  clear L
                  go_wp2_with fail
                  go_at_call 11
                  refine (addZero G2 c2 1 (-1) _ g2 (by omega)).mono ?_
                  rintro e wn ⟨rfl, L, g2⟩
                  obtain ⟨hB, g1⟩ := step2 A hB g1 L
                  clear L
                  go_wp2_with fail
                  go_at_call 13
                  refine (counter G1 w0.heap.size _ _ _ g1).mono ?_
                  rintro e wn ⟨rfl, rfl⟩
                  go_wp2_with fail
                  go_at_call 13
                  refine (counter G2 c2 _ _ _ g2).mono ?_
                  rintro e wn ⟨rfl, rfl⟩
                  go_wp2_with fail
                  go_at_call 13
                  refine (counter G1 w0.heap.size _ _ _ g1).mono ?_
                  rintro e wn ⟨rfl, rfl⟩
                  go_wp2_with fail
                  go_at_call 14
                  refine (pending G1 w0.heap.size _ _ _ g1).mono ?_
                  rintro e wn ⟨rfl, rfl⟩
                  go_wp2_with fail
                  go_at_call 14
                  refine (pending G2 c2 _ _ _ g2).mono ?_
                  rintro e wn ⟨rfl, rfl⟩
                  have gc2 := (hB.cell (p := ⟨b, off + r, none⟩) hb).trans g0.out
                  go_wp2_with fail
                  go_at_call 14
                  refine (pending G1 w0.heap.size _ _ _ g1).mono ?_
                  rintro e wn ⟨rfl, rfl⟩
                  go_wp2_with fail
                  clear gc2
                  go_at_call 15
                  refine (wait0 G1 w0.heap.size 0 _ g1).mono ?_
                  rintro e wn ⟨rfl, L, g1⟩
                  obtain ⟨hB, g2⟩ := step1 A hB g2 L
                  clear L
                  go_wp2_with fail
                  go_at_call 15
                  refine (wait0 G2 c2 0 _ g2).mono ?_
                  rintro e wn ⟨rfl, L, g2⟩
                  obtain ⟨hB, g1⟩ := step2 A hB g1 L
                  clear L
                  go_wp2_with fail
                  go_at_call 14
                  refine (pending G1 w0.heap.size _ _ _ g1).mono ?_
                  rintro e wn ⟨rfl, rfl⟩
                  go_wp2_with fail
                  go_at_call 14
                  refine (pending G2 c2 _ _ _ g2).mono ?_
                  rintro e wn ⟨rfl, rfl⟩
                  go_wp2_with fail
                  go_roundg (n - (r + 1))
                  case measure => omega
                  case rel => exact ⟨r + 1, by omega, rfl, rfl, by rw [e.out]; rfl, by rw [e.out]; exact ⟨hB, g1, g2⟩⟩
                · have j1 : ¬ x - 1 = 0 := by omega
                  go_wp2_with fail
                  go_at_call 12
                  refine (done G1 w0.heap.size x _ g1 (by omega) (by omega)).mono ?_
                  rintro e wn ⟨rfl, L, g1⟩
                  rw [decide_eq_false h1] at g1
                  obtain ⟨hB, g2⟩ := step1 A hB g2 L
                  clear L
                  go_wp2_with fail
                  go_at_call 11
                  refine (addPos G2 c2 x (-1) _ g2 (by omega) (by omega)).mono ?_
                  rintro e wn ⟨rfl, L, g2⟩
                  replace g2 : Grp wn G2 c2 (x - 1) false := g2
                  obtain ⟨hB, g1⟩ := step2 A hB g1 L
                  clear L
                  go_wp2_with fail
                  go_at_call 13
                  refine (counter G1 w0.heap.size _ _ _ g1).mono ?_
                  rintro e wn ⟨rfl, rfl⟩
                  go_wp2_with fail
                  go_at_call 13
                  refine (counter G2 c2 _ _ _ g2).mono ?_
                  rintro e wn ⟨rfl, rfl⟩
                  go_wp2_with fail
                  go_at_call 13
                  refine (counter G1 w0.heap.size _ _ _ g1).mono ?_
                  rintro e wn ⟨rfl, rfl⟩
                  go_wp2_with fail
                  go_at_call 14
                  refine (pending G1 w0.heap.size _ _ _ g1).mono ?_
                  rintro e wn ⟨rfl, rfl⟩
                  go_wp2_with fail
                  go_at_call 14
                  refine (pending G2 c2 _ _ _ g2).mono ?_
                  rintro e wn ⟨rfl, rfl⟩
                  go_wp2_with fail
                  go_at_call 14
                  refine (pending G1 w0.heap.size _ _ _ g1).mono ?_
                  rintro e wn ⟨rfl, rfl⟩
                  go_wp2_with fail
                  go_at_call 14
                  refine (pending G2 c2 _ _ _ g2).mono ?_
                  rintro e wn ⟨rfl, rfl⟩
                  go_wp2_with fail
                  go_roundg (n - (r + 1))
                  case measure => omega
                  case rel => exact ⟨r + 1, by omega, rfl, rfl, by rw [e.out], by rw [e.out]; exact ⟨hB, g1, g2⟩⟩
            · have hrn : n = r := by omega
              subst hrn
              replace I2 := Lib.hid I2
              replace hI := Lib.hid hI
              go_wp2_with fail
              go_ret
              exact ⟨rfl, B0.trans (hB.mono B0.size)⟩
    · go_wp2_with fail
      go_ret
      exact ⟨rfl, Below.refl _ _⟩
set_option maxRecDepth 100000 in
theorem walk (W : World) {H : Type} {enc : TypeId × Value → H} {base : Nat} {p0 : List MemPlace} (v0 : Value) (d0 : DataW H) (k0 : Value.okWide Try.prog W .any base 28 v0) (h0 : DataW.Trod enc Try.prog W 0 (fun _ => true) true 28 v0 d0 p0) :
    Calls Try.prog 4 #[v0] W fun e w' => e = .returned (.bool true) ∧ Below W.heap.size W w' := by
  obtain ⟨o, n, c, f, rfl, x1, x2, i0, z0⟩ := openBools Try.underlying28 Try.underlying4 (by kernel_rfl) k0 h0
  exact main o n c f W (Nat.le_trans x1 x2) i0 z0
end Go.Proofs.Ytfliibbhdfiloaa.fnDoneAgreesWithAddMinusOne
