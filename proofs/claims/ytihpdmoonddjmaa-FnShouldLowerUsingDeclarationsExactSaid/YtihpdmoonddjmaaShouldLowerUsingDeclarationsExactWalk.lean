/-
  The walk of FnShouldLowerUsingDeclarationsExact: it returns true for every list of codes, every word of flags and every setting. No condition.
-/
import Derived.Test.YtihpdmoonddjmaaUsing
namespace Go.Proofs.Ytihpdmoonddjmaa.fnShouldLowerUsingDeclarationsExact
open Go.RowKit Go.Proofs.Ytihpdmoonddjmaa.Ints Go.Proofs.Ytihpdmoonddjmaa.Using

theorem clone_info : (Try.prog.info? 5).map (fun i => (i.zero, i.size, i.bytes)) = some (some (.int .u8 0), 1, 1) := by kernel_rfl
theorem clone_nilq (a : Option Addr) (l c : Nat) (w : World) : (binOp .eql 54 (.slice a l c) (.slice none 0 0)).run Try.prog w = .ok (.bool a.isNone) w := by
  simp [binOp, run_equal_slice_nil w 54 5 a l c Try.underlying54]
set_option maxHeartbeats 1000000 in
theorem clone_some (a : Addr) (n cap : Nat) (f : Nat → Int) (w : World) (hn : n ≤ 1048576) (hI : IntsAt .u8 w (some a) n f) :
    Calls Try.prog 20 #[.slice (some a) n cap] w fun e w' => e = .returned (.slice (some ⟨w.heap.size, 0, none⟩) n n) ∧ Filling w w' 5 .u8 n n f := by
  have hmk := run_make_row' (P := Try.prog) 54 5 (.int .u8 0) 1 Try.underlying54 clone_info rfl .i64 .i64 n (by omega) (by omega)
  have hnil := clone_nilq (some a) n cap
  go_enter Try.func20, Try.ntmps20
  go_wp2
  clear hmk
  go_loopg [4] n (fun g i wr => ∃ r : Nat, r ≤ n ∧ g = n - r ∧ i = .int .i64 r ∧ Filling w wr 5 .u8 n r f)
  case atStart => exact ⟨0, Nat.zero_le _, rfl, rfl, filling_start _ _ _ _ _⟩
  case round =>
    obtain ⟨r, hr, rfl, rfl, hF⟩ := hrel
    rcases Nat.lt_or_ge r n with hlt | hge
    · rcases hI with h0 | ⟨b, off, he, hb, hc⟩
      · omega
      · cases he
        have g2 : wr.cell? ⟨b, off + r, none⟩ = some (.int .u8 (f r)) := (hF.below.cell (by exact hb)).trans (hc r hlt)
        have g4 : wr.cell? ⟨w.heap.size, r, none⟩ = some (.int .u8 0) := by simpa [fillTo] using hF.row.cell hlt
        have g5 := hF.row.frozen r
        clear hc
        go_wp2
        go_roundg (n - (r + 1))
        case measure => omega
        case rel => exact ⟨r + 1, by omega, rfl, rfl, filling_step hF⟩
    · have hrn : r = n := by omega
      subst hrn
      clear hI
      go_wp2
      go_ret
      exact ⟨rfl, hF⟩
theorem clone_none (w : World) : Calls Try.prog 20 #[.slice none 0 0] w fun e w' => e = .returned (.slice none 0 0) ∧ w = w' := by
  have hnil := clone_nilq none 0 0
  go_enter Try.func20, Try.ntmps20
  go_wp2
  go_ret
  exact ⟨rfl, rfl⟩
def clone_Post (n : Nat) (f : Nat → Int) (w : World) (e : Ending) (w' : World) : Prop := ∃ o, e = .returned (.slice o n n) ∧ IntsAt .u8 w' o n f ∧ Below w.heap.size w w'
theorem clone (o : Option Addr) (n cap : Nat) (f : Nat → Int) (w : World) (hn : n ≤ 1048576) (hI : IntsAt .u8 w o n f) (h0 : o = none → n = 0 ∧ cap = 0) :
    Calls Try.prog 20 #[.slice o n cap] w (clone_Post n f w) := by
  cases o with
  | none =>
    obtain ⟨rfl, rfl⟩ := h0 rfl
    refine (clone_none w).mono ?_
    rintro e w' ⟨rfl, rfl⟩
    exact ⟨none, rfl, .inl rfl, Below.refl _ _⟩
  | some a =>
    refine (clone_some a n cap f w hn hI).mono ?_
    rintro e w' ⟨rfl, hF⟩
    exact ⟨_, rfl, ints_of_row (hF.row.congr fun i hi => by simp [fillTo, hi]), hF.below⟩

def base (n : Int) : Int := bits .andNot .u64 n 1152921504606847000
def wU (n : Int) (U : Bool) : Int := cond U (bits .or .u64 n 1152921504606846976) n
def wA (n : Int) (A : Bool) : Int := cond A (bits .or .u64 n 8) n
def wG (n : Int) (G : Bool) : Int := cond G (bits .or .u64 n 16) n
def word (n : Int) (U A G : Bool) : Int := wG (wA (wU (base n) U) A) G

theorem word_nat (n : Nat) (hn : n < 18446744073709551616) (U A G : Bool) :
    word n U A G = (((n &&& (18446744073709551615 - 1152921504606847000)) ||| cond U 1152921504606846976 0 ||| cond A 8 0 ||| cond G 16 0 : Nat) : Int) ∧
    ((n &&& (18446744073709551615 - 1152921504606847000)) ||| cond U 1152921504606846976 0 ||| cond A 8 0 ||| cond G 16 0) < 18446744073709551616 := by
  have b1 : n &&& (18446744073709551615 - 1152921504606847000) < 18446744073709551616 := Nat.and_lt_two_pow (n := 64) _ (by decide)
  generalize hx : n &&& (18446744073709551615 - 1152921504606847000) = x at *
  have e1 : base n = (x : Int) := by
    unfold base
    rw [← hx]
    exact u64_andNot_nat n 1152921504606847000 hn (by decide)
  have b2 : x ||| cond U 1152921504606846976 0 < 18446744073709551616 := Nat.or_lt_two_pow (n := 64) b1 (by cases U <;> decide)
  have e2 : wU x U = ((x ||| cond U 1152921504606846976 0 : Nat) : Int) := by
    cases U
    · simp [wU]
    · exact u64_or_nat x 1152921504606846976 b1 (by decide)
  generalize x ||| cond U 1152921504606846976 0 = y at *
  have b3 : y ||| cond A 8 0 < 18446744073709551616 := Nat.or_lt_two_pow (n := 64) b2 (by cases A <;> decide)
  have e3 : wA y A = ((y ||| cond A 8 0 : Nat) : Int) := by
    cases A
    · simp [wA]
    · exact u64_or_nat y 8 b2 (by decide)
  generalize y ||| cond A 8 0 = z at *
  have b4 : z ||| cond G 16 0 < 18446744073709551616 := Nat.or_lt_two_pow (n := 64) b3 (by cases G <;> decide)
  have e4 : wG z G = ((z ||| cond G 16 0 : Nat) : Int) := by
    cases G
    · simp [wG]
    · exact u64_or_nat z 16 b3 (by decide)
  exact ⟨by unfold word; rw [e1, e2, e3, e4], b4⟩

theorem bit_of (n c : Nat) (U A G r : Bool) (hc : (18446744073709551615 - 1152921504606847000) &&& c = 0) (hr : ((cond U 1152921504606846976 0 &&& c) ||| (cond A 8 0 &&& c) ||| (cond G 16 0 &&& c) != 0) = r) :
    (((n &&& (18446744073709551615 - 1152921504606847000)) ||| cond U 1152921504606846976 0 ||| cond A 8 0 ||| cond G 16 0) &&& c != 0) = r := by
  rw [Nat.and_or_distrib_right, Nat.and_or_distrib_right, Nat.and_or_distrib_right, Nat.and_assoc, hc, Nat.and_zero, Nat.zero_or]
  exact hr
theorem cast_bne (x : Nat) : (((x : Nat) : Int) != 0) = (x != 0) := by
  rw [Bool.eq_iff_iff]
  simp only [bne_iff_ne, ne_eq]
  omega
theorem word_facts (n : Int) (h0 : 0 ≤ n) (h1 : n < 18446744073709551616) (U A G : Bool) :
    (bits .and .u64 (word n U A G) 1152921504606846976 != 0) = U ∧ (bits .and .u64 (word n U A G) 8 != 0) = A ∧ (bits .and .u64 (word n U A G) 16 != 0) = G := by
  obtain ⟨m, rfl⟩ := Int.eq_ofNat_of_zero_le h0
  have hm : m < 18446744073709551616 := by omega
  obtain ⟨e, hl⟩ := word_nat m hm U A G
  rw [e]
  refine ⟨?_, ?_, ?_⟩
  · refine Eq.trans (congrArg (fun z : Int => z != 0) (u64_and_nat _ 1152921504606846976 hl (by decide))) ?_
    rw [cast_bne]
    exact bit_of m _ U A G U (by decide) (by cases U <;> cases A <;> cases G <;> decide)
  · refine Eq.trans (congrArg (fun z : Int => z != 0) (u64_and_nat _ 8 hl (by decide))) ?_
    rw [cast_bne]
    exact bit_of m _ U A G A (by decide) (by cases U <;> cases A <;> cases G <;> decide)
  · refine Eq.trans (congrArg (fun z : Int => z != 0) (u64_and_nat _ 16 hl (by decide))) ?_
    rw [cast_bne]
    exact bit_of m _ U A G G (by decide) (by cases U <;> cases A <;> cases G <;> decide)

def anyEq (f : Nat → Int) (k : Int) : Nat → Bool
  | 0 => false
  | r + 1 => anyEq f k r || (f r % 8 == k)
theorem anyLow_eq (f : Nat → Int) (U A G g : Bool) (n : Nat) : anyLow f U A G g n = ((anyEq f 3 n && U) || (anyEq f 4 n && (U || A || (G && g)))) := by
  induction n with
  | zero => rfl
  | succ n ih =>
    rw [anyLow, anyEq, anyEq, ih, lowB]
    cases anyEq f 3 n <;> cases anyEq f 4 n <;> cases (f n % 8 == 3) <;> cases (f n % 8 == 4) <;> cases U <;> cases A <;> cases G <;> cases g <;> rfl

theorem zzShould (P b n : Nat) (f : Nat → Int) (u : Int) (U A G g : Bool) (w : World) (hn : n ≤ 65536) (hU : (bits .and .u64 u 1152921504606846976 != 0) = U) (hA : (bits .and .u64 u 8 != 0) = A) (hG : (bits .and .u64 u 16 != 0) = G)
    (hu : w.cell? ⟨P, 23, none⟩ = some (.int .u64 u)) (hg : w.cell? ⟨P, 333, none⟩ = some (.bool g)) (hR : Row w b n n f) :
    Calls Try.prog 22 #[.pointer (some ⟨P, 0, none⟩), .slice (some ⟨b, 0, none⟩) n n] w fun e w' => e = .returned (.bool (anyLow f U A G g n)) ∧ Below w.heap.size w w' := by
  have H := Lib.hid (should P b n f u U A G g w hn hU hA hG hu hg hR)
  clear hU hA hG hu hg hR
  go_enter Try.func22, Try.ntmps22
  go_wp2_with fail
  go_at_call 42
  refine H.out.mono ?_
  rintro e w1 ⟨rfl, B1⟩
  go_wp2_with fail
  go_ret
  exact ⟨rfl, B1⟩

def SomeBool (w : World) (e : Ending) (w' : World) : Prop := ∃ r : Bool, e = .returned (.bool r) ∧ w = w'
theorem bytes (o : Option Addr) (n c : Nat) (x y z u v : Value) (w : World) (m1 : n ≤ maxLen) :
    Calls Try.prog 19 #[.slice o n c, x, y, z, u, v] w (SomeBool w) := by
  unfold maxLen at m1
  go_enter Try.func19, Try.ntmps19
  go_wp2
  all_goals
    go_ret
    exact ⟨_, rfl, rfl⟩

set_option maxRecDepth 100000 in
set_option maxHeartbeats 8000000 in
theorem main (o : Option Addr) (n c : Nat) (f : Nat → Int) (x : Int) (U A G g : Bool) (hx0 : 0 ≤ x) (hx1 : x < 18446744073709551616) (w : World) (m1 : n ≤ maxLen)
    (hI : IntsAt .u8 w o n f) (z1 : o = none → n = 0 ∧ c = 0) (hf : ∀ i, i < n → 0 ≤ f i ∧ f i < 256) :
    Calls Try.prog 5 #[.slice o n c, .int .u64 x, .bool U, .bool A, .bool G, .bool g] w fun e w' => e = .returned (.bool true) ∧ Below w.heap.size w w' := by
  have hm1 := m1
  unfold maxLen at hm1
  go_enter Try.func5, Try.ntmps5
  go_wp2_with fail
  go_at_call 19
  refine (bytes _ _ _ _ _ _ _ _ _ m1).mono ?_
  rintro e w' ⟨r, rfl, rfl⟩
  cases r with
  | false =>
    go_wp2
    go_ret
    exact ⟨rfl, Below.refl _ _⟩
  | true =>
    by_cases big : n ≤ 65536
    · go_wp2_with fail
      go_at_call 20
      refine (clone o n c f w (by omega) hI z1).mono ?_
      rintro e w1 ⟨p1, rfl, i1, B1⟩
      clear hI z1
      obtain ⟨fU, fA, fG⟩ := word_facts x hx0 hx1 U A G
      replace fU := Lib.hid fU
      replace fA := Lib.hid fA
      replace fG := Lib.hid fG
      replace hf := Lib.hid hf
      clear hx0 hx1
      cases U <;> cases A <;> cases G
      all_goals
        simp only [word, wU, wA, wG, base, cond_true, cond_false] at fU fA fG
        go_wp2_with fail
        go_at_call 21
        with_reducible refine (newParser _ g false _).mono ?_
        rintro e w2 ⟨P, rfl, q1, q2, B2⟩
        replace i1 := i1.below B2
        replace B2 := B1.trans (B2.mono B1.size)
        clear B1
        go_wp2_with fail
        go_at_call 23
        refine (stmts p1 n n f _ big i1 hf.out).mono ?_
        rintro e w3 ⟨rfl, B3, R3⟩
        replace i1 := i1.below B3
        replace q1 := (B3.cell (lt_of_cell q1)).trans q1
        replace q2 := (B3.cell (lt_of_cell q2)).trans q2
        replace B3 := B2.trans (B3.mono B2.size)
        clear B2
        go_wp2_with fail
        go_at_call 22
        refine (zzShould P _ n f _ _ _ _ g _ big fU.out fA.out fG.out q1 q2 R3).mono ?_
        rintro e w4 ⟨rfl, B4⟩
        replace i1 := i1.below B4
        replace B4 := B3.trans (B4.mono B3.size)
        clear B3 R3 q1 q2 fU fA fG
        generalize hgot : anyLow f _ _ _ g n = got
        rw [anyLow_eq] at hgot
        replace hgot := Lib.hid hgot
        go_wp2_with fail
        go_loopg [16, 17, 18] n (fun gk hu ha i wr => w4 = wr ∧ ∃ r : Nat, r ≤ n ∧ gk = n - r ∧ i = .int .i64 r ∧ hu = .bool (anyEq f 3 r) ∧ ha = .bool (anyEq f 4 r))
        case atStart => exact ⟨rfl, 0, Nat.zero_le _, rfl, rfl, rfl, rfl⟩
        case round =>
          obtain ⟨rfl, r, hr, rfl, rfl, rfl, rfl⟩ := hrel
          rcases Nat.lt_or_ge r n with hlt | hge
          · rcases i1 with h0 | ⟨b, off, he, hb, hc⟩
            · omega
            cases he
            obtain ⟨f0, f1⟩ := hf.out r hlt
            have g2 := hc r hlt
            clear hc
            have e3 : anyEq f 3 (r + 1) = (anyEq f 3 r || (f r % 8 == 3)) := rfl
            have e4 : anyEq f 4 (r + 1) = (anyEq f 4 r || (f r % 8 == 4)) := rfl
            generalize anyEq f 3 r = a3 at *
            generalize anyEq f 4 r = a4 at *
            replace e3 := Lib.hid e3
            replace e4 := Lib.hid e4
            cases t3 : (f r % 8 == 3)
            · cases t4 : (f r % 8 == 4)
              · go_wp2
                rw [t3] at e3
                rw [t4] at e4
                go_roundg (n - (r + 1))
                case measure => omega
                case rel => exact ⟨rfl, r + 1, by omega, rfl, rfl, by rw [e3.out]; simp, by rw [e4.out]; simp⟩
              · go_wp2
                rw [t3] at e3
                rw [t4] at e4
                go_roundg (n - (r + 1))
                case measure => omega
                case rel => exact ⟨rfl, r + 1, by omega, rfl, rfl, by rw [e3.out]; simp, by rw [e4.out]; simp⟩
            · have t4 : (f r % 8 == 4) = false := by rw [beq_iff_eq] at t3; rw [beq_eq_false_iff_ne]; omega
              go_wp2
              rw [t3] at e3
              rw [t4] at e4
              go_roundg (n - (r + 1))
              case measure => omega
              case rel => exact ⟨rfl, r + 1, by omega, rfl, rfl, by rw [e3.out]; simp, by rw [e4.out]; simp⟩
          · have hrn : r = n := by omega
            subst hrn
            clear i1
            generalize anyEq f 3 r = a3 at *
            generalize anyEq f 4 r = a4 at *
            replace hgot := hgot.out
            subst hgot
            cases a3 <;> cases a4 <;> cases g
            all_goals
              go_wp2
              go_ret
              exact ⟨rfl, B4⟩
    · go_wp2
      all_goals first | omega | (go_ret; exact ⟨rfl, Below.refl _ _⟩)

set_option maxRecDepth 100000 in
theorem walk (W : World) {H : Type} {enc : TypeId × Value → H} {base : Nat} {p0 : List MemPlace} (v0 : Value) (d0 : DataW H) (k0 : Value.okWide Try.prog W .any base 54 v0) (h0 : DataW.Trod enc Try.prog W 0 (fun _ => true) true 54 v0 d0 p0)
    (a1 : Int) (w1 : (Lit.int .u64 a1).wf = true) (a2 a3 a4 a5 : Bool) :
    Calls Try.prog 5 #[v0, .int .u64 a1, .bool a2, .bool a3, .bool a4, .bool a5] W fun e w' => e = .returned (.bool true) ∧ Below W.heap.size W w' := by
  have e1 : IntKind.u8.min = 0 := rfl
  have e2 : IntKind.u8.max = 255 := rfl
  have e3 : IntKind.u64.min = 0 := rfl
  have e4 : IntKind.u64.max = 18446744073709551615 := rfl
  obtain ⟨o1, n1, c1, f1, rfl, x1, y1, i1, g1, z1⟩ := openInts (k := .u8) Try.underlying54 Try.underlying5 (by kernel_rfl) k0 h0
  have hx : 0 ≤ a1 ∧ a1 ≤ 18446744073709551615 := by simpa [Lit.wf, e3, e4] using w1
  refine main o1 n1 c1 f1 a1 a2 a3 a4 a5 hx.1 (by omega) W (Nat.le_trans x1 y1) i1 z1 fun i hi => ?_
  have : 0 ≤ f1 i ∧ f1 i ≤ 255 := by simpa [Lit.wf, e1, e2] using g1 i hi
  omega
end Go.Proofs.Ytihpdmoonddjmaa.fnShouldLowerUsingDeclarationsExact
