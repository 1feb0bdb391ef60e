/-
  The walk of FnScopeMemberArraySwapUndoneByReverseSwap: it returns true for every three lists and two indices. No condition.
-/
import Derived.Test.YtkpdjdfebaaahaaMemberSwap
namespace Go.Proofs.Ytkpdjdfebaaahaa.fnScopeMemberArraySwapUndoneByReverseSwap
open Go.RowKit Go.Proofs.Ytkpdjdfebaaahaa.Ints Go.Proofs.Ytkpdjdfebaaahaa.MemberSwap

theorem info32 : (Try.prog.info? 23).map (fun i => (i.zero, i.size, i.bytes)) = some (some (.int .u32 0), 1, 4) := by kernel_rfl
theorem infoI : (Try.prog.info? 21).map (fun i => (i.zero, i.size, i.bytes)) = some (some (.int .i32 0), 1, 4) := by kernel_rfl
theorem eql_nil (t e : TypeId) (a : Option Addr) (l c : Nat) (h : Try.prog.underlying t = some (.slice e)) (w : World) : (binOp .eql t (.slice a l c) (.slice none 0 0)).run Try.prog w = .ok (.bool a.isNone) w := by
  simp [binOp, run_equal_slice_nil w t e a l c h]
def Cloned (k : IntKind) (n : Nat) (f : Nat → Int) (w : World) (e : Ending) (w' : World) : Prop := ∃ o, e = .returned (.slice o n n) ∧ IntsAt k w' o n f ∧ Below w.heap.size w w'
theorem cloneU_some (a : Addr) (n cap : Nat) (f : Nat → Int) (w : World) (hn : n ≤ 1048576) (hI : IntsAt .u32 w (some a) n f) :
    Calls Try.prog 30 #[.slice (some a) n cap] w fun e w' => e = .returned (.slice (some ⟨w.heap.size, 0, none⟩) n n) ∧ Filling w w' 23 .u32 n n f := by
  have hmk := run_make_row' (P := Try.prog) 22 23 (.int .u32 0) 4 Try.underlying22 info32 rfl .i64 .i64 n (by omega) (by omega)
  have hnil := eql_nil 22 23 (some a) n cap Try.underlying22
  go_enter Try.func30, Try.ntmps30
  go_wp2
  clear hmk
  go_loopg [4] n (fun g i wr => ∃ r : Nat, r ≤ n ∧ g = n - r ∧ i = .int .i64 r ∧ Filling w wr 23 .u32 n r f)
  case atStart => exact ⟨0, Nat.zero_le _, rfl, rfl, filling_start _ _ _ _ _⟩
  case round =>
    obtain ⟨r, hr, rfl, rfl, hF⟩ := hrel
    rcases Nat.lt_or_ge r n with hlt | hge
    · rcases hI with h0 | ⟨b, off, he, hb, hc⟩
      · omega
      · cases he
        have g2 : wr.cell? ⟨b, off + r, none⟩ = some (.int .u32 (f r)) := (hF.below.cell (by exact hb)).trans (hc r hlt)
        have g4 : wr.cell? ⟨w.heap.size, r, none⟩ = some (.int .u32 0) := by simpa [fillTo] using hF.row.cell hlt
        have g5 := hF.row.frozen r
        clear hc
        go_wp2
        go_roundg (n - (r + 1))
        case measure => omega
        case rel => exact ⟨r + 1, by omega, rfl, rfl, filling_step hF⟩
    · have hrn : r = n := by omega
      subst hrn
      clear hI
      go_wp2
      go_ret
      exact ⟨rfl, hF⟩
theorem cloneU_nil (w : World) : Calls Try.prog 30 #[.slice none 0 0] w fun e w' => e = .returned (.slice none 0 0) ∧ w = w' := by
  have hnil := eql_nil 22 23 none 0 0 Try.underlying22
  go_enter Try.func30, Try.ntmps30
  go_wp2
  go_ret
  exact ⟨rfl, rfl⟩
theorem cloneU (o : Option Addr) (n cap : Nat) (f : Nat → Int) (w : World) (hn : n ≤ 1048576) (hI : IntsAt .u32 w o n f) (h0 : o = none → n = 0 ∧ cap = 0) :
    Calls Try.prog 30 #[.slice o n cap] w fun e w' => Cloned .u32 n f w e w' := by
  cases o with
  | none =>
    obtain ⟨rfl, rfl⟩ := h0 rfl
    refine (cloneU_nil w).mono ?_
    rintro e w' ⟨rfl, rfl⟩
    exact ⟨none, rfl, .inl rfl, Below.refl _ _⟩
  | some a =>
    refine (cloneU_some a n cap f w hn hI).mono ?_
    rintro e w' ⟨rfl, hF⟩
    exact ⟨_, rfl, ints_of_row (hF.row.congr fun i hi => by simp [fillTo, hi]), hF.below⟩
theorem cloneI_some (a : Addr) (n cap : Nat) (f : Nat → Int) (w : World) (hn : n ≤ 1048576) (hI : IntsAt .i32 w (some a) n f) :
    Calls Try.prog 31 #[.slice (some a) n cap] w fun e w' => e = .returned (.slice (some ⟨w.heap.size, 0, none⟩) n n) ∧ Filling w w' 21 .i32 n n f := by
  have hmk := run_make_row' (P := Try.prog) 63 21 (.int .i32 0) 4 Try.underlying63 infoI rfl .i64 .i64 n (by omega) (by omega)
  have hnil := eql_nil 63 21 (some a) n cap Try.underlying63
  go_enter Try.func31, Try.ntmps31
  go_wp2
  clear hmk
  go_loopg [4] n (fun g i wr => ∃ r : Nat, r ≤ n ∧ g = n - r ∧ i = .int .i64 r ∧ Filling w wr 21 .i32 n r f)
  case atStart => exact ⟨0, Nat.zero_le _, rfl, rfl, filling_start _ _ _ _ _⟩
  case round =>
    obtain ⟨r, hr, rfl, rfl, hF⟩ := hrel
    rcases Nat.lt_or_ge r n with hlt | hge
    · rcases hI with h0 | ⟨b, off, he, hb, hc⟩
      · omega
      · cases he
        have g2 : wr.cell? ⟨b, off + r, none⟩ = some (.int .i32 (f r)) := (hF.below.cell (by exact hb)).trans (hc r hlt)
        have g4 : wr.cell? ⟨w.heap.size, r, none⟩ = some (.int .i32 0) := by simpa [fillTo] using hF.row.cell hlt
        have g5 := hF.row.frozen r
        clear hc
        go_wp2
        go_roundg (n - (r + 1))
        case measure => omega
        case rel => exact ⟨r + 1, by omega, rfl, rfl, filling_step hF⟩
    · have hrn : r = n := by omega
      subst hrn
      clear hI
      go_wp2
      go_ret
      exact ⟨rfl, hF⟩
theorem cloneI_nil (w : World) : Calls Try.prog 31 #[.slice none 0 0] w fun e w' => e = .returned (.slice none 0 0) ∧ w = w' := by
  have hnil := eql_nil 63 21 none 0 0 Try.underlying63
  go_enter Try.func31, Try.ntmps31
  go_wp2
  go_ret
  exact ⟨rfl, rfl⟩
theorem cloneI (o : Option Addr) (n cap : Nat) (f : Nat → Int) (w : World) (hn : n ≤ 1048576) (hI : IntsAt .i32 w o n f) (h0 : o = none → n = 0 ∧ cap = 0) :
    Calls Try.prog 31 #[.slice o n cap] w fun e w' => Cloned .i32 n f w e w' := by
  cases o with
  | none =>
    obtain ⟨rfl, rfl⟩ := h0 rfl
    refine (cloneI_nil w).mono ?_
    rintro e w' ⟨rfl, rfl⟩
    exact ⟨none, rfl, .inl rfl, Below.refl _ _⟩
  | some a =>
    refine (cloneI_some a n cap f w hn hI).mono ?_
    rintro e w' ⟨rfl, hF⟩
    exact ⟨_, rfl, ints_of_row (hF.row.congr fun i hi => by simp [fillTo, hi]), hF.below⟩

def SomeBool (w : World) (e : Ending) (w' : World) : Prop := ∃ r : Bool, e = .returned (.bool r) ∧ w = w'
theorem bytes (o1 o2 o3 : Option Addr) (n1 c1 n2 c2 n3 c3 : Nat) (x y : Value) (w : World) (m1 : n1 ≤ maxLen) (m2 : n2 ≤ maxLen) (m3 : n3 ≤ maxLen) :
    Calls Try.prog 29 #[.slice o1 n1 c1, .slice o2 n2 c2, .slice o3 n3 c3, x, y] w (SomeBool w) := by
  unfold maxLen at m1 m2 m3
  go_enter Try.func29, Try.ntmps29
  go_wp2
  all_goals
    go_ret
    exact ⟨_, rfl, rfl⟩
theorem bl {w W w1 : World} (h : Below w.heap.size w W) (hb : Below W.heap.size W w1) : Below w.heap.size w w1 := h.trans (hb.mono h.size)

set_option maxRecDepth 100000 in
set_option maxHeartbeats 4000000 in
theorem good (o1 o2 o3 : Option Addr) (n c1 c2 c3 i j : Nat) (I S L : Nat → Int) (w : World) (hn : n ≤ 65536) (hi : i < n) (hj : j < n)
    (h1 : IntsAt .u32 w o1 n I) (h2 : IntsAt .u32 w o2 n S) (h3 : IntsAt .i32 w o3 n L) (z1 : o1 = none → n = 0 ∧ c1 = 0) (z2 : o2 = none → n = 0 ∧ c2 = 0) (z3 : o3 = none → n = 0 ∧ c3 = 0) :
    Calls Try.prog 8 #[.slice o1 n c1, .slice o2 n c2, .slice o3 n c3, .int .i64 i, .int .i64 j] w fun e w' => e = .returned (.bool true) ∧ Below w.heap.size w w' := by
  go_enter Try.func8, Try.ntmps8
  go_wp2_with fail
  go_at_call 29
  refine (bytes _ _ _ _ _ _ _ _ _ _ _ _ (by unfold maxLen; omega) (by unfold maxLen; omega) (by unfold maxLen; omega)).mono ?_
  rintro e w' ⟨r, rfl, rfl⟩
  cases r with
  | false =>
    go_wp2_with fail
    go_ret
    exact ⟨rfl, Below.refl _ _⟩
  | true =>
    go_wp2_with fail
    go_at_call 30
    refine (cloneU o1 n c1 I w (by omega) h1 z1).mono ?_
    rintro e w1 ⟨p1, rfl, i1, B1⟩
    go_wp2_with fail
    go_at_call 30
    refine (cloneU o2 n c2 S w1 (by omega) (h2.below B1) z2).mono ?_
    rintro e w2 ⟨p2, rfl, i2, B2⟩
    replace i1 := i1.below B2
    replace B2 := bl B1 B2
    go_wp2_with fail
    go_at_call 31
    refine (cloneI o3 n c3 L w2 (by omega) (h3.below B2) z3).mono ?_
    rintro e w3 ⟨p3, rfl, i3, B3⟩
    replace i1 := i1.below B3
    replace i2 := i2.below B3
    replace B3 := bl B2 B3
    clear h1 h2 h3 z1 z2 z3 B1 B2
    go_wp2_with fail
    go_at_call 32
    refine (build p1 p2 p3 n n n n S I L w3 hn i1 i2 i3).mono ?_
    rintro e w4 ⟨rfl, B4, R4⟩
    have hle : w3.heap.size ≤ w3.heap.size := Nat.le_refl _
    obtain ⟨b, hb⟩ : ∃ b, b = w3.heap.size := ⟨_, rfl⟩
    have hle : w3.heap.size ≤ b := by omega
    rw [← hb] at R4 ⊢
    replace hb := Lib.hid hb
    go_wp2_with fail
    go_at_call 33
    refine (swap w3.heap.size b n i j S I L w4 hn hi hj hle R4).mono ?_
    rintro e w5 ⟨rfl, B5, R5⟩
    replace B5 := B4.trans B5
    clear B4 R4
    go_wp2_with fail
    go_at_call 33
    refine (swap w3.heap.size b n j i _ _ _ w5 hn hj hi hle R5).mono ?_
    rintro e w6 ⟨rfl, B6, R6⟩
    replace B6 := B5.trans B6
    rw [exch_exch, exch_exch, exch_exch] at R6
    clear B5 R5
    go_wp2_with fail
    go_loopg [13] n (fun gk q wr => ∃ r : Nat, r ≤ n ∧ gk = n - r ∧ q = .int .i64 r ∧ Below w3.heap.size w3 wr ∧ wr.rowIs b 78 (n * 3) (trip S I L))
    case atStart => exact ⟨0, Nat.zero_le _, rfl, rfl, B6, R6⟩
    case round =>
      obtain ⟨r, hr, rfl, rfl, hB, hR⟩ := hrel
      clear B6 R6
      rcases Nat.lt_or_ge r n with hlt | hge
      · rcases i1 with h0 | ⟨b1, f1, e1, l1, k1⟩
        · omega
        rcases i2 with h0 | ⟨b2, f2, e2, l2, k2⟩
        · omega
        rcases i3 with h0 | ⟨b3, f3, e3, l3, k3⟩
        · omega
        cases e1
        cases e2
        cases e3
        have c0 := hR.cell (i := r * 3) (by omega)
        have c1 := hR.cell (i := r * 3 + 1) (by omega)
        have c2 := hR.cell (i := r * 3 + 2) (by omega)
        rw [trip0] at c0
        rw [trip1] at c1
        rw [trip2] at c2
        go_wp2_with fail
        go_at_call 34
        refine (fields _ _ _ _).mono ?_
        rintro e w7 ⟨rfl, B7⟩
        have hB7 := hB.trans (B7.mono hB.size)
        have hR7 := hR.of_block (B7.block _ hR.lt)
        have g1 := (hB7.cell (p := ⟨b1, f1 + r, none⟩) l1).trans (k1 r hlt)
        have g2 := (hB7.cell (p := ⟨b2, f2 + r, none⟩) l2).trans (k2 r hlt)
        have g3 := (hB7.cell (p := ⟨b3, f3 + r, none⟩) l3).trans (k3 r hlt)
        clear k1 k2 k3 hB hR B7 c0 c1 c2
        go_wp2_with fail
        go_roundg (n - (r + 1))
        case measure => omega
        case rel => exact ⟨r + 1, by omega, rfl, rfl, hB7, hR7⟩
      · clear i1 i2 i3
        go_wp2_with fail
        go_ret
        exact ⟨rfl, bl B3 hB⟩

set_option maxRecDepth 100000 in
set_option maxHeartbeats 4000000 in
theorem main (o1 o2 o3 : Option Addr) (n1 n2 n3 c1 c2 c3 : Nat) (i j : Int) (I S L : Nat → Int) (w : World) (m1 : n1 ≤ maxLen) (m2 : n2 ≤ maxLen) (m3 : n3 ≤ maxLen)
    (h1 : IntsAt .u32 w o1 n1 I) (h2 : IntsAt .u32 w o2 n2 S) (h3 : IntsAt .i32 w o3 n3 L) (z1 : o1 = none → n1 = 0 ∧ c1 = 0) (z2 : o2 = none → n2 = 0 ∧ c2 = 0) (z3 : o3 = none → n3 = 0 ∧ c3 = 0) :
    Calls Try.prog 8 #[.slice o1 n1 c1, .slice o2 n2 c2, .slice o3 n3 c3, .int .i64 i, .int .i64 j] w fun e w' => e = .returned (.bool true) ∧ Below w.heap.size w w' := by
  by_cases big : n1 ≤ 65536 ∧ n2 = n1 ∧ n3 = n1 ∧ 0 ≤ i ∧ i < n1 ∧ 0 ≤ j ∧ j < n1
  · obtain ⟨b1, rfl, rfl, b4, b5, b6, b7⟩ := big
    obtain ⟨i, rfl⟩ := Int.eq_ofNat_of_zero_le b4
    obtain ⟨j, rfl⟩ := Int.eq_ofNat_of_zero_le b6
    exact good o1 o2 o3 _ c1 c2 c3 i j I S L w b1 (by omega) (by omega) h1 h2 h3 z1 z2 z3
  · have hm1 := m1
    have hm2 := m2
    have hm3 := m3
    unfold maxLen at hm1 hm2 hm3
    clear h1 h2 h3 z1 z2 z3
    replace big := Lib.hid big
    go_enter Try.func8, Try.ntmps8
    go_wp2_with fail
    go_at_call 29
    refine (bytes _ _ _ _ _ _ _ _ _ _ _ _ m1 m2 m3).mono ?_
    rintro e w' ⟨r, rfl, rfl⟩
    cases r with
    | false =>
      go_wp2_with fail
      go_ret
      exact ⟨rfl, Below.refl _ _⟩
    | true =>
      go_wp2_with fail
      all_goals first | (exfalso; have hb := big.out; simp only [beq_iff_eq, bne_iff_ne, ne_eq, Bool.or_eq_true, decide_eq_true_eq, Bool.not_eq_true', bne_eq_false_iff_eq, Bool.or_eq_false_iff, decide_eq_false_iff_not] at *; omega) | (go_ret; exact ⟨rfl, Below.refl _ _⟩)

set_option maxRecDepth 100000 in
theorem walk (W : World) {H : Type} {enc : TypeId × Value → H} {base : Nat} {p0 p1 p2 : List MemPlace} (v0 : Value) (d0 : DataW H) (k0 : Value.okWide Try.prog W .any base 22 v0) (h0 : DataW.Trod enc Try.prog W 0 (fun _ => true) true 22 v0 d0 p0)
    (v1 : Value) (d1 : DataW H) (k1 : Value.okWide Try.prog W .any base 22 v1) (h1 : DataW.Trod enc Try.prog W 0 (fun _ => true) true 22 v1 d1 p1)
    (v2 : Value) (d2 : DataW H) (k2 : Value.okWide Try.prog W .any base 63 v2) (h2 : DataW.Trod enc Try.prog W 0 (fun _ => true) true 63 v2 d2 p2) (a3 : Int) (_w3 : (Lit.int .i64 a3).wf = true) (a4 : Int) (_w4 : (Lit.int .i64 a4).wf = true) :
    Calls Try.prog 8 #[v0, v1, v2, .int .i64 a3, .int .i64 a4] W fun e w' => e = .returned (.bool true) ∧ Below W.heap.size W w' := by
  obtain ⟨o0, n0, c0, f0, rfl, x0, y0, i0, _, z0⟩ := openInts (k := .u32) Try.underlying22 Try.underlying23 (by kernel_rfl) k0 h0
  obtain ⟨o1, n1, c1, f1, rfl, x1, y1, i1, _, z1⟩ := openInts (k := .u32) Try.underlying22 Try.underlying23 (by kernel_rfl) k1 h1
  obtain ⟨o2, n2, c2, f2, rfl, x2, y2, i2, _, z2⟩ := openInts (k := .i32) Try.underlying63 Try.underlying21 (by kernel_rfl) k2 h2
  exact main o0 o1 o2 n0 n1 n2 c0 c1 c2 a3 a4 f0 f1 f2 W (Nat.le_trans x0 y0) (Nat.le_trans x1 y1) (Nat.le_trans x2 y2) i0 i1 i2 z0 z1 z2
end Go.Proofs.Ytkpdjdfebaaahaa.fnScopeMemberArraySwapUndoneByReverseSwap
