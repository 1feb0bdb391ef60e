/-
  The walk of FnBindingHasObjectRestIffSomeSpreadProperty: it returns true for every code. No condition.
-/
import Derived.Test.YtgiehlcmmikgmaaBind4
namespace Go.Proofs.Ytgiehlcmmikgmaa.fnBindingHasObjectRestIffSomeSpreadProperty
open Go.RowKit Go.WideShapes Go.ChangeAt Go.ChangeShapes Go.Proofs.Ytgiehlcmmikgmaa.Ints Go.Proofs.Ytgiehlcmmikgmaa.Bind

theorem info8 : (Try.prog.info? 5).map (fun i => (i.zero, i.size, i.bytes)) = some (some (.int .u8 0), 1, 1) := by kernel_rfl
theorem eql_nil (t e : TypeId) (a : Option Addr) (l c : Nat) (h : Try.prog.underlying t = some (.slice e)) (w : World) : (binOp .eql t (.slice a l c) (.slice none 0 0)).run Try.prog w = .ok (.bool a.isNone) w := by
  simp [binOp, run_equal_slice_nil w t e a l c h]
theorem cloneB_some (a : Addr) (n cap : Nat) (f : Nat → Int) (w : World) (hn : n ≤ 1048576) (hI : IntsAt .u8 w (some a) n f) :
    Calls Try.prog 7 #[.slice (some a) n cap] w fun e w' => e = .returned (.slice (some ⟨w.heap.size, 0, none⟩) n n) ∧ Filling w w' 5 .u8 n n f := by
  have hmk := run_make_row' (P := Try.prog) 22 5 (.int .u8 0) 1 Try.underlying22 info8 rfl .i64 .i64 n (by omega) (by omega)
  have hnil := eql_nil 22 5 (some a) n cap Try.underlying22
  go_enter Try.func7, Try.ntmps7
  go_wp2
  clear hmk
  go_loopg [4] n (fun g i wr => ∃ r : Nat, r ≤ n ∧ g = n - r ∧ i = .int .i64 r ∧ Filling w wr 5 .u8 n r f)
  case atStart => exact ⟨0, Nat.zero_le _, rfl, rfl, filling_start _ _ _ _ _⟩
  case round =>
    obtain ⟨r, hr, rfl, rfl, hF⟩ := hrel
    rcases Nat.lt_or_ge r n with hlt | hge
    · rcases hI with h0 | ⟨b, off, he, hb, hc⟩
      · omega
      · cases he
        have g2 : wr.cell? ⟨b, off + r, none⟩ = some (.int .u8 (f r)) := (hF.below.cell (by exact hb)).trans (hc r hlt)
        have g4 : wr.cell? ⟨w.heap.size, r, none⟩ = some (.int .u8 0) := by simpa [fillTo] using hF.row.cell hlt
        have g5 := hF.row.frozen r
        clear hc
        go_wp2
        go_roundg (n - (r + 1))
        case measure => omega
        case rel => exact ⟨r + 1, by omega, rfl, rfl, filling_step hF⟩
    · have hrn : r = n := by omega
      subst hrn
      clear hI
      go_wp2
      go_ret
      exact ⟨rfl, hF⟩
theorem cloneB_nil (w : World) : Calls Try.prog 7 #[.slice none 0 0] w fun e w' => e = .returned (.slice none 0 0) ∧ w = w' := by
  have hnil := eql_nil 22 5 none 0 0 Try.underlying22
  go_enter Try.func7, Try.ntmps7
  go_wp2
  go_ret
  exact ⟨rfl, rfl⟩
def SomeBool (w : World) (e : Ending) (w' : World) : Prop := ∃ r : Bool, e = .returned (.bool r) ∧ w = w'
theorem bytes (o : Option Addr) (n cap : Nat) (w : World) (hn0 : n ≤ maxLen) : Calls Try.prog 6 #[.slice o n cap] w (SomeBool w) := by
  unfold maxLen at hn0
  go_enter Try.func6, Try.ntmps6
  go_wp2
  all_goals
    go_ret
    exact ⟨_, rfl, rfl⟩
theorem zzHas {lo : Nat} {d : Value} {k : Nat} (w0 w : World) (h : Tree lo w0 d k) (hb : Below w0.heap.size w0 w) : Calls Try.prog 9 #[.agg #[d, .int .i32 0]] w (Has k w) := by
  obtain ⟨dt, dv, rfl⟩ := isIface h
  have hz := hb.size
  go_enter Try.func9, Try.ntmps9
  go_wp2_with fail
  refine (has h _ (hb.trans (((Below.refl w.heap.size w).alloc (Nat.le_refl _) _).mono hz))).mono ?_
  rintro e w3 ⟨rfl, b3⟩
  go_wp2_with fail
  go_ret
  exact ⟨rfl, ((Below.refl w.heap.size w).alloc (Nat.le_refl _) _).trans (b3.mono (by simp))⟩
theorem buildO (P N c : Nat) (o : Option Addr) (f : Nat → Int) (w : World) (hN : N ≤ 65536) (hI : IntsAt .u8 w o N f) (hr : ∀ i, i < N → 0 ≤ f i ∧ f i ≤ 255) (hne : ∀ b off, o = some ⟨b, off, none⟩ → b ≠ P) (hP : w.rowIs P 3 1 (fun _ => .int .i64 (0 : Nat))) :
    Calls Try.prog 8 #[.slice o N c, .pointer (some ⟨P, 0, none⟩)] w (Built P N w 0) := by
  rcases hI with h0 | ⟨b, off, rfl, _, hc⟩
  · subst h0
    exact buildEnd P 0 c o w 0 (Nat.le_refl _) (Nat.le_refl _) hP hN
  · exact build P N c b off f hN N w 0 (by omega) (Nat.zero_le _) ⟨hc, hr, hne b off rfl⟩ hP
set_option maxRecDepth 100000 in
theorem main (o : Option Addr) (n cap : Nat) (f : Nat → Int) (w : World) (hm : n ≤ maxLen) (hI : IntsAt .u8 w o n f) (hr : ∀ i, i < n → 0 ≤ f i ∧ f i ≤ 255) (h0 : o = none → n = 0 ∧ cap = 0) :
    Calls Try.prog 3 #[.slice o n cap] w fun e w' => e = .returned (.bool true) ∧ Below w.heap.size w w' := by
  have hm' := hm
  unfold maxLen at hm'
  replace h0 := Lib.hid h0
  replace hr := Lib.hid hr
  replace hm := Lib.hid hm
  go_enter Try.func3, Try.ntmps3
  go_wp2_with fail
  go_at_call 6
  refine (bytes _ _ _ _ hm.out).mono ?_
  rintro e w' ⟨r, rfl, rfl⟩
  cases r with
  | false =>
    go_wp2_with fail
    go_ret
    exact ⟨rfl, Below.refl _ _⟩
  | true =>
    by_cases big : 65536 < n
    · go_wp2_with fail
      go_ret
      exact ⟨rfl, Below.refl _ _⟩
    clear hm'
    obtain ⟨hc1, hc2⟩ : (o = none → Hid (n = 0 ∧ cap = 0)) ∧ True := ⟨fun h => Lib.hid (h0.out h), trivial⟩
    have hcl : Calls Try.prog 7 #[.slice o n cap] w fun e w' => ∃ o2, e = .returned (.slice o2 n n) ∧ IntsAt .u8 w' o2 n f ∧ (∀ b off, o2 = some ⟨b, off, none⟩ → b < w'.heap.size) ∧ Below w.heap.size w w' := by
      cases o with
      | none =>
        obtain ⟨rfl, rfl⟩ := h0.out rfl
        refine (cloneB_nil w).mono ?_
        rintro e w' ⟨rfl, rfl⟩
        exact ⟨none, rfl, .inl rfl, (fun b off h => by cases h), Below.refl _ _⟩
      | some a =>
        refine (cloneB_some a n cap f w (by omega) hI).mono ?_
        rintro e w' ⟨rfl, hF⟩
        exact ⟨_, rfl, ints_of_row (hF.row.congr fun i hi => by simp [fillTo, hi]), (fun b off h => by cases h; exact hF.row.lt), hF.below⟩
    replace hcl := Lib.hid hcl
    clear hc1 hc2
    go_wp2_with fail
    go_at_call 7
    refine hcl.out.mono ?_
    rintro e w1 ⟨o2, rfl, I2, hlt, b1⟩
    replace hlt := Lib.hid hlt
    go_wp2_with fail
    go_at_call 8
    have hP := World.rowIs_alloc w1 #[.int .i64 0] 3 (fun _ => .int .i64 ((0 : Nat) : Int)) (fun i hi => by
      match i, hi with
      | 0, _ => rfl)
    have bA : Below w1.heap.size w1 (w1.alloc (.cells #[.int .i64 0] 3)) := (Below.refl _ _).alloc (Nat.le_refl _) _
    have I3 := I2.below bA
    generalize (w1.alloc (.cells #[.int .i64 0] 3)) = w2 at hP bA I3 ⊢
    refine (buildO w1.heap.size n n o2 f w2 (by omega) I3 hr.out (fun b off h e => by have := hlt.out b off h; omega) hP).mono ?_
    rintro e w3 ⟨d, k, p', rfl, _, hpn, hk1, hk2, hT, hBut, _⟩
    have hkn : k ≤ 65536 := by
      rcases Nat.lt_or_ge 0 n with h | h
      · have := hk1 h; omega
      · have := hk2 h; omega
    have hb3 : Below w1.heap.size w1 w3 := bA.trans hBut.below
    clear hk1 hk2 hBut I3 hP
    obtain ⟨dt, dv, rfl⟩ := isIface hT
    go_wp2_with fail
    go_at_call 9
    refine (zzHas w3 _ hT ((Below.refl _ _).alloc (Nat.le_refl _) _)).mono ?_
    rintro e w5 ⟨rfl, b5⟩
    have hb5 : Below w.heap.size w w5 := b1.trans (Below.mono (hb3.trans (Below.mono (((Below.refl w3.heap.size w3).alloc (Nat.le_refl _) _).trans (b5.mono (by simp))) hb3.size)) b1.size)
    by_cases hk : 0 < k
    · rw [decide_eq_true hk]
      go_wp2_with fail
      go_ret
      exact ⟨rfl, hb5⟩
    · obtain rfl : k = 0 := by omega
      go_wp2_with fail
      go_ret
      exact ⟨rfl, hb5⟩
set_option maxRecDepth 100000 in
theorem walk (W : World) {H : Type} {enc : TypeId × Value → H} {base : Nat} {p0 : List MemPlace} (v0 : Value) (d0 : DataW H) (k0 : Value.okWide Try.prog W .any base 22 v0) (h0 : DataW.Trod enc Try.prog W 0 (fun _ => true) true 22 v0 d0 p0) :
    Calls Try.prog 3 #[v0] W fun e w' => e = .returned (.bool true) ∧ Below W.heap.size W w' := by
  have e1 : IntKind.u8.min = 0 := rfl
  have e2 : IntKind.u8.max = 255 := rfl
  obtain ⟨o, n, c, f, rfl, x1, x2, i0, g0, z0⟩ := openInts (k := .u8) Try.underlying22 Try.underlying5 (by kernel_rfl) k0 h0
  exact main o n c f W (Nat.le_trans x1 x2) i0 (fun i hi => by simpa [Lit.wf, e1, e2] using g0 i hi) z0
end Go.Proofs.Ytgiehlcmmikgmaa.fnBindingHasObjectRestIffSomeSpreadProperty
