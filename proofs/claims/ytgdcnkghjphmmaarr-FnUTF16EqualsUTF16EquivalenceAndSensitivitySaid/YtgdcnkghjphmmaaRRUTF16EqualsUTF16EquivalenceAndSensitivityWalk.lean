/-
  The walk of FnUTF16EqualsUTF16EquivalenceAndSensitivity: it returns true for every two slices, index and delta. No condition.
-/
import Derived.Test.YtgdcnkghjphmmaaRRUtf16Eq
namespace Go.Proofs.YtgdcnkghjphmmaaRR.fnUTF16EqualsUTF16EquivalenceAndSensitivity
open Go.RowKit Go.Proofs.YtgdcnkghjphmmaaRR.Ints Go.Proofs.YtgdcnkghjphmmaaRR.Utf16

structure Three (w wr : World) (n r : Nat) (f : Nat → Int) : Prop where
  below : Below w.heap.size w wr
  size : wr.heap.size = w.heap.size + 3
  a : wr.rowIs w.heap.size 26 n (fillTo .u16 r f)
  b : wr.rowIs (w.heap.size + 1) 26 n (fillTo .u16 r f)
  c : wr.rowIs (w.heap.size + 2) 26 (n + 1) (fillTo .u16 r f)

theorem three_start (w : World) (n : Nat) (f : Nat → Int) : Three w (((w.alloc (.cells (madeCells #[.int .u16 0] n) 26)).alloc (.cells (madeCells #[.int .u16 0] n) 26)).alloc (.cells (madeCells #[.int .u16 0] (n + 1)) 26)) n 0 f := by
  have h1 := filling_start w 26 .u16 n f
  have h2 := filling_start (w.alloc (.cells (madeCells #[.int .u16 0] n) 26)) 26 .u16 n f
  have h3 := filling_start ((w.alloc (.cells (madeCells #[.int .u16 0] n) 26)).alloc (.cells (madeCells #[.int .u16 0] n) 26)) 26 .u16 (n + 1) f
  have e1 : (w.alloc (.cells (madeCells #[.int .u16 0] n) 26)).heap.size = w.heap.size + 1 := h1.size
  have e2 := h2.size
  rw [e1] at e2
  refine ⟨((h1.below.alloc (by omega) _).alloc (by omega) _), by rw [h3.size, e2], (h1.row.alloc _).alloc _, ?_, ?_⟩
  · have := h2.row; rw [e1] at this; exact this.alloc _
  · have := h3.row; rw [e2] at this; exact this

theorem three_step {w wr : World} {n r : Nat} {f : Nat → Int} (h : Three w wr n r f) :
    Three w (((wr.setCell ⟨w.heap.size, r, none⟩ (.int .u16 (f r))).setCell ⟨w.heap.size + 1, r, none⟩ (.int .u16 (f r))).setCell ⟨w.heap.size + 2, r, none⟩ (.int .u16 (f r))) n (r + 1) f := by
  refine ⟨((h.below.setCell (Nat.le_refl _) _).setCell (Nat.le_succ _) _).setCell (by show w.heap.size ≤ w.heap.size + 2; omega) _, by simp [h.size],
    ((fill_set h.a).setOther (by show w.heap.size ≠ w.heap.size + 1; omega) _).setOther (by show w.heap.size ≠ w.heap.size + 2; omega) _,
    (fill_set (h.b.setOther (by show w.heap.size + 1 ≠ w.heap.size; omega) _)).setOther (by show w.heap.size + 1 ≠ w.heap.size + 2; omega) _,
    fill_set ((h.c.setOther (by show w.heap.size + 2 ≠ w.heap.size; omega) _).setOther (by show w.heap.size + 2 ≠ w.heap.size + 1; omega) _)⟩

theorem three_cells {w wr : World} {n r b off : Nat} {f : Nat → Int} {u : Value} (h : Three w wr n r f) (hr : r < n) (hb : b < w.heap.size) (g : wr.cell? ⟨b, off + r, none⟩ = some u) :
    wr.cell? ⟨w.heap.size, r, none⟩ = some (.int .u16 0) ∧ wr.frozen? ⟨w.heap.size, r, none⟩ = false ∧
    (∀ v, (wr.setCell ⟨w.heap.size, r, none⟩ v).cell? ⟨b, off + r, none⟩ = some u) ∧ (∀ v, (wr.setCell ⟨w.heap.size, r, none⟩ v).cell? ⟨w.heap.size + 1, r, none⟩ = some (.int .u16 0)) ∧ (∀ v, (wr.setCell ⟨w.heap.size, r, none⟩ v).frozen? ⟨w.heap.size + 1, r, none⟩ = false) ∧
    (∀ v v', ((wr.setCell ⟨w.heap.size, r, none⟩ v).setCell ⟨w.heap.size + 1, r, none⟩ v').cell? ⟨b, off + r, none⟩ = some u) ∧ (∀ v v', ((wr.setCell ⟨w.heap.size, r, none⟩ v).setCell ⟨w.heap.size + 1, r, none⟩ v').cell? ⟨w.heap.size + 1 + 1, r, none⟩ = some (.int .u16 0)) ∧
    (∀ v v', ((wr.setCell ⟨w.heap.size, r, none⟩ v).setCell ⟨w.heap.size + 1, r, none⟩ v').frozen? ⟨w.heap.size + 1 + 1, r, none⟩ = false) := by
  have z : fillTo .u16 r f r = .int .u16 0 := by simp [fillTo]
  have p1 : ∀ v, (wr.setCell ⟨w.heap.size, r, none⟩ v).rowIs (w.heap.size + 1) 26 n (fillTo .u16 r f) := fun v => h.b.setOther (by show w.heap.size + 1 ≠ w.heap.size; omega) _
  have p2 : ∀ v v', ((wr.setCell ⟨w.heap.size, r, none⟩ v).setCell ⟨w.heap.size + 1, r, none⟩ v').rowIs (w.heap.size + 2) 26 (n + 1) (fillTo .u16 r f) := fun v v' =>
    (h.c.setOther (by show w.heap.size + 2 ≠ w.heap.size; omega) _).setOther (by show w.heap.size + 2 ≠ w.heap.size + 1; omega) _
  have q1 : ∀ v, Below w.heap.size wr (wr.setCell ⟨w.heap.size, r, none⟩ v) := fun v => (Below.refl _ _).setCell (by exact Nat.le_refl _) _
  have q2 : ∀ v v', Below w.heap.size wr ((wr.setCell ⟨w.heap.size, r, none⟩ v).setCell ⟨w.heap.size + 1, r, none⟩ v') := fun v v' => (q1 v).setCell (Nat.le_succ _) _
  exact ⟨z ▸ h.a.cell hr, h.a.frozen r, fun v => ((q1 v).cell (by exact hb)).trans g, fun v => z ▸ (p1 v).cell hr, fun v => (p1 v).frozen r,
    fun v v' => ((q2 v v').cell (by exact hb)).trans g, fun v v' => z ▸ (p2 v v').cell (by omega), fun v v' => (p2 v v').frozen r⟩

theorem idx (k : Int) (n : Nat) (hn : 0 < n) (hm : n ≤ 262144) : ∃ q : Nat, q < n ∧ wrap64 ((IntKind.u64.wrap k).tmod n) = q := by
  have h0 : IntKind.u64.wrap k = k % 18446744073709551616 := by simp [IntKind.wrap, IntKind.bits, IntKind.signed]
  rw [h0]
  have h1 : 0 ≤ k % 18446744073709551616 := Int.emod_nonneg _ (by decide)
  rw [Int.tmod_eq_emod_of_nonneg h1]
  have h2 := Int.emod_nonneg (k % 18446744073709551616) (b := (n : Int)) (by omega)
  have h3 := Int.emod_lt_of_pos (k % 18446744073709551616) (b := (n : Int)) (by omega)
  refine ⟨((k % 18446744073709551616) % (n : Int)).toNat, by omega, ?_⟩
  unfold wrap64
  omega

structure Fin (w wx : World) (n : Nat) (f g : Nat → Int) : Prop where
  below : Below w.heap.size w wx
  a : IntsAt .u16 wx (some ⟨w.heap.size, 0, none⟩) n f
  b : IntsAt .u16 wx (some ⟨w.heap.size + 1, 0, none⟩) n g
  c : ∃ h, IntsAt .u16 wx (some ⟨w.heap.size + 1 + 1, 0, none⟩) (n + 1) h

def lng (n : Nat) (f : Nat → Int) : Nat → Int := fun i => if i < n then f i else 0
theorem lng_row {w : World} {b n m : Nat} {f : Nat → Int} (h : w.rowIs b 26 m (fillTo .u16 n f)) : w.rowIs b 26 m (fun i => .int .u16 (lng n f i)) :=
  h.congr fun i _ => by simp only [fillTo, lng]; split <;> rfl

theorem fin0 {w wr : World} {n : Nat} {f : Nat → Int} (h : Three w wr n n f) : Fin w wr n f f :=
  ⟨h.below, ints_of_row (h.a.congr fun i hi => by simp [fillTo, hi]), ints_of_row (h.b.congr fun i hi => by simp [fillTo, hi]), _, ints_of_row (lng_row h.c)⟩

theorem fin1 {w wr : World} {n q : Nat} {f : Nat → Int} (h : Three w wr n n f) (x : Int) : Fin w (wr.setCell ⟨w.heap.size + 1, q, none⟩ (.int .u16 x)) n f (fun i => if i = q then x else f i) := by
  refine ⟨h.below.setCell (Nat.le_succ _) _, ints_of_row ((h.a.setOther (by show w.heap.size ≠ w.heap.size + 1; omega) _).congr fun i hi => by simp [fillTo, hi]), ints_of_row ((h.b.set q _).congr fun i hi => ?_), _,
    ints_of_row (lng_row (h.c.setOther (by show w.heap.size + 2 ≠ w.heap.size + 1; omega) _))⟩
  show (if i = q then Value.int .u16 x else fillTo .u16 n f i) = .int .u16 (if i = q then x else f i)
  split
  · rfl
  · simp [fillTo, hi]

theorem same_symm (n1 n2 : Nat) (f1 f2 : Nat → Int) : same n2 n1 f2 f1 = same n1 n2 f1 f2 := by
  simp only [same, decide_eq_decide]
  constructor
  · rintro ⟨rfl, h⟩; exact ⟨rfl, fun i hi => (h i hi).symm⟩
  · rintro ⟨rfl, h⟩; exact ⟨rfl, fun i hi => (h i hi).symm⟩
theorem same_self (n : Nat) (f : Nat → Int) : same n n f f = true := by simp [same]
theorem same_long (n : Nat) (f g : Nat → Int) : same n (n + 1) f g = false := by simp [same]
theorem same_changed (n q : Nat) (f : Nat → Int) (d : Int) (hq : q < n) (_hf : 0 ≤ f q ∧ f q ≤ 65535) (hd : 0 ≤ d ∧ d ≤ 65535) (h0 : d ≠ 0) :
    same n n f (fun i => if i = q then IntKind.u16.wrap (f q + d) else f i) = false := by
  have e : IntKind.u16.wrap (f q + d) = (f q + d) % 65536 := by simp [IntKind.wrap, IntKind.bits, IntKind.signed]
  simp only [same, decide_eq_false_iff_not]
  intro h
  have := h.2 q hq
  rw [if_pos rfl, e] at this
  omega

theorem equalsR (o1 o2 : Option Addr) (n1 n2 c1 c2 : Nat) (f1 f2 : Nat → Int) (s : Bool) (w : World) (hs : same n1 n2 f1 f2 = s) (m1 : n1 ≤ 2097152) (m2 : n2 ≤ 2097152) (h1 : IntsAt .u16 w o1 n1 f1) (h2 : IntsAt .u16 w o2 n2 f2) :
    Calls Try.prog 14 #[.slice o1 n1 c1, .slice o2 n2 c2] w fun e w' => e = .returned (.bool s) ∧ w = w' := by
  subst hs
  exact equals o1 o2 n1 n2 c1 c2 f1 f2 w m1 m2 h1 h2

def SomeBool (w : World) (e : Ending) (w' : World) : Prop := ∃ r : Bool, e = .returned (.bool r) ∧ w = w'
theorem bytes (o1 o2 : Option Addr) (n1 n2 c1 c2 : Nat) (x y : Value) (w : World) (m1 : n1 ≤ maxLen) (m2 : n2 ≤ maxLen) :
    Calls Try.prog 12 #[.slice o1 n1 c1, .slice o2 n2 c2, x, y] w (SomeBool w) := by
  unfold maxLen at m1 m2
  go_enter Try.func12, Try.ntmps12
  go_wp2
  all_goals
    go_ret
    exact ⟨_, rfl, rfl⟩

set_option maxHeartbeats 2000000 in
theorem main (o1 o2 : Option Addr) (n1 n2 c1 c2 : Nat) (f1 f2 : Nat → Int) (k d : Int) (hd : 0 ≤ d ∧ d ≤ 65535) (w : World) (m1 : n1 ≤ maxLen) (m2 : n2 ≤ maxLen)
    (h1 : IntsAt .u16 w o1 n1 f1) (h2 : IntsAt .u16 w o2 n2 f2) (z1 : o1 = none → n1 = 0 ∧ c1 = 0) (z2 : o2 = none → n2 = 0 ∧ c2 = 0) (hf : ∀ i, i < n1 → 0 ≤ f1 i ∧ f1 i ≤ 65535) :
    Calls Try.prog 5 #[.slice o1 n1 c1, .slice o2 n2 c2, .int .i64 k, .int .u16 d] w fun e w' => e = .returned (.bool true) ∧ Below w.heap.size w w' := by
  have hm1 := m1
  have hm2 := m2
  unfold maxLen at hm1 hm2
  go_enter Try.func5, Try.ntmps5
  go_wp2_with fail
  go_at_call 12
  refine (bytes _ _ _ _ _ _ _ _ _ m1 m2).mono ?_
  rintro e w' ⟨r, rfl, rfl⟩
  cases r with
  | false =>
    go_wp2
    go_ret
    exact ⟨rfl, Below.refl _ _⟩
  | true =>
    by_cases big : n1 ≤ 262144 ∧ n2 ≤ 262144 ∧ 2 * n1 + 2 * n2 ≤ 524288
    · obtain ⟨b1, b2, b3⟩ := big
      have t1 : ((n1 : Int) > 262144) = False := by simp; omega
      go_wp2_with fail
      go_at_call 13
      refine (clone o1 n1 c1 f1 w (by omega) h1 z1).mono ?_
      rintro e w1 ⟨p1, rfl, i1, B1⟩
      go_wp2_with fail
      go_at_call 13
      refine (clone o2 n2 c2 f2 w1 (by omega) (h2.below B1) z2).mono ?_
      rintro e w2 ⟨p2, rfl, i2, B2⟩
      replace i1 := i1.below B2
      replace B2 := B1.trans (B2.mono B1.size)
      clear h1 h2 z1 z2 B1
      have hmk := run_make_row' (P := Try.prog) 24 26 (.int .u16 0) 2 Try.underlying24 info16 rfl .i64 .i64 n1 (by omega) (by omega)
      have hmk' : ∀ w : World, (Instr.makeSlice 24 (.int .i64 ((n1 : Int) + 1)) (.int .i64 ((n1 : Int) + 1))).run Try.prog w = .ok (.slice (some ⟨w.heap.size, 0, none⟩) (n1 + 1) (n1 + 1)) (w.alloc (.cells (madeCells #[.int .u16 0] (n1 + 1)) 26)) :=
        fun w => run_make_row' (P := Try.prog) 24 26 (.int .u16 0) 2 Try.underlying24 info16 rfl .i64 .i64 (n1 + 1) (by omega) (by omega) w
      go_wp2
      clear hmk hmk'
      go_loopg [12] n1 (fun g i wr => ∃ r : Nat, r ≤ n1 ∧ g = n1 - r ∧ i = .int .i64 r ∧ Three w2 wr n1 r f1)
      case atStart => exact ⟨0, Nat.zero_le _, rfl, rfl, three_start _ _ _⟩
      case round =>
        obtain ⟨r, hr, rfl, rfl, hF⟩ := hrel
        rcases Nat.lt_or_ge r n1 with hlt | hge
        · rcases i1 with h0 | ⟨b, off, he, hb, hc⟩
          · omega
          · cases he
            have g2 : wr.cell? ⟨b, off + r, none⟩ = some (.int .u16 (f1 r)) := (hF.below.cell (by exact hb)).trans (hc r hlt)
            have e2 := three_cells hF hlt hb g2
            clear hc
            obtain ⟨k1, k2, k3, k4, k5, k6, k7, k8⟩ := e2
            go_wp2
            go_roundg (n1 - (r + 1))
            case measure => omega
            case rel => exact ⟨r + 1, by omega, rfl, rfl, three_step hF⟩
        · have hrn : r = n1 := by omega
          subst hrn
          have L1 : r ≤ 2097152 := by omega
          have L2 : n2 ≤ 2097152 := by omega
          have L3 : r + 1 ≤ 2097152 := by omega
          obtain ⟨sb, HS⟩ : ∃ sb, same r n2 f1 f2 = sb := ⟨_, rfl⟩
          have HS' : same n2 r f2 f1 = sb := (same_symm r n2 f1 f2).trans HS
          rcases Nat.eq_zero_or_pos r with h0 | hpos
          · have X := fin0 hF
            obtain ⟨hh, Xc⟩ := X.c
            have X1 := i1.below X.below
            have X2 := i2.below X.below
            clear hF
            have hz1 : ((0 : Int) < (r : Int)) = False := by simp only [eq_iff_iff, iff_false]; omega
            have hz2 : (0 < r) = False := by simp only [eq_iff_iff, iff_false]; omega
            replace h0 := Lib.hid h0
            go_wp2_with fail
            go_at_call 14
            refine (equalsR p1 p2 r n2 r n2 f1 f2 sb _ HS L1 L2 X1 X2).mono ?_
            rintro e w' ⟨rfl, rfl⟩
            go_wp2_with fail
            go_at_call 14
            refine (equalsR p2 p1 n2 r n2 r f2 f1 sb _ HS' L2 L1 X2 X1).mono ?_
            rintro e w' ⟨rfl, rfl⟩
            go_wp2_with fail
            go_at_call 14
            refine (equalsR p1 _ r r r r f1 f1 true _ (same_self _ _) L1 L1 X1 X.a).mono ?_
            rintro e w' ⟨rfl, rfl⟩
            go_wp2_with fail
            go_at_call 14
            refine (equalsR p1 _ r (r + 1) r (r + 1) f1 hh false _ (same_long _ _ _) L1 L3 X1 Xc).mono ?_
            rintro e w' ⟨rfl, rfl⟩
            go_wp2_with fail
            go_ret
            exact ⟨rfl, B2.trans (X.below.mono B2.size)⟩
          · obtain ⟨q, hq, hqe⟩ := idx k r hpos (by omega)
            have k1 : wr.cell? ⟨w2.heap.size + 1, q, none⟩ = some (.int .u16 (f1 q)) := by simpa [fillTo, hq] using hF.b.cell hq
            have k2 := hF.b.frozen q
            have X := fin1 (q := q) hF (IntKind.u16.wrap (f1 q + d))
            obtain ⟨hh, Xc⟩ := X.c
            have X1 := i1.below X.below
            have X2 := i2.below X.below
            clear hF
            by_cases hd0 : d = 0
            · have hdz : (d != 0) = false := by simp [hd0]
              replace hd0 := Lib.hid hd0
              go_wp2_with fail
              go_at_call 14
              refine (equalsR p1 p2 r n2 r n2 f1 f2 sb _ HS L1 L2 X1 X2).mono ?_
              rintro e w' ⟨rfl, rfl⟩
              go_wp2_with fail
              go_at_call 14
              refine (equalsR p2 p1 n2 r n2 r f2 f1 sb _ HS' L2 L1 X2 X1).mono ?_
              rintro e w' ⟨rfl, rfl⟩
              go_wp2_with fail
              go_at_call 14
              refine (equalsR p1 _ r r r r f1 f1 true _ (same_self _ _) L1 L1 X1 X.a).mono ?_
              rintro e w' ⟨rfl, rfl⟩
              go_wp2_with fail
              go_at_call 14
              refine (equalsR p1 _ r (r + 1) r (r + 1) f1 hh false _ (same_long _ _ _) L1 L3 X1 Xc).mono ?_
              rintro e w' ⟨rfl, rfl⟩
              go_wp2_with fail
              go_ret
              exact ⟨rfl, B2.trans (X.below.mono B2.size)⟩
            · have hdz : (d != 0) = true := by simp [hd0]
              have HC := Lib.hid (same_changed r q f1 d hq (hf q hq) hd hd0)
              go_wp2_with fail
              go_at_call 14
              refine (equalsR p1 p2 r n2 r n2 f1 f2 sb _ HS L1 L2 X1 X2).mono ?_
              rintro e w' ⟨rfl, rfl⟩
              go_wp2_with fail
              go_at_call 14
              refine (equalsR p2 p1 n2 r n2 r f2 f1 sb _ HS' L2 L1 X2 X1).mono ?_
              rintro e w' ⟨rfl, rfl⟩
              go_wp2_with fail
              go_at_call 14
              refine (equalsR p1 _ r r r r f1 f1 true _ (same_self _ _) L1 L1 X1 X.a).mono ?_
              rintro e w' ⟨rfl, rfl⟩
              go_wp2_with fail
              go_at_call 14
              refine (equalsR p1 _ r r r r f1 _ false _ HC.out L1 L1 X1 X.b).mono ?_
              rintro e w' ⟨rfl, rfl⟩
              go_wp2_with fail
              go_at_call 14
              refine (equalsR p1 _ r (r + 1) r (r + 1) f1 hh false _ (same_long _ _ _) L1 L3 X1 Xc).mono ?_
              rintro e w' ⟨rfl, rfl⟩
              go_wp2_with fail
              go_ret
              exact ⟨rfl, B2.trans (X.below.mono B2.size)⟩
    · go_wp2
      all_goals first | omega | (go_ret; exact ⟨rfl, Below.refl _ _⟩)

theorem walk (W : World) {H : Type} {enc : TypeId × Value → H} {base : Nat} {p0 p1 : List MemPlace} (v0 : Value) (d0 : DataW H) (k0 : Value.okWide Try.prog W .any base 24 v0) (h0 : DataW.Trod enc Try.prog W 0 (fun _ => true) true 24 v0 d0 p0)
    (v1 : Value) (d1 : DataW H) (k1 : Value.okWide Try.prog W .any base 24 v1) (h1 : DataW.Trod enc Try.prog W 0 (fun _ => true) true 24 v1 d1 p1) (a2 : Int) (_w2 : (Lit.int .i64 a2).wf = true) (a3 : Int) (w3 : (Lit.int .u16 a3).wf = true) :
    Calls Try.prog 5 #[v0, v1, .int .i64 a2, .int .u16 a3] W fun e w' => e = .returned (.bool true) ∧ Below W.heap.size W w' := by
  have e1 : IntKind.u16.min = 0 := rfl
  have e2 : IntKind.u16.max = 65535 := rfl
  obtain ⟨o1, n1, c1, f1, rfl, x1, y1, i1, g1, z1⟩ := openInts (k := .u16) Try.underlying24 Try.underlying26 (by kernel_rfl) k0 h0
  obtain ⟨o2, n2, c2, f2, rfl, x2, y2, i2, _, z2⟩ := openInts (k := .u16) Try.underlying24 Try.underlying26 (by kernel_rfl) k1 h1
  refine main o1 o2 n1 n2 c1 c2 f1 f2 a2 a3 ?_ W (Nat.le_trans x1 y1) (Nat.le_trans x2 y2) i1 i2 z1 z2 fun i hi => ?_
  · simpa [Lit.wf, e1, e2] using w3
  · simpa [Lit.wf, e1, e2] using g1 i hi
end Go.Proofs.YtgdcnkghjphmmaaRR.fnUTF16EqualsUTF16EquivalenceAndSensitivity
