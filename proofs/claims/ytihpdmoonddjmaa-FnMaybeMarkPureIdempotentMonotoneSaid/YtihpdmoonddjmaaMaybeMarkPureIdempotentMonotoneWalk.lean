/-
  The walk of FnMaybeMarkPureIdempotentMonotone: it returns true for every input. No condition.
-/
import Derived.Test.YtihpdmoonddjmaaPure8
namespace Go.Proofs.Ytihpdmoonddjmaa.fnMaybeMarkPureIdempotentMonotone
open Go.RowKit Go.Proofs.Ytihpdmoonddjmaa.Ints Go.Proofs.Ytihpdmoonddjmaa.Pure

theorem hasInfo : ∃ j, Try.prog.info? 66 = some j := Option.isSome_iff_exists.1 (show (Try.prog.info? 66).isSome = true by kernel_rfl)
theorem nqPtr (a : Addr) (w : World) : (binOp .neq 64 (.pointer (some a)) (.pointer (some a))).run Try.prog w = .ok (.bool false) w := by
  obtain ⟨j, hj⟩ := hasInfo
  exact Lib.run_neq_ptr_same w a Try.underlying64 hj
/-- What the walk knows behind the building: one answer q for the node, and the node. -/
def Ready (pre : Bool) (nm : ByteArray) (k : Int) (o : Option Addr) (n P E T S : Nat) (w : World) : Prop :=
  ∃ x : Fix, x.P = P ∧ x.E = E ∧ x.T = T ∧ x.S = S ∧ x.nm = nm ∧ x.k = k ∧ x.o = o ∧ x.n = n ∧ Nw x pre w ∧ (k = 0 ∨ k = 27) ∧ (x.n = 1 → Kind8 x.t0)
theorem ready {pre : Bool} {nm : ByteArray} {k : Int} {o : Option Addr} {n m P E T S : Nat} {w : World} (hk : k = 0 ∨ k = 27) (hm : m ≤ 65536)
    (e0 : w.cell? ⟨E, 0, none⟩ = some (.iface 64 (.pointer (some ⟨T, 0, none⟩)))) (e2 : w.cell? ⟨E, 2, none⟩ = some (.slice o n n)) (e5 : w.cell? ⟨E, 5, none⟩ = some (.bool pre)) (fz : w.frozen? ⟨E, 5, none⟩ = false)
    (t1 : w.cell? ⟨T, 1, none⟩ = some (.int .u32 0)) (p : w.cell? ⟨P, 106, none⟩ = some (.slice (some ⟨S, 0, none⟩) 1 1)) (hS : Sym w S nm k) (nS : S ≠ E)
    (hA : n = 1 → ∃ b t0 D oi I ts ps, o = some ⟨b, 0, none⟩ ∧ A0 w b m t0 D oi I ts ps ∧ I ≠ E) : Ready pre nm k o n P E T S w := by
  by_cases h1 : n = 1
  · obtain ⟨b, t0, D, oi, I, ts, ps, ho, hA0, hI⟩ := hA h1
    exact ⟨⟨P, E, T, S, nm, k, o, n, b, t0, D, oi, m, I, ts, ps⟩, rfl, rfl, rfl, rfl, rfl, rfl, rfl, rfl,
      ⟨e0, e2, e5, fz, t1, p, hS.s0, hS.s1, hS.s2, hS.s3, hS.s4, hS.s5, hS.s6, hS.s7, hS.s8, hS.s9, fun _ => ⟨ho, hA0.c, hA0.k, fun e => ⟨hA0.d e, hm, fun i hi => hA0.i i hi⟩⟩, nS, hI⟩, hk, fun _ => hA0.k⟩
  · exact ⟨⟨P, E, T, S, nm, k, o, n, 0, 0, 0, none, 0, E + 1, fun _ => 0, fun _ => ⟨0, 0, none⟩⟩, rfl, rfl, rfl, rfl, rfl, rfl, rfl, rfl,
      ⟨e0, e2, e5, fz, t1, p, hS.s0, hS.s1, hS.s2, hS.s3, hS.s4, hS.s5, hS.s6, hS.s7, hS.s8, hS.s9, fun h => absurd h h1, nS, by show E + 1 ≠ E; omega⟩, hk, fun h => absurd h h1⟩
theorem after {x : Fix} {q : Bool} {B : Nat} {w w' : World} {e : Ending} (hm : Mk x q w e w') (hB : B ≤ w.heap.size) (hE : B ≤ x.E) : Below B w w' := by
  obtain ⟨_, W, h, rfl⟩ := hm
  have h' : Below B w W := h.mono hB
  cases q
  · exact h'
  · exact h'.setCell (by exact hE) _
theorem mk_cell {x : Fix} {q : Bool} {w w' : World} {e : Ending} (hm : Mk x q w e w') {p : Addr} {u : Value} (hp : p.off ≠ 5) (hc : w.cell? p = some u) : w'.cell? p = some u := by
  obtain ⟨_, W, hB, rfl⟩ := hm
  cases q
  · exact bC hB hc
  · show (W.setCell _ _).cell? p = _
    rw [World.cell?_setCell_other _ _ _ _ (fun e => hp (congrArg Addr.off e).symm)]
    exact bC hB hc
theorem new (f : Bool) (o1 o2 : Option Addr) (n c m c2 T : Nat) (g1 g2 : Nat → Int) (w : World) (hn : n ≤ 65536) (hm : m ≤ 65536) (hI : IntsAt .u8 w o1 n g1) (hI2 : IntsAt .u8 w o2 m g2) (z1 : o1 = none → n = 0 ∧ c = 0) (z2 : o2 = none → m = 0 ∧ c2 = 0)
    (hf : ∀ i, i < n → 0 ≤ g1 i ∧ g1 i < 256) (hf2 : ∀ i, i < m → 0 ≤ g2 i ∧ g2 i < 256) :
    Calls Try.prog 25 #[.bool f, .slice o1 n c, .slice o2 m c2, .pointer (some ⟨T, 0, none⟩)] w (Pure.Node n m T f w) := by
  cases o1 with
  | none =>
    obtain ⟨rfl, rfl⟩ := z1 rfl
    exact new_none f o2 m c2 T w
  | some a => exact new_some f a o2 n c m c2 T g1 g2 w hn hm hI hI2 z2 hf hf2
set_option maxRecDepth 100000 in
set_option maxHeartbeats 8000000 in
theorem main (pre u : Bool) (nm : ByteArray) (o1 o2 : Option Addr) (n c m c2 : Nat) (g1 g2 : Nat → Int) (w : World) (m0 : nm.size ≤ maxLen) (m1 : n ≤ maxLen) (m2 : m ≤ maxLen)
    (hI : IntsAt .u8 w o1 n g1) (hI2 : IntsAt .u8 w o2 m g2) (z1 : o1 = none → n = 0 ∧ c = 0) (z2 : o2 = none → m = 0 ∧ c2 = 0) (hf : ∀ i, i < n → 0 ≤ g1 i ∧ g1 i < 256) (hf2 : ∀ i, i < m → 0 ≤ g2 i ∧ g2 i < 256) :
    Calls Try.prog 6 #[.bool pre, .bool u, .string nm, .slice o1 n c, .slice o2 m c2] w fun e w' => e = .returned (.bool true) ∧ Below w.heap.size w w' := by
  unfold maxLen at m0 m1 m2
  replace hf := Lib.hid hf
  replace hf2 := Lib.hid hf2
  replace z1 := Lib.hid z1
  replace z2 := Lib.hid z2
  replace hI := Lib.hid hI
  replace hI2 := Lib.hid hI2
  go_enter Try.func6, Try.ntmps6
  go_wp2_with fail
  go_at_call 24
  refine (Pure.bytes _ _ _ _ _ _ _ _ _ _ (by unfold maxLen; exact m0) (by unfold maxLen; exact m1) (by unfold maxLen; exact m2)).mono ?_
  rintro e w' ⟨r, rfl, rfl⟩
  cases r with
  | false =>
    go_wp2_with fail
    go_ret
    exact ⟨rfl, Below.refl _ _⟩
  | true =>
    rcases Nat.lt_or_ge 1048576 (nm.size) with b0 | b0
    · go_wp2_with fail
      go_ret
      exact ⟨rfl, Below.refl _ _⟩
    rcases Nat.lt_or_ge 65536 (n) with b1 | b1
    · go_wp2_with fail
      go_ret
      exact ⟨rfl, Below.refl _ _⟩
    rcases Nat.lt_or_ge 65536 (m) with b2 | b2
    · go_wp2_with fail
      go_ret
      exact ⟨rfl, Below.refl _ _⟩
    rcases Nat.lt_or_ge 1048576 (nm.size + n + m) with b3 | b3
    · go_wp2_with fail
      go_ret
      exact ⟨rfl, Below.refl _ _⟩
    go_wp2_with fail
    go_at_call 25
    have t1 : (w.alloc (.cells #[.int .u32 0, .int .u32 0, .bool false, .bool false, .bool false] 66)).cell? ⟨w.heap.size, 1, none⟩ = some (.int .u32 0) := by go_simp
    have Ba : Below w.heap.size w (w.alloc (.cells #[.int .u32 0, .int .u32 0, .bool false, .bool false, .bool false] 66)) := (Below.refl _ _).alloc (Nat.le_refl _) _
    generalize w.alloc (.cells #[.int .u32 0, .int .u32 0, .bool false, .bool false, .bool false] 66) = wa at *
    refine (new pre o1 o2 n c m c2 w.heap.size g1 g2 wa b1 b2 (hI.out.below Ba) (hI2.out.below Ba) z1.out z2.out hf.out hf2.out).mono ?_
    rintro e w1 ⟨E, o, rfl, lE, e0, e1, e2, e5, fz, hA, B1⟩
    clear hI hI2 z1 z2 hf hf2
    replace hA := Lib.hid hA
    replace t1 := bC B1 t1
    have sa := Ba.size
    replace B1 := Ba.trans (B1.mono sa)
    clear Ba
    go_wp2_with fail
    go_at_call 27
    refine (ctor u nm w1).mono ?_
    rintro e w2 ⟨S, rfl, lS, hS, B2⟩
    have lE1 := lt_of_cell e0
    have sb := B1.size
    have nS : S ≠ E := by simp only at lE1; omega
    replace fz := (B2.frozen (p := ⟨E, 5, none⟩) (by exact lE1)).trans fz
    replace e0 := bC B2 e0
    replace e1 := bC B2 e1
    replace e2 := bC B2 e2
    replace e5 := bC B2 e5
    replace t1 := bC B2 t1
    have hA2 : Hid (n = 1 → ∃ b t0 D oi I ts ps, o = some ⟨b, 0, none⟩ ∧ A0 w2 b m t0 D oi I ts ps ∧ I ≠ E) := Lib.hid fun h1 => by
      obtain ⟨b, t0, D, oi, I, ts, ps, ho, h0, hI⟩ := hA.out h1
      exact ⟨b, t0, D, oi, I, ts, ps, ho, h0.below B2, hI⟩
    clear hA
    have sc := B2.size
    replace B2 := B1.trans (B2.mono sb)
    clear B1
    go_wp2_with fail
    go_at_call 26
    refine (pars S w2).mono ?_
    rintro e w3 ⟨P, rfl, lP, hP, B3⟩
    have hR : Ready pre nm (cond u 0 27) o n P E w.heap.size S w3 := ready (m := m) (by cases u; exact .inr rfl; exact .inl rfl) b2 (bC B3 e0) (bC B3 e2) (bC B3 e5) ((B3.frozen (p := ⟨E, 5, none⟩) (lt_of_cell e5)).trans fz) (bC B3 t1) hP (hS.below B3) nS (fun h1 => by
      obtain ⟨b, t0, D, oi, I, ts, ps, ho, h0, hI⟩ := hA2.out h1
      exact ⟨b, t0, D, oi, I, ts, ps, ho, h0.below B3, hI⟩)
    have e1 := bC B3 e1
    have sd := B3.size
    replace B3 := B2.trans (B3.mono B2.size)
    clear hA2 hS hP e0 e2 e5 fz t1 B2 nS
    obtain ⟨x, rfl, rfl, hT, rfl, rfl, hk, rfl, rfl, hN, hk2, h8⟩ := hR
    have hT := Lib.hid hT
    have hk := Lib.hid hk
    obtain ⟨q, hq⟩ := Pure.mark x (by rw [hk.out]; exact hk2) h8
    clear hk2 h8
    have hq := Lib.hid hq
    go_wp2_with fail
    go_at_call 28
    refine (zzMark x q hq.out pre w3 hN).mono ?_
    rintro e w4 hm4
    have hN4 := hN.after hm4
    have lE : w.heap.size ≤ x.E := by omega
    have B4 := B3.trans (after (B := w.heap.size) hm4 B3.size lE)
    replace e1 := mk_cell hm4 (by show (1 : Nat) ≠ 5; decide) e1
    obtain ⟨rfl, hW4⟩ := hm4
    clear hW4 hN B3
    have c4 := hN4.e5
    cases pre <;> cases q <;> cases u
    all_goals
      simp only [Bool.or_false, Bool.or_true, cond_true, cond_false] at hN4 c4 hk
      go_wp2_with fail
      go_at_call 28
      refine (zzMark x _ hq.out _ w4 hN4).mono ?_
      rintro e w5 hm5
      have hN5 := hN4.after hm5
      have B5 := B4.trans (after (B := w.heap.size) hm5 B4.size lE)
      replace e1 := mk_cell hm5 (by show (1 : Nat) ≠ 5; decide) e1
      obtain ⟨rfl, hW5⟩ := hm5
      clear hW5 hN4 c4 B4 hq
      simp only [Bool.or_false, Bool.or_true] at hN5
      obtain ⟨e0, e2, e5, fz, t1, p, s0, s1, s2, s3, s4, s5, s6, s7, s8, s9, arg, nS, nI⟩ := hN5
      rw [hk.out] at s8
      rw [hT.out] at e0
      clear fz t1 s0 s2 s3 s4 s5 s6 s7 s9 arg nS nI
      have hnq := nqPtr
      go_wp2_with fail
      go_at_call 29
      refine (asId _ _).mono ?_
      rintro e w6 ⟨rfl, B6⟩
      replace p := bC B6 p
      replace s1 := bC B6 s1
      replace s8 := bC B6 s8
      replace B6 := B5.trans (B6.mono B5.size)
      clear B5 e0 e1 e2 e5
      go_wp2_with fail
      go_at_call 30
      refine (syms _ _ _ p).mono ?_
      rintro e w7 ⟨rfl, rfl⟩
      go_wp2_with fail
      go_ret
      exact ⟨rfl, B6⟩

set_option maxRecDepth 100000 in
theorem walk (W : World) {H : Type} {enc : TypeId × Value → H} {base : Nat} (a0 a1 : Bool) (a2 : ByteArray) (w2 : a2.size ≤ maxLen) {p3 p4 : List MemPlace} (v3 : Value) (d3 : DataW H) (k3 : Value.okWide Try.prog W .any base 54 v3) (h3 : DataW.Trod enc Try.prog W 0 (fun _ => true) true 54 v3 d3 p3)
    (v4 : Value) (d4 : DataW H) (k4 : Value.okWide Try.prog W .any base 54 v4) (h4 : DataW.Trod enc Try.prog W 0 (fun _ => true) true 54 v4 d4 p4) :
    Calls Try.prog 6 #[.bool a0, .bool a1, .string a2, v3, v4] W fun e w' => e = .returned (.bool true) ∧ Below W.heap.size W w' := by
  have e1 : IntKind.u8.min = 0 := rfl
  have e2 : IntKind.u8.max = 255 := rfl
  obtain ⟨o1, n1, c1, f1, rfl, x1, y1, i1, g1, z1⟩ := openInts (k := .u8) Try.underlying54 Try.underlying5 (by kernel_rfl) k3 h3
  obtain ⟨o2, n2, c2, f2, rfl, x2, y2, i2, g2, z2⟩ := openInts (k := .u8) Try.underlying54 Try.underlying5 (by kernel_rfl) k4 h4
  refine main a0 a1 a2 o1 o2 n1 c1 n2 c2 f1 f2 W w2 (Nat.le_trans x1 y1) (Nat.le_trans x2 y2) i1 i2 z1 z2 (fun i hi => ?_) (fun i hi => ?_)
  · have : 0 ≤ f1 i ∧ f1 i ≤ 255 := by simpa [Lit.wf, e1, e2] using g1 i hi
    omega
  · have : 0 ≤ f2 i ∧ f2 i ≤ 255 := by simpa [Lit.wf, e1, e2] using g2 i hi
    omega
end Go.Proofs.Ytihpdmoonddjmaa.fnMaybeMarkPureIdempotentMonotone
