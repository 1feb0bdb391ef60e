/-
  The walk of FnKeepExprSymbolNameSpec: it returns true for every input. No condition but the listed variable's cells.
-/
import Derived.Test.YtacekiapcipidaaDoorKeepZ
namespace Go.Proofs.YtacekiapcipidaaDoor.Sym
open Go.RowKit Go.ChangeShapes Go.WideShapes Go.ChangeAt Go.Proofs.YtacekiapcipidaaDoor.Ints Go.Proofs.YtacekiapcipidaaDoor.MapX Go.Proofs.YtacekiapcipidaaDoor.ToUtf16

theorem row_len_ne {w : World} {a b t k m : Nat} {f g : Nat → Value} (h : w.rowIs a t k f) (h' : w.rowIs b t m g) (hkm : k ≠ m) : a ≠ b := by
  obtain ⟨c1, k1, s1, _⟩ := h
  obtain ⟨c2, k2, s2, _⟩ := h'
  rintro rfl
  rw [k1] at k2
  injection k2 with k2
  injection k2 with k2 _
  rw [k2] at s1
  omega
theorem own_row_ne {w : World} {B e size k cap n U R t m : Nat} {xs : List Value} {f : Nat → Value} (h : w.ownsRow B e size (.slice (some ⟨U, 0, none⟩) k cap) n xs) (hR : w.rowIs R t m f) (hne : e ≠ t) : U ≠ R := by
  rcases h.2 with ⟨h0, _⟩ | ⟨g', cap', cur, e1, e2, e3, r⟩
  · cases h0
  · cases e1
    obtain ⟨c2, k2, _⟩ := hR
    exact cells_ne e3 k2 hne
theorem Out.set {N P E R j : Nat} {l : Int} {vd v : Value} {nm name : ByteArray} {w : World} {M : Nat → Value} (h : Out N P l vd nm name E w) (hR : w.rowIs R 31 2 M) : Out N P l vd nm name E (w.setCell ⟨R, j, none⟩ v) := by
  obtain ⟨I, A, S, U, g, n, c, F', G, fI, fE, fA, fS, r, i3, i4, i5, i6, i8, i9, i11, i12, i14, i15, a0, a1, a2, a3, s0, lE⟩ := h
  exact ⟨I, A, S, U, g, n, c, F', G, fI, fE, fA, fS, r.setO ⟨row_ne r.e hR (by decide), row_ne r.i hR (by decide), row_ne r.p hR (by decide), row_ne r.g hR (by decide), row_len_ne r.a hR (by decide), row_ne r.s hR (by decide), own_row_ne r.u hR (by decide)⟩, i3, i4, i5, i6, i8, i9, i11, i12, i14, i15, a0, a1, a2, a3, s0, by simpa using lE⟩
theorem Out.below {N P E : Nat} {l : Int} {vd : Value} {nm name : ByteArray} {w w' : World} (h : Out N P l vd nm name E w) (hb : Below w.heap.size w w') : Out N P l vd nm name E w' := by
  obtain ⟨I, A, S, U, g, n, c, F', G, fI, fE, fA, fS, r, i3, i4, i5, i6, i8, i9, i11, i12, i14, i15, a0, a1, a2, a3, s0, lE⟩ := h
  exact ⟨I, A, S, U, g, n, c, F', G, fI, fE, fA, fS, r.below hb, i3, i4, i5, i6, i8, i9, i11, i12, i14, i15, a0, a1, a2, a3, s0, by have := hb.size; omega⟩
def KeepQ (B P Sc : Nat) (l : Int) (vd : Value) (name : ByteArray) (w : World) (e : Ending) (w' : World) : Prop :=
  ∃ E N, e = .returned (.agg #[.iface 36 (.pointer (some ⟨E, 0, none⟩)), .int .i32 l]) ∧ KK B P Sc w w' ∧ Out N P l vd ⟨#[95, 95, 110, 97, 109, 101]⟩ name E w'
set_option maxRecDepth 100000 in
theorem zzKeep (B P Sc Mp : Nat) (F f : Nat → Value) (l : Int) (vt : TypeId) (vv : Value) (name : ByteArray) (w : World) (hs : name.size ≤ 1048576) (h : Pq B w P Sc Mp F f) (hB : 0 < B) (hG : Gl w) :
    Calls Tryd.prog 6 #[.pointer (some ⟨P, 0, none⟩), .agg #[.iface vt vv, .int .i32 l], .string name] w (KeepQ B P Sc l (.iface vt vv) name w) := by
  have lP := h.core.row.lt
  have hwp : w.heap.size > 0 := by omega
  have hge := h.ge
  have hsc := h.sc.lt
  have b0 : Below w.heap.size w ((w.alloc (.cells #[.iface vt vv, .int .i32 l] 31)).alloc (.cells #[.nilIface, .int .i32 0] 31)) := ((Below.refl _ _).alloc (Nat.le_refl _) _).alloc (by simp) _
  have rR := row_new (w.alloc (.cells #[.iface vt vv, .int .i32 l] 31)) #[.nilIface, .int .i32 0] 31 2 rfl
  rw [World.size_alloc] at rR
  have hc := keepX B P Sc Mp F f l vt vv name _ hs (h.next b0) hB (hG.below b0 hwp)
  replace h := Lib.hid h
  replace hG := Lib.hid hG
  replace b0 := Lib.hid b0
  replace rR := Lib.hid rR
  replace hc := Lib.hid hc
  go_enter Tryd.func6, Tryd.ntmps6
  go_wp2_with fail
  go_at_call 9
  refine hc.out.mono ?_
  rintro e w2 ⟨E, rfl, k2, o2⟩
  have r2 := row_kk rR.out k2 (by decide) (by decide) (by omega) (by omega)
  have c0 := r2.cell (i := 0) (by omega)
  have c1 := r2.cell (i := 1) (by omega)
  have f0 := r2.frozen 0
  have f1 := r2.frozen 1
  have o3 := (o2.set (j := 0) (v := .iface 36 (.pointer (some ⟨E, 0, none⟩))) r2).set (j := 1) (v := .int .i32 l) (r2.set 0 _)
  have r3 := (r2.set 0 (.iface 36 (.pointer (some ⟨E, 0, none⟩)))).set 1 (.int .i32 l)
  have t0 := r3.cell (i := 0) (by omega)
  have t1 := r3.cell (i := 1) (by omega)
  simp only [if_true, if_false, show ¬ (0 : Nat) = 1 from by decide] at t0 t1
  have K2 : KK B P Sc w w2 := ⟨(b0.out.mono (by omega)).trans k2.bel, fun b cur t fr e h1 h2 h3 h4 => by
    have e1 := b0.out.block b (Array.getElem?_eq_some_iff.1 e).1
    exact (k2.kp b cur t fr (e1.trans e) h1 h2 h3 h4).trans e1⟩
  have K3 : KK B P Sc w ((w2.setCell ⟨w.heap.size + 1, 0, none⟩ (.iface 36 (.pointer (some ⟨E, 0, none⟩)))).setCell ⟨w.heap.size + 1, 1, none⟩ (.int .i32 l)) :=
    K2.step (((Below.refl _ _).setCell (p := ⟨w.heap.size + 1, 0, none⟩) (by show B ≤ w.heap.size + 1; omega) _).setCell (p := ⟨w.heap.size + 1, 1, none⟩) (by show B ≤ w.heap.size + 1; omega) _)
      (fun b cur t fr hb _ _ _ _ _ => (Go.Deep.blk_setCell_other _ _ _ _ (by show b ≠ w.heap.size + 1; omega)).trans (Go.Deep.blk_setCell_other _ _ _ _ (by show b ≠ w.heap.size + 1; omega)))
  have hq : KeepQ B P Sc l (.iface vt vv) name w (.returned (.agg #[.iface 36 (.pointer (some ⟨E, 0, none⟩)), .int .i32 l])) ((w2.setCell ⟨w.heap.size + 1, 0, none⟩ (.iface 36 (.pointer (some ⟨E, 0, none⟩)))).setCell ⟨w.heap.size + 1, 1, none⟩ (.int .i32 l)) := ⟨E, _, rfl, K3, o3⟩
  clear r2 o2 o3 r3 K2 K3 k2
  replace hq := Lib.hid hq
  replace t0 := Lib.hid t0
  replace t1 := Lib.hid t1
  go_wp2_with fail
  have t0' := t0.out
  have t1' := t1.out
  have hq' := hq.out
  generalize (w2.setCell ⟨w.heap.size + 1, 0, none⟩ (.iface 36 (.pointer (some ⟨E, 0, none⟩)))).setCell ⟨w.heap.size + 1, 1, none⟩ (.int .i32 l) = W9 at t0' t1' hq' ⊢
  exact bodyPost_ret (v := .agg #[.iface 36 (.pointer (some ⟨E, 0, none⟩)), .int .i32 l]) (by simp [results, Tryd.results6, go_sem, t0', t1']) rfl hq'
end Go.Proofs.YtacekiapcipidaaDoor.Sym
namespace Go.Proofs.YtacekiapcipidaaDoor.fnKeepExprSymbolNameSpec
open Go.RowKit Go.ChangeShapes Go.WideShapes Go.ChangeAt Go.Proofs.YtacekiapcipidaaDoor.Ints Go.Proofs.YtacekiapcipidaaDoor.Sym
abbrev Gl (w : World) : Prop := Sym.Gl w
set_option maxRecDepth 100000 in
set_option maxHeartbeats 4000000 in
theorem walk (w : World) (l : Int) (_w0 : (Lit.int .i32 l).wf = true) (v : Nat) (_w1 : (Lit.float .f64 v).wf = true) (name : ByteArray) (ws : name.size ≤ maxLen) (hG : Gl w) :
    Calls Tryd.prog 3 #[.int .i32 l, .float .f64 v, .string name] w fun e w' => e = .returned (.bool true) ∧ Below w.heap.size w w' := by
  have hw0 : 0 < w.heap.size := lt_of_cell hG.g0
  have ws2 := ws
  unfold maxLen at ws2
  clear _w0 _w1
  replace hG := Lib.hid hG
  by_cases hs : 1048576 < name.size
  · go_enter Tryd.func3, Tryd.ntmps3
    go_wp2_with go_in
    go_ret
    exact ⟨rfl, Below.refl _ _⟩
  · go_enter Tryd.func3, Tryd.ntmps3
    go_wp2_with (first
      | (go_at_call 5; fail)
      | (go_at_call 4; go_in))
    refine (newParser w).mono ?_
    rintro e w1 ⟨P, Sc, Mp, F, f, rfl, b1, hP⟩
    have hG1 := hG.out.below b1 hw0
    have sP := hP.core.row.lt
    have hge := hP.ge
    have sS := hP.sc.lt
    replace hG1 := Lib.hid hG1
    replace b1 := Lib.hid b1
    replace hP := Lib.hid hP
    go_wp2_with fail
    have b2 : Below w1.heap.size w1 ((w1.alloc (.cells #[.int .i32 l] 27)).alloc (.cells #[.float .f64 v] 35)) := ((Below.refl _ _).alloc (Nat.le_refl _) _).alloc (by simp) _
    have rN := row_new (w1.alloc (.cells #[.int .i32 l] 27)) #[.float .f64 v] 35 1 rfl
    rw [World.size_alloc] at rN
    have hc := zzKeep w.heap.size P Sc Mp F f l 33 (.pointer (some ⟨w1.heap.size + 1, 0, none⟩)) name _ (by omega) (hP.out.next b2) hw0 (hG1.out.below b2 (by omega))
    have B2 := b1.out.trans (b2.mono b1.out.size)
    generalize ((w1.alloc (.cells #[.int .i32 l] 27)).alloc (.cells #[.float .f64 v] 35)) = w2 at *
    replace B2 := Lib.hid B2
    replace hc := Lib.hid hc
    clear b1 hP hG hG1
    go_at_call 6
    refine hc.out.mono ?_
    rintro e w3 ⟨E, N, rfl, k3, o3⟩
    have rN3 := row_kk rN k3 (by decide) (by decide) (by omega) (by omega)
    have B3 := B2.out.trans k3.bel
    have b4 : Below w3.heap.size w3 (w3.alloc (.cells #[.iface 36 (.pointer (some ⟨E, 0, none⟩)), .int .i32 l] 31)) := (Below.refl _ _).alloc (Nat.le_refl _) _
    have rN4 := rN3.of_block (b4.block _ rN3.lt)
    have o4 := o3.below b4
    have B4 := B3.trans (b4.mono B3.size)
    have s3 := B3.size
    clear rN3 o3 B3 k3 rN B2 hc b4 b2
    replace rN4 := Lib.hid rN4
    replace o4 := Lib.hid o4
    replace B4 := Lib.hid B4
    go_wp2_with fail
    generalize (w3.alloc (.cells #[.iface 36 (.pointer (some ⟨E, 0, none⟩)), .int .i32 l] 31)) = w4 at *
    go_at_call 7
    refine (asCall _ l w4).mono ?_
    rintro e w5 ⟨rfl, b5⟩
    have o5 := o4.out.below b5
    have c7 : w5.cell? ⟨E, 7, none⟩ = some (.bool true) := by
      obtain ⟨I, A, S, U, g, n, c, F', G, fI, fE, fA, fS, r, i3, i4, i5, i6, _⟩ := o5
      exact i6 ▸ r.e.cell (i := 7) (by omega)
    have v5 := (rN4.out.of_block (b5.block _ rN4.out.lt)).cell (i := 0) (by omega)
    have hq := nameCall P E _ v l name N w5 (by omega) o5 v5
    have B5 := B4.out.trans (b5.mono B4.out.size)
    clear b5 o5 v5 rN4 o4 B4
    replace hq := Lib.hid hq
    replace B5 := Lib.hid B5
    go_wp2_with fail
    go_at_call 8
    refine hq.out.mono ?_
    rintro e w6 ⟨rfl, b6⟩
    have B6 := B5.out.trans (b6.mono B5.out.size)
    replace B6 := Lib.hid B6
    clear b6 B5 hq
    go_wp2_with fail
    go_ret
    exact ⟨rfl, B6.out⟩
end Go.Proofs.YtacekiapcipidaaDoor.fnKeepExprSymbolNameSpec
