/-
  keepExprSymbolName: a call of the runtime's function with the value and the name's units. Condition: at most 2^20 bytes.
-/
import Derived.Test.YtacekiapcipidaaDoorKeepX
namespace Go.Proofs.YtacekiapcipidaaDoor.Sym
open Go.RowKit Go.ChangeShapes Go.WideShapes Go.ChangeAt Go.Proofs.YtacekiapcipidaaDoor.Ints Go.Proofs.YtacekiapcipidaaDoor.MapX Go.Proofs.YtacekiapcipidaaDoor.ToUtf16

/-- What the call's answer reads as. -/
def Out (N P : Nat) (l : Int) (vd : Value) (nm : ByteArray) (name : ByteArray) (E : Nat) (w' : World) : Prop :=
  ∃ (I A S U g n c : Nat) (F' G fI fE fA fS : Nat → Value), Rw (N + 1 + 1) w' P E I A S U g n F' G fI fE fA fS (units name name.size 0).length name.size ((units name name.size 0).map (.int .u16)) ∧
    fE 0 = .iface 191 (.pointer (some ⟨I, 0, none⟩)) ∧ fE 1 = .int .i32 l ∧ fE 2 = .slice (some ⟨A, 0, none⟩) 2 2 ∧ fE 7 = .bool true ∧ fI 0 = .int .u32 0 ∧ fI 1 = .int .u32 0 ∧
    F' 106 = .slice (some ⟨g, 0, none⟩) 1 c ∧ 1 ≤ c ∧ 10 ≤ n ∧ G 1 = .string nm ∧
    fA 0 = vd ∧ fA 1 = .int .i32 l ∧ fA 2 = .iface 188 (.pointer (some ⟨S, 0, none⟩)) ∧ fA 3 = .int .i32 l ∧ fS 0 = .slice (some ⟨U, 0, none⟩) (units name name.size 0).length name.size ∧ E < w'.heap.size
def KeepR (B P Sc : Nat) (l : Int) (vd : Value) (name : ByteArray) (w : World) (e : Ending) (w' : World) : Prop :=
  ∃ E, e = .returned (.agg #[.iface 36 (.pointer (some ⟨E, 0, none⟩)), .int .i32 l]) ∧ KK B P Sc w w' ∧ Out w.heap.size P l vd ⟨#[95, 95, 110, 97, 109, 101]⟩ name E w'
theorem keepR_mk {B P Sc : Nat} {l : Int} {vd : Value} {name : ByteArray} {w w' : World} {E : Nat} (h1 : KK B P Sc w w') (h2 : Out w.heap.size P l vd ⟨#[95, 95, 110, 97, 109, 101]⟩ name E w') : KeepR B P Sc l vd name w (.returned (.agg #[.iface 36 (.pointer (some ⟨E, 0, none⟩)), .int .i32 l])) w' := ⟨E, rfl, h1, h2⟩
theorem ta_yes {P : Program} {T e : TypeId} (hT : P.underlying T = some (.pointer e)) (x : TypeId) (v : Value) (w : World) : (Instr.typeAssert (.iface T v) x T false).run P w = .ok v w := by
  simp [Instr.typeAssert, run_underlying hT]
def Zk (N : Nat) (l : Int) (w' : World) : Prop := w'.cell? ⟨N, 1, none⟩ = some (.int .i32 l) ∧ w'.cell? ⟨N, 0, none⟩ = some (cvv w' ⟨N, 0, none⟩) ∧ w'.frozen? ⟨N, 0, none⟩ = false ∧ w'.frozen? ⟨N, 1, none⟩ = false ∧
  (∃ F, w'.rowIs N 31 2 F ∧ F 1 = .int .i32 l)
theorem zk_mk {N : Nat} {l : Int} {w' : World} {F : Nat → Value} (h : w'.rowIs N 31 2 F) (h1 : F 1 = .int .i32 l) : Zk N l w' :=
  ⟨h1 ▸ h.cell (by omega), cvv_of (h.cell (by omega)), h.frozen 0, h.frozen 1, F, h, h1⟩
theorem zk_alloc {N : Nat} {l : Int} {w' : World} (h : Zk N l w') (o : Obj) : Zk N l (w'.alloc o) := by
  obtain ⟨_, _, _, _, F, a, b⟩ := h
  exact zk_mk (a.alloc o) b
theorem zk_set0 {N : Nat} {l : Int} {w' : World} (h : Zk N l w') (v : Value) : Zk N l (w'.setCell ⟨N, 0, none⟩ v) := by
  obtain ⟨_, _, _, _, F, a, b⟩ := h
  exact zk_mk (a.set 0 v) (by simp [b])
theorem zk_set1 {N : Nat} {l : Int} {w' : World} (h : Zk N l w') : Zk N l (w'.setCell ⟨N, 1, none⟩ (.int .i32 l)) := by
  obtain ⟨_, _, _, _, F, a, b⟩ := h
  exact zk_mk (a.set 1 _) (by simp)
theorem zk_below {N : Nat} {l : Int} {w' w2 : World} (h : Zk N l w') (hb : Below w'.heap.size w' w2) : Zk N l w2 := by
  obtain ⟨_, _, _, _, F, a, b⟩ := h
  exact zk_mk (a.of_block (hb.block _ a.lt)) b
theorem cvv_is {w : World} {a : Addr} {v : Value} (h : w.cell? a = some v) : cvv w a = v := by unfold cvv; rw [h]; rfl
/-- The state behind the call of the runtime's function: its answer lies in the box at N. -/
def Mid2 (B P Sc : Nat) (l : Int) (vd : Value) (name : ByteArray) (w wx : World) : Prop :=
  ∃ (E I A S g n c : Nat) (F' G fI fE fA fS M M2 : Nat → Value), Rw (w.heap.size + 1 + 1) wx P E I A S (w.heap.size + 1 + 1) g n F' G fI fE fA fS (units name name.size 0).length name.size ((units name name.size 0).map (.int .u16)) ∧
    fE 0 = .iface 191 (.pointer (some ⟨I, 0, none⟩)) ∧ fE 1 = .int .i32 l ∧ fE 2 = .slice (some ⟨A, 0, none⟩) 2 2 ∧ fI 0 = .int .u32 0 ∧ fI 1 = .int .u32 0 ∧
    F' 106 = .slice (some ⟨g, 0, none⟩) 1 c ∧ 1 ≤ c ∧ 10 ≤ n ∧ G 1 = .string ⟨#[95, 95, 110, 97, 109, 101]⟩ ∧
    (fA 0 = vd ∧ fA 1 = .int .i32 l ∧ fA 2 = .iface 188 (.pointer (some ⟨S, 0, none⟩)) ∧ fA 3 = .int .i32 l ∧ fS 0 = .slice (some ⟨w.heap.size + 1 + 1, 0, none⟩) (units name name.size 0).length name.size) ∧
    wx.rowIs w.heap.size 31 2 M ∧ M 0 = .iface 36 (.pointer (some ⟨E, 0, none⟩)) ∧ M 1 = .int .i32 l ∧ wx.rowIs (w.heap.size + 1) 31 2 M2 ∧ KK B P Sc w wx ∧ w.heap.size + 1 + 1 < E ∧ w.heap.size + 1 + 1 < I ∧ A = S + 1 ∧ w.heap.size + 1 + 1 < S ∧ S + 1 < E ∧ P < w.heap.size ∧ B ≤ P
theorem mid_fin {B P Sc : Nat} {l : Int} {vd : Value} {name : ByteArray} {w w2 w3 : World} {E I g n c : Nat} {F' G fI fE fA fS M M2 : Nat → Value}
    (r : Rw (w.heap.size + 1 + 1) w3 P E I (w2.heap.size + 1) w2.heap.size (w.heap.size + 1 + 1) g n F' G fI fE fA fS (units name name.size 0).length name.size ((units name name.size 0).map (.int .u16)))
    (i1 : w2.heap.size + 1 < E) (i2 : w2.heap.size + 1 < I) (i3 : fE 0 = .iface 191 (.pointer (some ⟨I, 0, none⟩))) (i4 : fE 1 = .int .i32 l) (i5 : fE 2 = .slice (some ⟨w2.heap.size + 1, 0, none⟩) 2 2)
    (i8 : fI 0 = .int .u32 0) (i9 : fI 1 = .int .u32 0) (i11 : F' 106 = .slice (some ⟨g, 0, none⟩) 1 c) (i12 : 1 ≤ c) (i14 : 10 ≤ n) (i15 : G 1 = .string ⟨#[95, 95, 110, 97, 109, 101]⟩)
    (a0 : fA 0 = vd) (a1 : fA 1 = .int .i32 l) (a2 : fA 2 = .iface 188 (.pointer (some ⟨w2.heap.size, 0, none⟩))) (a3 : fA 3 = .int .i32 l) (s0 : fS 0 = .slice (some ⟨w.heap.size + 1 + 1, 0, none⟩) (units name name.size 0).length name.size)
    (rN : w3.rowIs w.heap.size 31 2 M) (rR : w3.rowIs (w.heap.size + 1) 31 2 M2) (K : KK B P Sc w w3) (z1 : w.heap.size + 1 + 1 < w2.heap.size) (lP : P < w.heap.size) (hB : B ≤ P) :
    Mid2 B P Sc l vd name w ((w3.setCell ⟨w.heap.size, 0, none⟩ (.iface 36 (.pointer (some ⟨E, 0, none⟩)))).setCell ⟨w.heap.size, 1, none⟩ (.int .i32 l)) := by
  have hg := row_ne r.g rN (by decide)
  have r1 := (r.setO (N := w.heap.size) (j := 0) (v := .iface 36 (.pointer (some ⟨E, 0, none⟩))) ⟨by omega, by omega, by omega, hg, by omega, by omega, by omega⟩).setO (N := w.heap.size) (j := 1) (v := .int .i32 l) ⟨by omega, by omega, by omega, hg, by omega, by omega, by omega⟩
  have rN1 := (rN.set 0 (.iface 36 (.pointer (some ⟨E, 0, none⟩)))).set 1 (.int .i32 l)
  have rR1 := (rR.setOther (a := ⟨w.heap.size, 0, none⟩) (by show w.heap.size + 1 ≠ w.heap.size; omega) (.iface 36 (.pointer (some ⟨E, 0, none⟩)))).setOther (a := ⟨w.heap.size, 1, none⟩) (by show w.heap.size + 1 ≠ w.heap.size; omega) (.int .i32 l)
  exact ⟨E, I, _, _, g, n, c, F', G, fI, fE, fA, fS, _, _, r1, i3, i4, i5, i8, i9, i11, i12, i14, i15, ⟨a0, a1, a2, a3, s0⟩, rN1, by simp, by simp, rR1,
    K.step (((Below.refl _ _).setCell (p := ⟨w.heap.size, 0, none⟩) (by show B ≤ w.heap.size; omega) _).setCell (p := ⟨w.heap.size, 1, none⟩) (by show B ≤ w.heap.size; omega) _)
      (fun b cur t fr hb _ _ _ _ _ => (Go.Deep.blk_setCell_other _ _ _ _ (by show b ≠ w.heap.size; omega)).trans (Go.Deep.blk_setCell_other _ _ _ _ (by show b ≠ w.heap.size; omega))), by omega, by omega, rfl, z1, by omega, lP, hB⟩
set_option maxRecDepth 100000 in
set_option maxHeartbeats 8000000 in
theorem keepX (B P Sc Mp : Nat) (F f : Nat → Value) (l : Int) (vt : TypeId) (vv : Value) (name : ByteArray) (w : World) (hs : name.size ≤ 1048576) (h : Pq B w P Sc Mp F f) (hB : 0 < B) (hG : Gl w) :
    Calls Tryd.prog 9 #[.pointer (some ⟨P, 0, none⟩), .agg #[.iface vt vv, .int .i32 l], .string name] w (KeepR B P Sc l (.iface vt vv) name w) := by
  have lP := h.core.row.lt
  have hwp : w.heap.size > 0 := by omega
  have hge := h.ge
  have hsc := h.sc.lt
  have hc := toUtf16 name hs
  have hcr : ∀ (W : World) (oa : Option Addr) (na ca : Nat), Below w.heap.size w W → Calls Tryd.prog 16 #[.pointer (some ⟨P, 0, none⟩), .agg #[.int .i32 l], .string ⟨#[95, 95, 110, 97, 109, 101]⟩, .slice oa na ca] W (CallR B P Sc l ⟨#[95, 95, 110, 97, 109, 101]⟩ (.slice oa na ca) W) :=
    fun W oa na ca hb => callR B P Sc Mp F f l _ oa na ca W (h.next hb) hB (hG.below hb hwp)
  have b0 : Below w.heap.size w (((w.alloc (.cells #[.iface vt vv, .int .i32 l] 31)).alloc (.cells #[.nilIface, .int .i32 0] 31)).drew) := (((Below.refl _ _).alloc (Nat.le_refl _) _).alloc (by simp) _).drew
  have rN := (row_new w #[.iface vt vv, .int .i32 l] 31 2 rfl).alloc (.cells #[.nilIface, .int .i32 0] 31)
  replace h := Lib.hid h
  replace hG := Lib.hid hG
  replace hcr := Lib.hid hcr
  replace b0 := Lib.hid b0
  replace rN := Lib.hid rN
  go_enter Tryd.func9, Tryd.ntmps9
  go_wp2_with fail
  obtain ⟨V, hV⟩ : ∃ V, V = ((w.alloc (.cells #[.iface vt vv, .int .i32 l] 31)).alloc (.cells #[.nilIface, .int .i32 0] 31)) := ⟨_, rfl⟩
  rw [← hV] at b0 rN ⊢
  have hVs : V.heap.size = w.heap.size + 1 + 1 := by rw [hV]; simp
  have hW : V.drew = (((w.alloc (.cells #[.iface vt vv, .int .i32 l] 31)).alloc (.cells #[.nilIface, .int .i32 0] 31)).drew) := by rw [hV]
  have v0 : cvv V ⟨w.heap.size, 0, none⟩ = .iface vt vv := cvv_is (rN.out.cell (i := 0) (by omega))
  have v1 : cvv V.drew ⟨w.heap.size, 0, none⟩ = .iface vt vv := cvv_is (rN.out.cell (i := 0) (by omega))
  have c0 := rN.out.cell (i := 0) (by omega)
  have lNV : w.heap.size < V.heap.size := by omega
  have hc' := hc V.drew
  rw [show V.drew.heap.size = w.heap.size + 1 + 1 from hVs] at hc'
  replace hV := Lib.hid hV
  replace hVs := Lib.hid hVs
  have hVd := Lib.hid hW
  replace hc' := Lib.hid hc'
  clear hc
  have f0 := rN.out.frozen 0
  have f1 := rN.out.frozen 1
  have c1 := rN.out.cell (i := 1) (by omega)
  clear v0 v1 hW
  have hBP := hge.1
  go_cut [] (fun wx => Mid2 B P Sc l (.iface vt vv) name w wx)
  case first =>
   go_region_law (first
    | (go_simp; go_at_call 17; refine hc'.out.mono ?_; rintro e w2 ⟨rfl, o2, b2⟩; have g2 := own_lt o2; have rN2 := rN.out.of_block (b2.block _ (by omega)); have e0 := rN2.cell (i := 0) (by omega); have e1 := rN2.cell (i := 1) (by omega); have g3 : w.heap.size < w2.heap.size := by { omega }; clear f0 f1 c0 c1; replace rN2 := Lib.hid rN2; replace o2 := Lib.hid o2; replace b2 := Lib.hid b2)
    | (go_simp; go_at_call 16; refine (hcr.out _ _ _ _ (((b0.out.trans (b2.out.mono (by omega))).alloc (by omega) _).alloc (by simp; omega) _)).mono ?_; rintro e w3 ⟨E, I, g, c, n, F', G, fI, fE, rfl, k3, i1, i2, i3, i4, i5, i6, i7, i8, i9, i10, i11, i12, i13, i14, i15⟩; have o2' := o2.out; have b2' := b2.out; rw [← hVs.out] at o2' b2'; obtain ⟨fA, fS, M, M2, rw3, a0, a1, a2, a3, s0, rN3, rN31, rR, K3, z1, z2⟩ := mid h.out hVd.out o2' b2' k3 i2 i7 i10 i13; (have d0 := rN3.cell (i := 0) (by omega)); (have d1 := rN3.cell (i := 1) (by omega)); (have d2 := rN3.frozen 0); (have d3 := rN3.frozen 1); clear i2 i7 i10 i13 o2' b2' e0 e1; replace k3 := Lib.hid k3; replace i3 := Lib.hid i3; replace i4 := Lib.hid i4; replace i5 := Lib.hid i5; replace i8 := Lib.hid i8; replace i9 := Lib.hid i9; replace i11 := Lib.hid i11; replace i15 := Lib.hid i15; replace rw3 := Lib.hid rw3; replace a0 := Lib.hid a0; replace a1 := Lib.hid a1; replace a2 := Lib.hid a2; replace a3 := Lib.hid a3; replace s0 := Lib.hid s0; replace rN3 := Lib.hid rN3; replace rN31 := Lib.hid rN31; replace rR := Lib.hid rR; replace K3 := Lib.hid K3))
   all_goals
     go_wp2_with fail
     go_meet
     exact mid_fin rw3.out (by have := i1; simp at this; omega) (by have := i6; simp at this; omega) i3.out i4.out i5.out i8.out i9.out i11.out i12 i14 i15.out a0.out a1.out a2.out a3.out s0.out rN3.out rR.out K3.out g2 lP hBP
  case rest =>
    clear hc' hcr b0 rN c0 c1 f0 f1 lNV
    obtain ⟨E, I, A, S, g, n, c, F', G, fI, fE, fA, fS, M, M2, r, i3, i4, i5, i8, i9, i11, i12, i14, i15, ha, rN, m0, m1, rR, K, z1, z2, z3, z4, z5, z6, z7⟩ := hcut
    have d0 := m0 ▸ rN.cell (i := 0) (by omega)
    have d1 := m1 ▸ rN.cell (i := 1) (by omega)
    have e7 := r.e.cell (i := 7) (by omega)
    have e8 := r.e.frozen 7
    have s0 := rR.cell (i := 0) (by omega)
    have s1 := rR.cell (i := 1) (by omega)
    have s2 := rR.frozen 0
    have s3 := rR.frozen 1
    have lE := r.e.lt
    have q1 : ¬ E = w.heap.size := by omega
    have q2 : ¬ w.heap.size = E := by omega
    have q3 : ¬ E = w.heap.size + 1 := by omega
    have q4 : ¬ w.heap.size + 1 = E := by omega
    have hg1 := row_ne r.g r.e (by decide)
    have hg2 := row_ne r.g rR (by decide)
    have hI := row_ne r.i r.e (by decide)
    have r2 := ((r.setE (by omega) hI (by omega) hg1 (by omega) (by omega) 7 (.bool true)).setO (N := w.heap.size + 1) (j := 0) (v := .iface 36 (.pointer (some ⟨E, 0, none⟩))) ⟨by omega, by omega, by omega, hg2, by omega, by omega, by omega⟩).setO (N := w.heap.size + 1) (j := 1) (v := .int .i32 l) ⟨by omega, by omega, by omega, hg2, by omega, by omega, by omega⟩
    have K2 : KK B P Sc w (((wc.setCell ⟨E, 7, none⟩ (.bool true)).setCell ⟨w.heap.size + 1, 0, none⟩ (.iface 36 (.pointer (some ⟨E, 0, none⟩)))).setCell ⟨w.heap.size + 1, 1, none⟩ (.int .i32 l)) :=
      K.step ((((Below.refl _ _).setCell (p := ⟨E, 7, none⟩) (by show B ≤ E; omega) _).setCell (p := ⟨w.heap.size + 1, 0, none⟩) (by show B ≤ w.heap.size + 1; omega) _).setCell (p := ⟨w.heap.size + 1, 1, none⟩) (by show B ≤ w.heap.size + 1; omega) _)
        (fun b cur t fr hb _ _ _ _ _ => ((Go.Deep.blk_setCell_other _ _ _ _ (by show b ≠ w.heap.size + 1; omega)).trans (Go.Deep.blk_setCell_other _ _ _ _ (by show b ≠ w.heap.size + 1; omega))).trans (Go.Deep.blk_setCell_other _ _ _ _ (by show b ≠ E; omega)))
    have rR2 := (((rR.setOther (a := ⟨E, 7, none⟩) (by show w.heap.size + 1 ≠ E; omega) (.bool true))).set 0 (.iface 36 (.pointer (some ⟨E, 0, none⟩)))).set 1 (.int .i32 l)
    have t0 := rR2.cell (i := 0) (by omega)
    have t1 := rR2.cell (i := 1) (by omega)
    simp only [if_true, if_false, show ¬ (0 : Nat) = 1 from by decide] at t0 t1
    have hout : Out w.heap.size P l (.iface vt vv) ⟨#[95, 95, 110, 97, 109, 101]⟩ name E (((wc.setCell ⟨E, 7, none⟩ (.bool true)).setCell ⟨w.heap.size + 1, 0, none⟩ (.iface 36 (.pointer (some ⟨E, 0, none⟩)))).setCell ⟨w.heap.size + 1, 1, none⟩ (.int .i32 l)) :=
      ⟨I, A, S, _, g, n, c, F', G, fI, _, fA, fS, r2, by simp [i3], by simp [i4], by simp [i5, z3], by simp, i8, i9, i11, i12, i14, i15, ha.1, ha.2.1, ha.2.2.1, ha.2.2.2.1, ha.2.2.2.2, by simpa using lE⟩
    replace hout := Lib.hid hout
    replace K2 := Lib.hid K2
    replace i3 := Lib.hid i3
    replace i4 := Lib.hid i4
    replace i5 := Lib.hid i5
    replace i8 := Lib.hid i8
    replace i9 := Lib.hid i9
    replace i11 := Lib.hid i11
    replace i15 := Lib.hid i15
    replace ha := Lib.hid ha
    replace m0 := Lib.hid m0
    replace m1 := Lib.hid m1
    replace z3 := Lib.hid z3
    replace t0 := Lib.hid t0
    replace t1 := Lib.hid t1
    clear r r2 rN rR rR2 K
    have hta := ta_yes (P := Tryd.prog) (T := 36) Tryd.underlying36
    go_wp2_with fail
    have t0' := t0.out
    have t1' := t1.out
    have hq := keepR_mk K2.out hout.out
    clear K2 hout
    generalize (((wc.setCell ⟨E, 7, none⟩ (.bool true)).setCell ⟨w.heap.size + 1, 0, none⟩ (.iface 36 (.pointer (some ⟨E, 0, none⟩)))).setCell ⟨w.heap.size + 1, 1, none⟩ (.int .i32 l)) = W9 at *
    exact bodyPost_ret (v := .agg #[.iface 36 (.pointer (some ⟨E, 0, none⟩)), .int .i32 l]) (by simp [results, Tryd.results9, go_sem, t0', t1']) rfl hq
end Go.Proofs.YtacekiapcipidaaDoor.Sym
