/-
  The readers; zzNameCall. Condition: at most 2^20 bytes.
-/
import Derived.Test.YtacekiapcipidaaDoorKeepY
import Derived.Test.YtacekiapcipidaaDoorKeepU
import Derived.Test.YtacekiapcipidaaDoorKeepE
namespace Go.Proofs.YtacekiapcipidaaDoor.Sym
open Go.RowKit Go.ChangeShapes Go.WideShapes Go.ChangeAt Go.Proofs.YtacekiapcipidaaDoor.Ints Go.Proofs.YtacekiapcipidaaDoor.MapX Go.Proofs.YtacekiapcipidaaDoor.ToUtf16

theorem belowK {B : Nat} {a w : World} (h : Below B a w) (n : Nat) : Below B a (w.drewN n) := ⟨h.os, h.tape, h.output, h.size, h.block⟩
def Rd (v : Value) (w : World) (e : Ending) (w' : World) : Prop := e = .returned v ∧ Below w.heap.size w w'
theorem ta_ok {P : Program} {T e : TypeId} (hT : P.underlying T = some (.pointer e)) (x : TypeId) (v : Value) (w : World) : (Instr.typeAssert (.iface T v) x T true).run P w = .ok (.tuple #[v, .bool true]) w := by
  simp [Instr.typeAssert, run_underlying hT]
theorem asCall (v : Value) (l : Int) (w : World) : Calls Tryd.prog 7 #[.agg #[.iface 36 v, .int .i32 l]] w (Rd (.tuple #[v, .bool true]) w) := by
  have hta := ta_ok (P := Tryd.prog) (T := 36) Tryd.underlying36
  go_enter Tryd.func7, Tryd.ntmps7
  go_wp2_with fail
  exact bodyPost_ret (v := .tuple #[v, .bool true]) (by simp [results, Tryd.results7, go_sem]) rfl ⟨rfl, (Below.refl _ _).alloc (Nat.le_refl _) _⟩
theorem asIdent (I : Nat) (fI : Nat → Value) (l : Int) (w : World) (h : w.rowIs I 193 5 fI) (i0 : fI 0 = .int .u32 0) (i1 : fI 1 = .int .u32 0) : Calls Tryd.prog 10 #[.agg #[.iface 191 (.pointer (some ⟨I, 0, none⟩)), .int .i32 l]] w (Rd (.tuple #[.agg #[.int .u32 0, .int .u32 0], .bool true]) w) := by
  have hta := ta_ok (P := Tryd.prog) (T := 191) Tryd.underlying191
  have c0 := i0 ▸ h.cell (i := 0) (by omega)
  have c1 := i1 ▸ h.cell (i := 1) (by omega)
  have hl := h.lt
  have hl2 : I < w.heap.size + 1 := by omega
  replace i0 := Lib.hid i0
  replace i1 := Lib.hid i1
  clear h
  go_enter Tryd.func10, Tryd.ntmps10
  go_wp2_with fail
  exact bodyPost_ret (v := .tuple #[.agg #[.int .u32 0, .int .u32 0], .bool true]) (by simp [results, Tryd.results10, go_sem]) rfl ⟨rfl, ((Below.refl _ _).alloc (Nat.le_refl _) _).alloc (by simp) _⟩
theorem asNum (N v : Nat) (l : Int) (w : World) (c0 : w.cell? ⟨N, 0, none⟩ = some (.float .f64 v)) : Calls Tryd.prog 12 #[.agg #[.iface 33 (.pointer (some ⟨N, 0, none⟩)), .int .i32 l]] w (Rd (.tuple #[.float .f64 v, .bool true]) w) := by
  have hta := ta_ok (P := Tryd.prog) (T := 33) Tryd.underlying33
  have hl := lt_of_cell c0
  go_enter Tryd.func12, Tryd.ntmps12
  go_wp2_with fail
  exact bodyPost_ret (v := .tuple #[.float .f64 v, .bool true]) (by simp [results, Tryd.results12, go_sem]) rfl ⟨rfl, (Below.refl _ _).alloc (Nat.le_refl _) _⟩
theorem asStr (N : Nat) (o : Option Addr) (m c : Nat) (l : Int) (w : World) (c0 : w.cell? ⟨N, 0, none⟩ = some (.slice o m c)) : Calls Tryd.prog 13 #[.agg #[.iface 188 (.pointer (some ⟨N, 0, none⟩)), .int .i32 l]] w (Rd (.tuple #[.slice o m c, .bool true]) w) := by
  have hta := ta_ok (P := Tryd.prog) (T := 188) Tryd.underlying188
  have hl := lt_of_cell c0
  go_enter Tryd.func13, Tryd.ntmps13
  go_wp2_with fail
  exact bodyPost_ret (v := .tuple #[.slice o m c, .bool true]) (by simp [results, Tryd.results13, go_sem]) rfl ⟨rfl, (Below.refl _ _).alloc (Nat.le_refl _) _⟩
theorem symName (P g n c : Nat) (F G : Nat → Value) (nm : ByteArray) (w : World) (hP : w.rowIs P 176 353 F) (h1 : F 106 = .slice (some ⟨g, 0, none⟩) 1 c) (hg : w.rowIs g 203 n G) (hn : 10 ≤ n) (h2 : G 1 = .string nm) :
    Calls Tryd.prog 11 #[.pointer (some ⟨P, 0, none⟩), .agg #[.int .u32 0, .int .u32 0]] w (Rd (.string nm) w) := by
  have c0 := h1 ▸ hP.cell (i := 106) (by omega)
  have c1 := h2 ▸ hg.cell (i := 1) (by omega)
  have l1 := hP.lt
  have l2 := hg.lt
  replace h1 := Lib.hid h1
  replace h2 := Lib.hid h2
  clear hP hg
  go_enter Tryd.func11, Tryd.ntmps11
  go_wp2_with fail
  go_quiet (fail)
  go_wp2_with fail
  go_ret
  exact ⟨rfl, belowK ((Below.refl _ _).alloc (Nat.le_refl _) _) _⟩
theorem Rw.below {B P E I A S U g n m c : Nat} {w w' : World} {F' G fI fE fA fS : Nat → Value} {ys : List Value} (h : Rw B w P E I A S U g n F' G fI fE fA fS m c ys) (hb : Below w.heap.size w w') : Rw B w' P E I A S U g n F' G fI fE fA fS m c ys :=
  ⟨h.e.of_block (hb.block _ h.e.lt), h.i.of_block (hb.block _ h.i.lt), h.p.of_block (hb.block _ h.p.lt), h.g.of_block (hb.block _ h.g.lt), h.a.of_block (hb.block _ h.a.lt), h.s.of_block (hb.block _ h.s.lt), own_at h.u (hb.block _ (own_lt h.u))⟩
theorem eqOwn {w : World} {B1 B2 U U2 cap cap2 : Nat} {xs : List Int} (hx : xs.length ≤ 2097152) (h1 : w.ownsRow B1 198 1 (.slice (some ⟨U, 0, none⟩) xs.length cap) xs.length (xs.map (.int .u16))) (h2 : w.ownsRow B2 198 1 (.slice (some ⟨U2, 0, none⟩) xs.length cap2) xs.length (xs.map (.int .u16))) :
    Calls Tryd.prog 14 #[.slice (some ⟨U, 0, none⟩) xs.length cap, .slice (some ⟨U2, 0, none⟩) xs.length cap2] w (Rd (.bool true) w) :=
  (KeepE.eqU16 _ _ xs.length _ _ _ w hx (KeepE.ints_of_own h1) (KeepE.ints_of_own h2)).mono (fun _ _ h => by
    obtain ⟨h1, m, rfl⟩ := h
    exact ⟨h1, belowK (Below.refl _ _) _⟩)
theorem units_len (s : ByteArray) : ∀ g pos, pos ≤ s.size → (units s g pos).length ≤ s.size - pos
  | 0, pos, _ => by simp [units]
  | g + 1, pos, hp => by
    rw [units]
    by_cases h : pos < s.size
    · rw [if_pos h, List.length_append]
      have hw := Hash.width_pos s pos h
      have hf := Dec.dec_facts s pos h
      have ih := units_len s g (pos + (Utf8.decode s pos).2) hf.1
      by_cases hc : (Utf8.decode s pos).1 ≤ 65535
      · rw [enc, if_pos hc]
        simp only [List.length_cons, List.length_nil]
        omega
      · have h4 := (hf.2.1 (by omega)).1
        rw [enc, if_neg hc]
        simp only [List.length_cons, List.length_nil]
        omega
    · rw [if_neg h]; simp
set_option maxRecDepth 100000 in
set_option maxHeartbeats 8000000 in
theorem nameCall (P E Nb v : Nat) (l : Int) (name : ByteArray) (N : Nat) (w : World) (hs : name.size ≤ 1048576) (ho : Out N P l (.iface 33 (.pointer (some ⟨Nb, 0, none⟩))) ⟨#[95, 95, 110, 97, 109, 101]⟩ name E w) (hv : w.cell? ⟨Nb, 0, none⟩ = some (.float .f64 v)) :
    Calls Tryd.prog 8 #[.pointer (some ⟨P, 0, none⟩), .pointer (some ⟨E, 0, none⟩), .int .i32 l, .int .i32 l, .float .f64 v, .string name] w (Rd (.bool true) w) := by
  obtain ⟨I, A, S, U, g, n, c, F', G, fI, fE, fA, fS, r, i3, i4, i5, _, i8, i9, i11, i12, i14, i15, a0, a1, a2, a3, s0, lE⟩ := ho
  have hul := units_len name name.size 0 (by omega)
  have hE := r.e
  have c1 := i4 ▸ hE.cell (i := 1) (by omega)
  have c0 := i3 ▸ hE.cell (i := 0) (by omega)
  have c2 := i5 ▸ hE.cell (i := 2) (by omega)
  clear hE
  replace i3 := Lib.hid i3
  replace i4 := Lib.hid i4
  replace i5 := Lib.hid i5
  replace i8 := Lib.hid i8
  replace i9 := Lib.hid i9
  replace i11 := Lib.hid i11
  replace i15 := Lib.hid i15
  replace a0 := Lib.hid a0
  replace a1 := Lib.hid a1
  replace a2 := Lib.hid a2
  replace a3 := Lib.hid a3
  replace s0 := Lib.hid s0
  replace r := Lib.hid r
  replace hv := Lib.hid hv
  replace hul := Lib.hid hul
  go_enter Tryd.func8, Tryd.ntmps8
  go_wp2_with fail
  go_at_call 10
  refine (asIdent I fI l w r.out.i i8.out i9.out).mono ?_
  rintro e w1 ⟨rfl, b1⟩
  have r1 := r.out.below b1
  have hv1 := (b1.cell (p := ⟨Nb, 0, none⟩) (lt_of_cell hv.out)).trans hv.out
  replace b1 := Lib.hid b1
  replace r1 := Lib.hid r1
  replace hv1 := Lib.hid hv1
  clear c0 c1 c2
  go_wp2_with fail
  have b2 : Below w1.heap.size w1 (w1.alloc (.cells #[.int .u32 0, .int .u32 0] 53)) := (Below.refl _ _).alloc (Nat.le_refl _) _
  have r2 := r1.out.below b2
  have hv2 := (b2.cell (p := ⟨Nb, 0, none⟩) (lt_of_cell hv1.out)).trans hv1.out
  have B2 := b1.out.trans (b2.mono b1.out.size)
  generalize (w1.alloc (.cells #[.int .u32 0, .int .u32 0] 53)) = w2 at *
  replace B2 := Lib.hid B2
  replace r2 := Lib.hid r2
  replace hv2 := Lib.hid hv2
  clear b1 b2 r1 hv1
  go_at_call 11
  refine (symName P g n c F' G _ w2 r2.out.p i11.out r2.out.g i14 i15.out).mono ?_
  rintro e w3 ⟨rfl, b3⟩
  have r3 := r2.out.below b3
  have hv3 := (b3.cell (p := ⟨Nb, 0, none⟩) (lt_of_cell hv2.out)).trans hv2.out
  have B3 := B2.out.trans (b3.mono B2.out.size)
  clear b3 r2 hv2 B2
  have c2 := i5.out ▸ r3.e.cell (i := 2) (by omega)
  have d0 := a0.out ▸ r3.a.cell (i := 0) (by omega)
  have d1 := a1.out ▸ r3.a.cell (i := 1) (by omega)
  replace B3 := Lib.hid B3
  replace r3 := Lib.hid r3
  replace hv3 := Lib.hid hv3
  go_wp2_with fail
  go_at_call 12
  refine (asNum Nb v l w3 hv3.out).mono ?_
  rintro e w4 ⟨rfl, b4⟩
  have r4 := r3.out.below b4
  have B4 := B3.out.trans (b4.mono B3.out.size)
  clear b4 r3 hv3 B3 c2 d0 d1
  have c2 := i5.out ▸ r4.e.cell (i := 2) (by omega)
  have d2 := a2.out ▸ r4.a.cell (i := 2) (by omega)
  have d3 := a3.out ▸ r4.a.cell (i := 3) (by omega)
  have e0 := s0.out ▸ r4.s.cell (i := 0) (by omega)
  replace B4 := Lib.hid B4
  replace r4 := Lib.hid r4
  replace e0 := Lib.hid e0
  go_wp2_with fail
  rotate_left
  · rename_i h1 h2
    exfalso
    obtain ⟨_, h⟩ := h2
    simp at h
    exact h1 h
  all_goals
    have B5 := B4.out
    have r5 := r4.out
    go_at_call 13
    refine (asStr S _ _ _ l w4 e0.out).mono ?_
    rintro e w5 ⟨rfl, b5⟩
    have r6 := r5.below b5
    have B6 := B5.trans (b5.mono B5.size)
    clear B5 r5 b5 r4 B4 e0 c2 d2 d3
    replace B6 := Lib.hid B6
    replace r6 := Lib.hid r6
    go_wp2_with fail
    go_at_call 15
    refine (KeepU.utf16 name hs w5).mono ?_
    rintro e w6 ⟨rfl, o7, b7⟩
    have u7 := (r6.out.below b7).u
    have B7 := B6.out.trans (b7.mono B6.out.size)
    have hq := eqOwn (by have := hul.out; omega) u7 o7
    clear b7 r6 B6 u7 o7
    replace B7 := Lib.hid B7
    replace hq := Lib.hid hq
    go_wp2_with fail
    go_at_call 14
    refine hq.out.mono ?_
    rintro e w8 ⟨rfl, b8⟩
    have B8 := B7.out.trans (b8.mono B7.out.size)
    clear b8 B7 hq
    replace B8 := Lib.hid B8
    go_wp2_with fail
    go_ret
    exact ⟨rfl, B8.out⟩
end Go.Proofs.YtacekiapcipidaaDoor.Sym
