/-
  storeNameInRef of a name in the file, loadNameFromRef. Condition: at most 2^20 bytes.
-/
import Derived.Test.YtfgcphcofphabaaName2
namespace Go.Proofs.Ytfgcphcofphabaa.Name
open Go.RowKit Go.ChangeShapes Go.WideShapes Go.ChangeAt Go.Proofs.Ytfgcphcofphabaa.Ints

set_option maxRecDepth 100000 in
set_option maxHeartbeats 2000000 in
theorem storeB (P : Nat) (nm : ByteArray) (st : Nat) (w : World) (h0 : 0 < nm.size) (h1 : nm.size ≤ 1048576) (h2 : st ≤ 1048576) :
    Calls Try.prog 12 #[.pointer (some ⟨P, 0, none⟩), .agg #[.string nm, .int .u32 (4294967295 - (st : Int))]] w (Gives (.agg #[.int .u32 (4294967296 - (nm.size : Int)), .int .u32 st]) w) := by
  have hx := Lib.hid (show 0 < 4294967295 - (st : Int) by omega)
  have hneg : IntKind.u32.wrap (-(nm.size : Int)) = 4294967296 - (nm.size : Int) := by simp [IntKind.wrap, IntKind.bits, IntKind.signed]; omega
  have hcv : IntKind.u32.wrap (nm.size : Int) = (nm.size : Int) := by simp [IntKind.wrap, IntKind.bits, IntKind.signed]; omega
  generalize hX : 4294967295 - (st : Int) = X at *
  go_enter Try.func12, Try.ntmps12
  go_wp2_with fail
  refine (valid1 X hx.out _).mono ?_
  rintro e w1 ⟨rfl, hb1⟩
  have hbw : Below w.heap.size w w1 := (((Below.refl _ _).alloc (Nat.le_refl _) _).alloc (by simp) _).trans (hb1.mono (by simp; omega))
  have n0 : w1.cell? ⟨w.heap.size, 0, none⟩ = some (.string nm) := by
    rw [hb1.cell (by show w.heap.size < _; simp; omega), World.cell?_alloc_lt _ _ _ (by show w.heap.size < _; simp), World.cell?_alloc_mark]
    rfl
  have n1 : w1.cell? ⟨w.heap.size, 1, none⟩ = some (.int .u32 X) := by
    rw [hb1.cell (by show w.heap.size < _; simp; omega), World.cell?_alloc_lt _ _ _ (by show w.heap.size < _; simp), World.cell?_alloc_mark]
    rfl
  have r0 : w1.rowIs (w.heap.size + 1) 30 2 (fun _ => .int .u32 0) := by
    have h0 : ((w.alloc (.cells #[.string nm, .int .u32 X] 147)).alloc (.cells #[.int .u32 0, .int .u32 0] 30)).rowIs (w.alloc (.cells #[.string nm, .int .u32 X] 147)).heap.size 30 2 (fun _ => .int .u32 0) := World.rowIs_alloc (w.alloc (.cells #[.string nm, .int .u32 X] 147)) #[.int .u32 0, .int .u32 0] 30 (fun _ => .int .u32 0) (fun i hi => by
      match i, hi with
      | 0, _ | 1, _ => rfl)
    have h1 := h0.of_block (w' := w1) (hb1.block _ (by simp))
    simpa using h1
  have t0 := r0.cell (i := 0) (by omega)
  have t1 := r0.cell (i := 1) (by omega)
  have u0 := r0.frozen 0
  have u1 := r0.frozen 1
  have hRl := r0.lt
  have hNR : w.heap.size < w.heap.size + 1 := by omega
  replace r0 := Lib.hid r0
  clear hb1
  generalize w.heap.size + 1 = R at *
  generalize hN : w.heap.size = N at *
  replace hN := Lib.hid hN
  have hNl : N < w1.heap.size := by omega
  replace hX := Lib.hid hX
  go_wp2_with fail
  go_region_with (go_at_call 23; rw [← hX.out]; refine (getIdx (st : Int) (by omega) (by omega) _).mono ?_; rintro e w2 ⟨rfl, hb2⟩; have t0' := (hb2.cell (p := ⟨R, 0, none⟩) hRl).trans t0; have t1' := (hb2.cell (p := ⟨R, 1, none⟩) hRl).trans t1; have u0' := (hb2.frozen (p := ⟨R, 0, none⟩) hRl).trans u0; have u1' := (hb2.frozen (p := ⟨R, 1, none⟩) hRl).trans u1; have n0' := (hb2.cell (p := ⟨N, 0, none⟩) hNl).trans n0; have hbz := Lib.hid hb2; clear hb2)
  all_goals
    have z := ((r0.out.of_block (w' := w2) (hbz.out.block R hRl)).set 0 (.int .u32 (4294967296 - (nm.size : Int)))).set 1 (.int .u32 st)
    have z0 : ((w2.setCell ⟨R, 0, none⟩ (.int .u32 (4294967296 - (nm.size : Int)))).setCell ⟨R, 1, none⟩ (.int .u32 st)).cell? ⟨R, 0, none⟩ = some (.int .u32 (4294967296 - (nm.size : Int))) := z.cell (i := 0) (by omega)
    have z1 : ((w2.setCell ⟨R, 0, none⟩ (.int .u32 (4294967296 - (nm.size : Int)))).setCell ⟨R, 1, none⟩ (.int .u32 st)).cell? ⟨R, 1, none⟩ = some (.int .u32 st) := z.cell (i := 1) (by omega)
    have hbf : Below N w w2 := hbw.trans (Below.mono (show Below w1.heap.size w1 w2 from ⟨hbz.out.os, hbz.out.tape, hbz.out.output, hbz.out.size, hbz.out.block⟩) (Nat.le_of_lt hNl))
    go_wp2_with fail
    exact bodyPost_ret (v := .agg #[.int .u32 (4294967296 - (nm.size : Int)), .int .u32 st]) (by simp [results, Try.results12, go_sem, z0, z1, t0', t1']) rfl ⟨rfl, by rw [hN.out]; exact (hbf.setCell (p := ⟨R, 0, none⟩) (Nat.le_of_lt hNR) _).setCell (p := ⟨R, 1, none⟩) (Nat.le_of_lt hNR) _⟩
theorem top32 (y : Int) (h0 : 2147483648 ≤ y) (h1 : y ≤ 4294967295) : bits BinOp.and IntKind.u32 y 2147483648 = 2147483648 := by
  show IntKind.u32.wrap (((BitVec.ofInt 32 y &&& BitVec.ofInt 32 2147483648).toNat : Nat) : Int) = 2147483648
  have e1 : (BitVec.ofInt 32 2147483648).toNat = 2 ^ 31 := by decide
  have e2 : (BitVec.ofInt 32 y).toNat = y.toNat := by rw [BitVec.toNat_ofInt]; omega
  have e3 : y.toNat.testBit 31 = true := by rw [Nat.testBit_eq_decide_div_mod_eq]; simp; omega
  have e4 : y.toNat &&& 2 ^ 31 = 2 ^ 31 := by
    apply Nat.eq_of_testBit_eq
    intro i
    rw [Nat.testBit_and, Nat.testBit_two_pow]
    by_cases h : 31 = i
    · subst h; rw [e3]; rfl
    · simp [h]
  rw [BitVec.toNat_and, e1, e2, e4]
  decide
set_option maxRecDepth 100000 in
set_option maxHeartbeats 2000000 in
theorem load (B P n L st : Nat) (s : ByteArray) (w : World) (h : Prs B w P s n) (h0 : 0 < L) (h1 : st + L ≤ s.size) (h2 : s.size ≤ 1048576) :
    Calls Try.prog 14 #[.pointer (some ⟨P, 0, none⟩), .agg #[.int .u32 (4294967296 - (L : Int)), .int .u32 st]] w (Gives (.string (s.extract st (st + L))) w) := by
  obtain ⟨F, v, xs, hBP, hR, h60, h103, ho⟩ := h
  have c60 : w.cell? ⟨P, 60, none⟩ = some (.string s) := by rw [← h60]; exact hR.cell (by omega)
  have hPl := hR.lt
  clear h60 h103 ho hR
  have f1 : ((4294967296 - (L : Int)) == 2147483648) = false := by simp; omega
  have f2 := top32 (4294967296 - (L : Int)) (by omega) (by omega)
  have j1 : IntKind.i32.wrap (4294967296 - (L : Int)) = -(L : Int) := by simp [IntKind.wrap, IntKind.bits, IntKind.signed]; omega
  have j2 : IntKind.i32.wrap (st : Int) = (st : Int) := by simp [IntKind.wrap, IntKind.bits, IntKind.signed]; omega
  have j3 : IntKind.i32.wrap ((st : Int) + (L : Int)) = (st : Int) + (L : Int) := by simp [IntKind.wrap, IntKind.bits, IntKind.signed]; omega
  have j4 : IntKind.i32.wrap ((st : Int) - -(L : Int)) = (st : Int) + (L : Int) := by rw [Int.sub_neg]; exact j3
  go_enter Try.func14, Try.ntmps14
  go_wp2_with fail
  go_region
  go_wp2_with fail
  go_ret
  exact ⟨rfl, ((Below.refl _ _).alloc (Nat.le_refl _) _).drew⟩
theorem prsSet {B P n N j k : Nat} {s : ByteArray} {w : World} {F : Nat → Value} {v : Value} (h : Prs B w P s n) (hr : w.rowIs N 30 k F) : Prs B (w.setCell ⟨N, j, none⟩ v) P s n := by
  obtain ⟨G, u, xs, h1, h2, h3, h4, h5⟩ := h
  obtain ⟨c, hc, _⟩ := hr
  refine ⟨G, u, xs, h1, h2.of_block (Go.Deep.blk_setCell_other _ _ _ _ ?_), h3, h4, own_keep h5 (fun g cur hg => Go.Deep.blk_setCell_other _ _ _ _ (cells_ne hg hc (by decide)))⟩
  obtain ⟨c2, hc2, _⟩ := h2
  exact cells_ne hc2 hc (by decide)
theorem box_row (w : World) (x y : Value) : (w.alloc (.cells #[x, y] 30)).rowIs w.heap.size 30 2 (fun j => (#[x, y] : Array Value).getD j undef) := World.rowIs_alloc w #[x, y] 30 _ (fun i hi => by
  match i, hi with
  | 0, _ | 1, _ => rfl)
set_option maxRecDepth 100000 in
theorem zzStoreA (B P n : Nat) (s nm : ByteArray) (w : World) (h : Prs B w P s n) (hn : n ≤ 65536) (hB : B ≤ w.heap.size) :
    Calls Try.prog 7 #[.pointer (some ⟨P, 0, none⟩), .string nm] w (Stored B P n s w) := by
  have hP : Hid (∃ cur fr, w.heap[P]? = some (.cells cur 160 fr)) := Lib.hid (by obtain ⟨F, v, xs, h1, ⟨c, h2, _⟩, _⟩ := h; exact ⟨c, _, h2⟩)
  replace h := Lib.hid h
  go_enter Try.func7, Try.ntmps7
  go_wp2_with fail
  have hr := box_row w (.int .u32 0) (.int .u32 0)
  have hb1 : Below w.heap.size w (w.alloc (.cells #[.int .u32 0, .int .u32 0] 30)) := (Below.refl _ _).alloc (Nat.le_refl _) _
  generalize (w.alloc (.cells #[.int .u32 0, .int .u32 0] 30)) = w1 at hr hb1 ⊢
  refine (storeA B P n s nm w1 (h.out.below hb1) hn).mono ?_
  rintro e w2 ⟨⟨x, y, rfl⟩, hp2, hb2, hk2⟩
  have hne : w.heap.size ≠ P := by obtain ⟨c, f, hc⟩ := hP.out; have := (Array.getElem?_eq_some_iff.1 hc).1; omega
  have hr2 := hr.of_block (w' := w2) (by obtain ⟨c, hc, _⟩ := hr; exact hk2 _ _ _ _ hc (by decide) hne)
  have t0 := hr2.cell (i := 0) (by omega)
  have t1 := hr2.cell (i := 1) (by omega)
  have u0 := hr2.frozen 0
  have u1 := hr2.frozen 1
  dsimp only [Array.getD] at t0 t1
  have hT := Lib.hid hp2
  have hkf : Hid (Kp P w w2) := Lib.hid (fun b cur t fr hb ht hp => (hk2 b cur t fr ((hb1.block b (Array.getElem?_eq_some_iff.1 hb).1).trans hb) ht hp).trans (hb1.block b (Array.getElem?_eq_some_iff.1 hb).1))
  have hbf : Hid (Below B w w2) := Lib.hid ((hb1.mono hB).trans hb2)
  clear hp2 hk2 hb2 hr hb1
  replace hr2 := Lib.hid hr2
  generalize hN : w.heap.size = N at *
  replace hN := Lib.hid hN
  go_wp2_with fail
  have z := (hr2.out.set 0 (.int .u32 x)).set 1 (.int .u32 y)
  have z0 : ((w2.setCell ⟨N, 0, none⟩ (.int .u32 x)).setCell ⟨N, 1, none⟩ (.int .u32 y)).cell? ⟨N, 0, none⟩ = some (.int .u32 x) := z.cell (i := 0) (by omega)
  have z1 : ((w2.setCell ⟨N, 0, none⟩ (.int .u32 x)).setCell ⟨N, 1, none⟩ (.int .u32 y)).cell? ⟨N, 1, none⟩ = some (.int .u32 y) := z.cell (i := 1) (by omega)
  refine bodyPost_ret (v := .agg #[.int .u32 x, .int .u32 y]) (by simp [results, Try.results7, go_sem, z0, z1, t0, t1]) rfl ⟨⟨_, _, rfl⟩, prsSet (prsSet hT.out hr2.out) (hr2.out.set 0 _), (hbf.out.setCell (p := ⟨N, 0, none⟩) (by have := hN.out; show B ≤ N; omega) _).setCell (p := ⟨N, 1, none⟩) (by have := hN.out; show B ≤ N; omega) _, fun b cur t fr hb ht hp => ?_⟩
  have hbN : b ≠ N := by have := hN.out; have := (Array.getElem?_eq_some_iff.1 hb).1; omega
  exact (Go.Deep.blk_setCell_other _ _ _ _ hbN).trans ((Go.Deep.blk_setCell_other _ _ _ _ hbN).trans (hkf.out b cur t fr hb ht hp))
set_option maxRecDepth 100000 in
theorem zzStoreB (P : Nat) (nm : ByteArray) (st : Nat) (w : World) (h0 : 0 < nm.size) (h1 : nm.size ≤ 1048576) (h2 : st ≤ 1048576) :
    Calls Try.prog 8 #[.pointer (some ⟨P, 0, none⟩), .string nm, .int .u32 st] w (Gives (.agg #[.int .u32 (4294967296 - (nm.size : Int)), .int .u32 st]) w) := by
  go_enter Try.func8, Try.ntmps8
  go_wp2_with fail
  have hr := box_row w (.int .u32 0) (.int .u32 0)
  have hb1 : Below w.heap.size w (w.alloc (.cells #[.int .u32 0, .int .u32 0] 30)) := (Below.refl _ _).alloc (Nat.le_refl _) _
  generalize (w.alloc (.cells #[.int .u32 0, .int .u32 0] 30)) = w1 at hr hb1 ⊢
  refine (makeIdx (st : Int) (by omega) (by omega) _).mono ?_
  rintro e w2 ⟨rfl, hb2⟩
  have hr2 := hr.of_block (w' := w2) (hb2.block _ hr.lt)
  replace hb2 := hb1.trans (hb2.mono hb1.size)
  clear hr hb1
  go_wp2_with fail
  refine (storeB P nm st w2 h0 h1 h2).mono ?_
  rintro e w3 ⟨rfl, hb3⟩
  have hr3 := hr2.of_block (w' := w3) (hb3.block _ hr2.lt)
  replace hb3 := hb2.trans (hb3.mono hb2.size)
  have t0 := hr3.cell (i := 0) (by omega)
  have t1 := hr3.cell (i := 1) (by omega)
  have u0 := hr3.frozen 0
  have u1 := hr3.frozen 1
  dsimp only [Array.getD] at t0 t1
  clear hr2 hb2
  replace hr3 := Lib.hid hr3
  generalize hN : w.heap.size = N at *
  replace hN := Lib.hid hN
  go_wp2_with fail
  have z := (hr3.out.set 0 (.int .u32 (4294967296 - (nm.size : Int)))).set 1 (.int .u32 st)
  have z0 : ((w3.setCell ⟨N, 0, none⟩ (.int .u32 (4294967296 - (nm.size : Int)))).setCell ⟨N, 1, none⟩ (.int .u32 st)).cell? ⟨N, 0, none⟩ = some (.int .u32 (4294967296 - (nm.size : Int))) := z.cell (i := 0) (by omega)
  have z1 : ((w3.setCell ⟨N, 0, none⟩ (.int .u32 (4294967296 - (nm.size : Int)))).setCell ⟨N, 1, none⟩ (.int .u32 st)).cell? ⟨N, 1, none⟩ = some (.int .u32 st) := z.cell (i := 1) (by omega)
  exact bodyPost_ret (v := .agg #[.int .u32 (4294967296 - (nm.size : Int)), .int .u32 st]) (by simp [results, Try.results8, go_sem, z0, z1, t0, t1]) rfl ⟨rfl, by rw [hN.out]; exact (hb3.setCell (p := ⟨N, 0, none⟩) (Nat.le_refl N) _).setCell (p := ⟨N, 1, none⟩) (Nat.le_refl N) _⟩
set_option maxRecDepth 100000 in
theorem zzLoad (B P n L st : Nat) (s : ByteArray) (w : World) (h : Prs B w P s n) (h0 : 0 < L) (h1 : st + L ≤ s.size) (h2 : s.size ≤ 1048576) :
    Calls Try.prog 9 #[.pointer (some ⟨P, 0, none⟩), .agg #[.int .u32 (4294967296 - (L : Int)), .int .u32 st]] w (Gives (.string (s.extract st (st + L))) w) := by
  replace h := Lib.hid h
  go_enter Try.func9, Try.ntmps9
  go_wp2_with fail
  have hb1 : Below w.heap.size w (w.alloc (.cells #[.int .u32 (4294967296 - (L : Int)), .int .u32 st] 30)) := (Below.refl _ _).alloc (Nat.le_refl _) _
  refine (load B P n L st s _ (h.out.below hb1) h0 h1 h2).mono ?_
  rintro e w2 ⟨rfl, hb2⟩
  have hbf : Hid (Below w.heap.size w w2) := Lib.hid (hb1.trans (hb2.mono (by simp)))
  clear hb1 hb2
  go_wp2_with fail
  go_ret
  exact ⟨rfl, hbf.out⟩
end Go.Proofs.Ytfgcphcofphabaa.Name
