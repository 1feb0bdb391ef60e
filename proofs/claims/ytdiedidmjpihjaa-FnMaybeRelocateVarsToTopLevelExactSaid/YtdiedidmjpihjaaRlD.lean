/-
  ConvertBindingToExpr of an identifier: it records the binding. Condition: lengths.
-/
import Derived.Test.YtdiedidmjpihjaaRlC
namespace Go.Proofs.Ytdiedidmjpihjaa.Rl
open Go.RowKit Go.ChangeShapes Go.WideShapes Go.ChangeAt Go.Proofs.Ytdiedidmjpihjaa.Ints

theorem ta_miss (t : TypeId) (v : Value) (w : World) : (Instr.typeAssert (.iface t v) 66 218 true).run Try.prog w = .ok (if t = 218 then .tuple #[v, .bool true] else .tuple #[.pointer none, .bool false]) w :=
  ta_ptr Try.underlying218 (fun _ => by kernel_rfl) _ _ _ _
theorem ta_ident (t : TypeId) (v : Value) (w : World) : (Instr.typeAssert (.iface t v) 66 62 true).run Try.prog w = .ok (if t = 62 then .tuple #[v, .bool true] else .tuple #[.pointer none, .bool false]) w :=
  ta_ptr Try.underlying62 (fun _ => by kernel_rfl) _ _ _ _
theorem neq_func (Z : Nat) (w : World) : (binOp .neq 202 (.func (.func 15) #[] #[.pointer (some ⟨Z, 0, none⟩)]) .nilFunc).run Try.prog w = .ok (.bool true) w := by kernel_rfl
structure SD (b N x : Nat) (l : Int) (w : World) : Prop where
  c1 : w.cell? ⟨N, 0, none⟩ = some (.int .i32 l)
  c2 : w.cell? ⟨b, 0, none⟩ = some (.int .u32 0)
  c3 : w.cell? ⟨b, 1, none⟩ = some (.int .u32 (x : Nat))
set_option maxRecDepth 100000 in
set_option maxHeartbeats 4000000 in
theorem convert (B P g n Z b : Nat) (F : Nat → Value) (U : Nat → Nat) (v : Value) (k : Nat) (xs : List Value) (x : Nat) (l : Int) (w : World) (h : Pa B P g n F U v k xs w) (hx : x < n) (hn : n ≤ 65536) (hk : k ≤ 65536) (hU : U x ≤ 65536)
    (hZ : w.cell? ⟨Z, 0, none⟩ = some (.pointer (some ⟨P, 0, none⟩))) (hZP : Z ≠ P) (hZg : Z ≠ g) (hZt : ∃ c fr, w.heap[Z]? = some (.cells c 26 fr))
    (hb : w.heap[b]? = some (.cells #[.int .u32 0, .int .u32 (x : Nat)] 64 (0, 0))) :
    Calls Try.prog 17 #[.agg #[.iface 62 (.pointer (some ⟨b, 0, none⟩)), .int .i32 l], .func (.func 15) #[] #[.pointer (some ⟨Z, 0, none⟩)]] w (Clo B P g n U k xs x l w) := by
  have a1 := ta_miss 62 (.pointer (some ⟨b, 0, none⟩))
  have a3 := neq_func Z
  have a2 := ta_ident 62 (.pointer (some ⟨b, 0, none⟩))
  rw [if_neg (by decide)] at a1
  rw [if_pos rfl] at a2
  obtain ⟨cz, frz, hzb⟩ := hZt
  have hBw : B ≤ w.heap.size := Nat.le_trans h.bp (Nat.le_of_lt h.lts.1)
  have lPw := h.lts.1
  have lgw := h.lts.2.1
  obtain ⟨G, hG, _⟩ := h.sym
  have hbP : b ≠ P := by
    obtain ⟨c, hc, _⟩ := h.row
    exact cells_ne hb hc (by decide)
  have hbg : b ≠ g := by
    obtain ⟨c, hc, _⟩ := hG
    exact cells_ne hb hc (by decide)
  have lb := (Array.getElem?_eq_some_iff.1 hb).1
  clear hG
  generalize hW0 : (((w.alloc (.cells #[.iface 62 (.pointer (some ⟨b, 0, none⟩)), .int .i32 l] 68)).alloc (.cells #[.nilIface, .int .i32 0] 72)).alloc (.cells #[.int .i32 l] 33)) = W
  have s0 : (w.alloc (.cells #[.iface 62 (.pointer (some ⟨b, 0, none⟩)), .int .i32 l] 68)).heap.size = w.heap.size + 1 := by simp
  have s1 : ((w.alloc (.cells #[.iface 62 (.pointer (some ⟨b, 0, none⟩)), .int .i32 l] 68)).alloc (.cells #[.nilIface, .int .i32 0] 72)).heap.size = w.heap.size + 1 + 1 := by simp
  have sW : W.heap.size = w.heap.size + 1 + 1 + 1 := by rw [← hW0]; simp
  have b0 : Below w.heap.size w W := hW0 ▸ b3 _ _ _ _
  have hb1 : W.heap[w.heap.size + 1]? = some (.cells #[.nilIface, .int .i32 0] 72 (0, 0)) := by
    rw [← hW0, Below.heap_alloc _ _ _ (by omega), ← s0]
    exact heap_alloc_new _ _
  have hb2 : W.heap[w.heap.size + 1 + 1]? = some (.cells #[.int .i32 l] 33 (0, 0)) := by
    rw [← hW0, ← s1]
    exact heap_alloc_new _ _
  have hb0 : W.heap[w.heap.size]? = some (.cells #[.iface 62 (.pointer (some ⟨b, 0, none⟩)), .int .i32 l] 68 (0, 0)) := by
    rw [← hW0, Below.heap_alloc _ _ _ (by omega), Below.heap_alloc _ _ _ (by omega)]
    exact heap_alloc_new _ _
  have x0 : W.cell? ⟨w.heap.size, 0, none⟩ = some (.iface 62 (.pointer (some ⟨b, 0, none⟩))) := cell_of_row _ _ 0 _ _ _ hb0
  have x1 : W.cell? ⟨w.heap.size, 1, none⟩ = some (.int .i32 l) := cell_of_row _ _ 1 _ _ _ hb0
  have hbb : W.heap[b]? = some (.cells #[.int .u32 0, .int .u32 (x : Nat)] 64 (0, 0)) := (b0.block b lb).trans hb
  have hzW : W.heap[Z]? = some (.cells cz 26 frz) := (b0.block Z (Array.getElem?_eq_some_iff.1 hzb).1).trans hzb
  have hS0 : SD b (w.heap.size + 1 + 1) x l W.drew := ⟨cell_of_row _ _ 0 _ _ _ hb2, cell_of_row _ _ 0 _ _ _ hbb, cell_of_row _ _ 1 _ _ _ hbb⟩
  have cC := clo B P g n Z F U v k xs x l W.drew ((h.below b0).below (Below.refl _ _).drew) hx hn hk hU ((b0.cell (lt_of_cell hZ)).trans hZ) hZP hZg ⟨cz, frz, hzW⟩
  have kW : Ko B P g w W.drew := Ko.of_below b0.drew hBw
  have hSk : ∀ w3, Ko B P g W.drew w3 → w3.heap[b]? = W.heap[b]? ∧ w3.heap[w.heap.size + 1 + 1]? = W.heap[w.heap.size + 1 + 1]? ∧ w3.heap[w.heap.size + 1]? = W.heap[w.heap.size + 1]? := fun w3 kg =>
    ⟨kg.kp b _ _ _ hbb (by decide) hbP hbg, kg.kp _ _ _ _ hb2 (by decide) (by omega) (by omega), kg.kp _ _ _ _ hb1 (by decide) (by omega) (by omega)⟩
  have lW : b < W.heap.size := by omega
  replace sW := Lib.hid sW
  replace h := Lib.hid h
  replace b0 := Lib.hid b0
  replace hb1 := Lib.hid hb1
  replace hb2 := Lib.hid hb2
  replace hbb := Lib.hid hbb
  replace hS0 := Lib.hid hS0
  replace cC := Lib.hid cC
  replace kW := Lib.hid kW
  replace hSk := Lib.hid hSk
  clear hzb hzW hZ s0 s1 hb hb0
  go_enter Try.func17, Try.ntmps17
  go_upto_region 11 with fail
  replace hW0 := Lib.hid hW0
  refine wp_region_held_drew (S := SD b (w.heap.size + 1 + 1) x l) (by kernel_rfl) hS0.out (fun hS1 => ?_)
  refine Take.takeD (i := 0) (v := .func (.func 15) #[] #[.pointer (some ⟨Z, 0, none⟩)]) (some 39) rfl rfl (by kernel_rfl) (by kernel_rfl) (by kernel_rfl) (fun _ _ _ h => h) (Or.inl ⟨by rfl, fun w9 hw9 => by (go_simp; (first | done | rfl | (simp [hw9.c1, hw9.c2, hw9.c3]; done)))⟩) hS1 ?_
  try simp only [Act.put, List.setIfInBounds_toArray, List.set_cons_zero, List.set_cons_succ]
  refine Take.takeD (i := 1) (v := .agg #[.int .i32 l]) (some 40) rfl rfl (by kernel_rfl) (by kernel_rfl) (by kernel_rfl) (fun _ _ _ h => h) (Or.inl ⟨by rfl, fun w9 hw9 => by (go_simp; (first | done | rfl | (simp [hw9.c1, hw9.c2, hw9.c3]; done)))⟩) hS1 ?_
  try simp only [Act.put, List.setIfInBounds_toArray, List.set_cons_zero, List.set_cons_succ]
  refine Take.takeD (i := 2) (v := .pointer (some ⟨b, 0, none⟩)) (some 41) rfl rfl (by kernel_rfl) (by kernel_rfl) (by kernel_rfl) (fun _ _ _ h => h) (Or.inl ⟨by rfl, fun w9 hw9 => by (go_simp; (first | done | rfl | (simp [hw9.c1, hw9.c2, hw9.c3]; done)))⟩) hS1 ?_
  try simp only [Act.put, List.setIfInBounds_toArray, List.set_cons_zero, List.set_cons_succ]
  refine Take.takeD (i := 3) (v := .pointer (some ⟨b, 0, none⟩)) (some 42) rfl rfl (by kernel_rfl) (by kernel_rfl) (by kernel_rfl) (fun _ _ _ h => h) (Or.inl ⟨by rfl, fun w9 hw9 => by (go_simp; (first | done | rfl | (simp [hw9.c1, hw9.c2, hw9.c3]; done)))⟩) hS1 ?_
  try simp only [Act.put, List.setIfInBounds_toArray, List.set_cons_zero, List.set_cons_succ]
  refine Take.takeD (i := 4) (v := .pointer (some ⟨b, 0, none⟩)) (some 43) rfl rfl (by kernel_rfl) (by kernel_rfl) (by kernel_rfl) (fun _ _ _ h => h) (Or.inl ⟨by rfl, fun w9 hw9 => by (go_simp; (first | done | rfl | (simp [hw9.c1, hw9.c2, hw9.c3]; done)))⟩) hS1 ?_
  try simp only [Act.put, List.setIfInBounds_toArray, List.set_cons_zero, List.set_cons_succ]
  refine Take.takeD (i := 5) (v := .agg #[.int .u32 0, .int .u32 (x : Nat)]) (some 44) rfl rfl (by kernel_rfl) (by kernel_rfl) (by kernel_rfl) (fun _ _ _ h => h) (Or.inl ⟨by rfl, fun w9 hw9 => by (go_simp; (first | done | rfl | (simp [hw9.c1, hw9.c2, hw9.c3]; done)))⟩) hS1 ?_
  try simp only [Act.put, List.setIfInBounds_toArray, List.set_cons_zero, List.set_cons_succ]
  clear hS1
  refine wpAnyH_ready (rs := [6]) (by kernel_rfl) (by decide) ?_
  refine AllReadyH.cons rfl (fun K' hK => ?_) AllReadyH.nil
  rw [if_pos (by kernel_rfl)]
  go_wp2_with fail
  refine cC.out.mono ?_
  rintro e w3 ⟨t, p, F3, v3, rfl, hP3, k3⟩
  obtain ⟨e1, e2, e3⟩ := hSk.out w3 k3
  have g1 := e3.trans hb1.out
  have y4 : w3.cell? ⟨w.heap.size + 1, 0, none⟩ = some .nilIface := cell_of_row _ _ 0 _ _ _ g1
  have y5 : w3.cell? ⟨w.heap.size + 1, 1, none⟩ = some (.int .i32 0) := cell_of_row _ _ 1 _ _ _ g1
  have y6 : w3.frozen? ⟨w.heap.size + 1, 0, none⟩ = false := frozen_of_row _ _ 0 _ _ g1
  have y7 : w3.frozen? ⟨w.heap.size + 1, 1, none⟩ = false := frozen_of_row _ _ 1 _ _ g1
  have hS3 : SD b (w.heap.size + 1 + 1) x l w3 := ⟨cell_of_row _ _ 0 _ _ _ (e2.trans hb2.out), cell_of_row _ _ 0 _ _ _ (e1.trans hbb.out), cell_of_row _ _ 1 _ _ _ (e1.trans hbb.out)⟩
  have hne : b ≠ w.heap.size + 1 := by omega
  have hS4 : SD b (w.heap.size + 1 + 1) x l ((w3.setCell ⟨w.heap.size + 1, 0, none⟩ (.iface t p)).setCell ⟨w.heap.size + 1, 1, none⟩ (.int .i32 l)) :=
    ⟨(World.cell?_setCell_far _ _ _ _ (by show w.heap.size + 1 ≠ w.heap.size + 1 + 1; omega)).trans ((World.cell?_setCell_far _ _ _ _ (by show w.heap.size + 1 ≠ w.heap.size + 1 + 1; omega)).trans hS3.c1), (World.cell?_setCell_far _ _ _ _ (fun e => hne e.symm)).trans ((World.cell?_setCell_far _ _ _ _ (fun e => hne e.symm)).trans hS3.c2), (World.cell?_setCell_far _ _ _ _ (fun e => hne e.symm)).trans ((World.cell?_setCell_far _ _ _ _ (fun e => hne e.symm)).trans hS3.c3)⟩
  replace hS4 := Lib.hid hS4
  replace g1 := Lib.hid g1
  replace hP3 := Lib.hid hP3
  replace k3 := Lib.hid k3
  clear e1 e2 e3
  simp only []
  refine hK.out _ _ hS3 (fun _ => ?_)
  clear hK hS3
  refine wpAnyH_ready (rs := [7]) (by kernel_rfl) (by decide) ?_
  refine AllReadyH.cons rfl (fun K' hK => ?_) AllReadyH.nil
  rw [if_pos (by kernel_rfl)]
  go_wp2_with fail
  refine hK.out _ _ hS4.out (fun _ => ?_)
  clear hK
  refine wpAnyH_done (by kernel_rfl) ?_ _
  go_wp2_with fail
  exact bodyPost_ret (v := .agg #[.iface t p, .int .i32 l]) (results_cell_row rfl _ _ (w.heap.size + 1) 72 #[.iface t p, .int .i32 l] (0, 0) _ (by kernel_rfl) (two_set0 g1.out) (by rw [Try.underlying72]) rfl (by kernel_rfl)) rfl (clo_fin0 g1.out hP3.out (kW.out.trans k3.out) (by omega) (by omega))
end Go.Proofs.Ytdiedidmjpihjaa.Rl
