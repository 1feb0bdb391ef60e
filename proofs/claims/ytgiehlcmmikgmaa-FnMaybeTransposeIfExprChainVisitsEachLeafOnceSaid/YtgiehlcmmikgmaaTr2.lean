/-
  maybeTransposeIfExprChain on a chain: every leaf is moved once, the nodes stay. Condition: at most 4096 nodes.
-/
import Derived.Test.YtgiehlcmmikgmaaTr
namespace Go.Proofs.Ytgiehlcmmikgmaa.Tr
open Go.RowKit Go.ChangeShapes Go.WideShapes Go.ChangeAt Go.Proofs.Ytgiehlcmmikgmaa.Ints

structure Chn.Good (c : Chn) : Prop where
  inj : ∀ i j, i < c.n → j < c.n → c.I i = c.I j → i = j
  rng : ∀ k, k ≤ 16384 → -268435456 ≤ c.lc k ∧ c.lc k ≤ 268435456
  n : c.n ≤ 4096
def Chn.retL (c : Chn) (i : Nat) (l : Int) : Int := if i < c.n then l else l + 1048576
def Chn.Rec (c : Chn) (i : Nat) (l : Int) (w : World) (e : Ending) (w' : World) : Prop :=
  e = .returned (.agg #[c.startV i, .int .i32 (c.retL i l)]) ∧ (∀ j, i ≤ j → j < c.n → c.Node w' j 1048576) ∧ c.Ch i w w'
theorem Chn.Node.of_ch {c : Chn} {i j : Nat} {s : Int} {w w' : World} (hg : c.Good) (h : c.Node w j s) (hc : c.Ch i w w') (hj : j < i) (hjn : j < c.n) : c.Node w' j s :=
  World.rowIs.of_block h (hc.block _ h.lt (fun k h1 h2 e => by have := hg.inj j k hjn h2 e; omega))
theorem Chn.Node.of_below {c : Chn} {j : Nat} {s : Int} {w w' : World} (h : c.Node w j s) (hb : Below w.heap.size w w') : c.Node w' j s := World.rowIs.of_block h (hb.block _ h.lt)
theorem Chn.Node.of_set {c : Chn} {j k B : Nat} {s : Int} {w : World} {v : Value} (h : c.Node w j s) (hne : c.I j ≠ B) : c.Node (w.setCell ⟨B, k, none⟩ v) j s := World.rowIs.of_block h (Go.Deep.blk_setCell_other _ _ _ _ hne)
theorem two_boxes (w : World) (a b : Value) : ((w.alloc (.cells #[a, b] 41)).alloc (.cells #[.nilIface, .int .i32 0] 41)).rowIs (w.heap.size + 1) 41 2 (fun j => (#[.nilIface, .int .i32 0] : Array Value).getD j undef) ∧
    ((w.alloc (.cells #[a, b] 41)).alloc (.cells #[.nilIface, .int .i32 0] 41)).rowIs w.heap.size 41 2 (fun j => (#[a, b] : Array Value).getD j undef) ∧ Below w.heap.size w ((w.alloc (.cells #[a, b] 41)).alloc (.cells #[.nilIface, .int .i32 0] 41)) := by
  refine ⟨?_, ?_, ((Below.refl _ _).alloc (Nat.le_refl _) _).alloc (by simp) _⟩
  · have h := World.rowIs_alloc (w.alloc (.cells #[a, b] 41)) #[.nilIface, .int .i32 0] 41 (fun j => (#[.nilIface, .int .i32 0] : Array Value).getD j undef) (fun i hi => by
      match i, hi with
      | 0, _ | 1, _ => rfl)
    simpa using h
  · exact (World.rowIs_alloc w #[a, b] 41 (fun j => (#[a, b] : Array Value).getD j undef) (fun i hi => by
      match i, hi with
      | 0, _ | 1, _ => rfl)).alloc _
set_option maxRecDepth 100000 in
set_option maxHeartbeats 4000000 in
theorem nodeT (c : Chn) (hg : c.Good) (i : Nat) (hi : i < c.n) (hs : c.sd i = true) (ih : ∀ w l, (-268435456 ≤ l ∧ l ≤ 268435456) → (∀ j, i + 1 ≤ j → j < c.n → c.Node w j 0) → Calls Try.prog 24 #[.pointer none, .agg #[c.startV (i + 1), .int .i32 l], .func (.func 13) #[] #[]] w (c.Rec (i + 1) l w))
    (w : World) (l : Int) (hN : ∀ j, i ≤ j → j < c.n → c.Node w j 0) :
    Calls Try.prog 24 #[.pointer none, .agg #[c.startV i, .int .i32 l], .func (.func 13) #[] #[]] w (c.Rec i l w) := by
  have eS : c.startV i = .iface 94 (.pointer (some ⟨c.I i, 0, none⟩)) := by simp [Chn.startV, hi]
  have a1 := ta_EIf 94 (.pointer (some ⟨c.I i, 0, none⟩))
  rw [if_pos rfl] at a1
  have h0 := hN i (Nat.le_refl _) hi
  rw [eS]
  have hBl := h0.lt
  have hnf : ∀ s, c.cells i s = Chn.nodeF (c.T i) (c.lc (3 * i)) (c.startV (i + 1)) (c.nextL i s) (c.othV i) (c.othL i s) := fun s => by simp [Chn.cells, hs]
  have hrL : c.retL (i + 1) (c.nextL i 0) = c.nextL i 1048576 := by unfold Chn.retL Chn.nextL; split <;> simp
  have hb1 : -268435456 ≤ c.nextL i 0 ∧ c.nextL i 0 ≤ 268435456 := by
    unfold Chn.nextL
    have := hg.n
    split
    · exact hg.rng _ (by omega)
    · have := hg.rng (3 * c.n) (by omega); omega
  have hb2 : -536870912 ≤ c.othL i 0 ∧ c.othL i 0 ≤ 536870912 := by
    unfold Chn.othL
    have := hg.n
    have := hg.rng (3 * i + 1) (by omega); omega
  have hoL : c.othL i 0 + 1048576 = c.othL i 1048576 := by unfold Chn.othL; omega
  obtain ⟨t2, v2, hv2⟩ : ∃ t v, c.startV (i + 1) = .iface t v := by unfold Chn.startV; split <;> exact ⟨_, _, rfl⟩
  have c2 : w.cell? ⟨c.I i, 2, none⟩ = some (.iface t2 v2) := by rw [World.rowIs.cell h0 (i := 2) (by omega), hnf, ← hv2]; rfl
  have c3 : w.cell? ⟨c.I i, 3, none⟩ = some (.int .i32 (c.nextL i 0)) := by rw [World.rowIs.cell h0 (i := 3) (by omega), hnf]; rfl
  have g4 : ∀ w' : World, w'.rowIs (c.I i) 99 6 (c.cells i 0) → w'.cell? ⟨c.I i, 2, none⟩ = some (.iface t2 v2) ∧ w'.cell? ⟨c.I i, 3, none⟩ = some (.int .i32 (c.nextL i 0)) ∧ w'.cell? ⟨c.I i, 4, none⟩ = some (c.othV i) ∧ w'.cell? ⟨c.I i, 5, none⟩ = some (.int .i32 (c.othL i 0)) := fun w' h => by
    rw [hnf] at h
    exact ⟨by rw [← hv2]; exact h.cell (i := 2) (by omega), h.cell (i := 3) (by omega), h.cell (i := 4) (by omega), h.cell (i := 5) (by omega)⟩
  replace g4 := Lib.hid g4
  replace hnf := Lib.hid hnf
  replace hv2 := Lib.hid hv2
  replace hN := Lib.hid hN
  replace ih := Lib.hid ih
  replace hrL := Lib.hid hrL
  replace hoL := Lib.hid hoL
  replace eS := Lib.hid eS
  replace hs := Lib.hid hs
  replace h0 := Lib.hid h0
  generalize hB : c.I i = B at *
  replace hB := Lib.hid hB
  go_enter Try.func24, Try.ntmps24
  go_wp2_with fail
  obtain ⟨hR, hX, hb0⟩ := two_boxes w (.iface 94 (.pointer (some ⟨B, 0, none⟩))) (.int .i32 l)
  generalize ((w.alloc (.cells #[.iface 94 (.pointer (some ⟨B, 0, none⟩)), .int .i32 l] 41)).alloc (.cells #[.nilIface, .int .i32 0] 41)) = w1 at hR hX hb0 ⊢
  have hN1 : ∀ j, i ≤ j → j < c.n → c.Node w1 j 0 := fun j h1 h2 => (hN.out j h1 h2).of_below hb0
  have hIl : Hid (∀ j, i ≤ j → j < c.n → c.I j < w.heap.size) := Lib.hid (fun j h1 h2 => World.rowIs.lt (hN.out j h1 h2))
  rw [← hv2.out]
  refine (ih.out w1 (c.nextL i 0) hb1 (fun j h1 h2 => hN1 j (by omega) h2)).mono ?_
  rintro e w2 ⟨rfl, hN2, hC2⟩
  rw [hrL.out, hv2.out]
  have hRl := hR.lt
  have hneR : Hid (∀ j, i ≤ j → j < c.n → w.heap.size + 1 ≠ c.I j ∧ w.heap.size ≠ c.I j) := Lib.hid (fun j h1 h2 => by have := hIl.out j h1 h2; omega)
  have hR2 := Lib.hid (hR.of_block (w' := w2) (hC2.block _ hRl (fun j h1 h2 => (hneR.out j (by omega) h2).1)))
  have hX2 := Lib.hid (hX.of_block (w' := w2) (hC2.block _ hX.lt (fun j h1 h2 => (hneR.out j (by omega) h2).2)))
  have hB2 : Hid (w2.rowIs B 99 6 (c.cells i 0)) := Lib.hid (by have h := (hN1 i (Nat.le_refl _) hi).of_ch hg hC2 (by omega) hi; unfold Chn.Node at h; rw [hB.out] at h; exact h)
  have hCh2 : Hid (c.Ch i w w2) := Lib.hid ((Chn.Ch.below hb0).trans (hC2.mono (by omega)))
  have hNd2 : Hid (∀ j, i + 1 ≤ j → j < c.n → c.Node w2 j 1048576) := Lib.hid hN2
  clear hR hX hN1 hN2 hC2 hRl c2 c3
  obtain ⟨k2, k3, k4, k5⟩ := g4.out w2 hB2.out
  have fB := hB2.out.frozen
  have fB2 := fB 2
  have fB3 := fB 3
  clear fB
  go_wp2_with fail
  have hB3 := (hB2.out.set 2 (.iface t2 v2)).set 3 (.int .i32 (c.nextL i 1048576))
  have hneB : Hid (w.heap.size + 1 ≠ B ∧ w.heap.size ≠ B) := Lib.hid (by omega)
  have hR3 := Lib.hid ((hR2.out.of_block (w' := w2.setCell ⟨B, 2, none⟩ (.iface t2 v2)) (Go.Deep.blk_setCell_other _ _ _ _ hneB.out.1)).of_block (w' := (w2.setCell ⟨B, 2, none⟩ (.iface t2 v2)).setCell ⟨B, 3, none⟩ (.int .i32 (c.nextL i 1048576))) (Go.Deep.blk_setCell_other _ _ _ _ hneB.out.1))
  have hX3 := Lib.hid ((hX2.out.of_block (w' := w2.setCell ⟨B, 2, none⟩ (.iface t2 v2)) (Go.Deep.blk_setCell_other _ _ _ _ hneB.out.2)).of_block (w' := (w2.setCell ⟨B, 2, none⟩ (.iface t2 v2)).setCell ⟨B, 3, none⟩ (.int .i32 (c.nextL i 1048576))) (Go.Deep.blk_setCell_other _ _ _ _ hneB.out.2))
  have hCh3 : Hid (c.Ch i w ((w2.setCell ⟨B, 2, none⟩ (.iface t2 v2)).setCell ⟨B, 3, none⟩ (.int .i32 (c.nextL i 1048576)))) := Lib.hid (by
    have h := (hCh2.out.trans (Chn.Ch.set (w := w2) hi 2 (.iface t2 v2))).trans (Chn.Ch.set hi 3 (.int .i32 (c.nextL i 1048576)))
    rw [hB.out] at h; exact h)
  have hneN : Hid (∀ j, i + 1 ≤ j → j < c.n → c.I j ≠ B) := Lib.hid (fun j h1 h2 e => by rw [← hB.out] at e; have := hg.inj j i h2 hi e; omega)
  have hNd3 : Hid (∀ j, i + 1 ≤ j → j < c.n → c.Node ((w2.setCell ⟨B, 2, none⟩ (.iface t2 v2)).setCell ⟨B, 3, none⟩ (.int .i32 (c.nextL i 1048576))) j 1048576) := Lib.hid (fun j h1 h2 => ((hNd2.out j h1 h2).of_set (hneN.out j h1 h2)).of_set (hneN.out j h1 h2))
  clear hB2 hR2 hX2 hCh2 hNd2 k2 k3 k4 k5 fB2 fB3
  generalize ((w2.setCell ⟨B, 2, none⟩ (.iface t2 v2)).setCell ⟨B, 3, none⟩ (.int .i32 (c.nextL i 1048576))) = w3 at hB3 hR3 hX3 hCh3 hNd3 ⊢
  refine (leaf (c.O i) (c.othL i 0) hb2 w3).mono ?_
  rintro e w4 ⟨rfl, hb4⟩
  rw [hoL.out]
  have hB4 := hB3.of_block (w' := w4) (hb4.block _ hB3.lt)
  have hR4 := hR3.out.of_block (w' := w4) (hb4.block _ hR3.out.lt)
  have hX4 := hX3.out.of_block (w' := w4) (hb4.block _ hX3.out.lt)
  have hCh4 : Hid (c.Ch i w w4) := Lib.hid (hCh3.out.trans (Chn.Ch.below hb4))
  have hNd4 : Hid (∀ j, i + 1 ≤ j → j < c.n → c.Node w4 j 1048576) := Lib.hid (fun j h1 h2 => (hNd3.out j h1 h2).of_below hb4)
  clear hB3 hR3 hX3 hCh3 hNd3 hb4
  have q4 := hB4.cell (i := 4) (by omega)
  have q5 := hB4.cell (i := 5) (by omega)
  have p4 := hB4.frozen 4
  have p5 := hB4.frozen 5
  have r0 : w4.cell? ⟨w.heap.size + 1, 0, none⟩ = some .nilIface := hR4.cell (i := 0) (by omega)
  have r1 : w4.cell? ⟨w.heap.size + 1, 1, none⟩ = some (.int .i32 0) := hR4.cell (i := 1) (by omega)
  have f0 := hR4.frozen 0
  have f1 := hR4.frozen 1
  have x0 : w4.cell? ⟨w.heap.size, 0, none⟩ = some (.iface 94 (.pointer (some ⟨B, 0, none⟩))) := hX4.cell (i := 0) (by omega)
  have x1 : w4.cell? ⟨w.heap.size, 1, none⟩ = some (.int .i32 l) := hX4.cell (i := 1) (by omega)
  replace hB4 := Lib.hid hB4
  replace hR4 := Lib.hid hR4
  replace hX4 := Lib.hid hX4
  have n1 : ¬ w.heap.size + 1 = B := hneB.out.1
  have n2 : ¬ w.heap.size = B := hneB.out.2
  have n3 : ¬ B = w.heap.size + 1 := fun h => n1 h.symm
  have n4 : ¬ B = w.heap.size := fun h => n2 h.symm
  go_wp2_with fail
  have hW : c.Ch i w ((w4.setCell ⟨B, 4, none⟩ (c.othV i)).setCell ⟨B, 5, none⟩ (.int .i32 (c.othL i 1048576))) := by
    have h := (hCh4.out.trans (Chn.Ch.set (w := w4) hi 4 (c.othV i))).trans (Chn.Ch.set hi 5 (.int .i32 (c.othL i 1048576)))
    rw [hB.out] at h; exact h
  have hBz := (hB4.out.set 4 (c.othV i)).set 5 (.int .i32 (c.othL i 1048576))
  have hRz := (hR4.out.of_block (w' := w4.setCell ⟨B, 4, none⟩ (c.othV i)) (Go.Deep.blk_setCell_other _ _ _ _ n1)).of_block (w' := (w4.setCell ⟨B, 4, none⟩ (c.othV i)).setCell ⟨B, 5, none⟩ (.int .i32 (c.othL i 1048576))) (Go.Deep.blk_setCell_other _ _ _ _ n1)
  have hRf := (hRz.set 0 (.iface 94 (.pointer (some ⟨B, 0, none⟩)))).set 1 (.int .i32 l)
  have z0 := hRf.cell (i := 0) (by omega)
  have z1 := hRf.cell (i := 1) (by omega)
  have hBf := (hBz.of_block (w' := ((w4.setCell ⟨B, 4, none⟩ (c.othV i)).setCell ⟨B, 5, none⟩ (.int .i32 (c.othL i 1048576))).setCell ⟨w.heap.size + 1, 0, none⟩ (.iface 94 (.pointer (some ⟨B, 0, none⟩)))) (Go.Deep.blk_setCell_other _ _ _ _ n3)).of_block (w' := (((w4.setCell ⟨B, 4, none⟩ (c.othV i)).setCell ⟨B, 5, none⟩ (.int .i32 (c.othL i 1048576))).setCell ⟨w.heap.size + 1, 0, none⟩ (.iface 94 (.pointer (some ⟨B, 0, none⟩)))).setCell ⟨w.heap.size + 1, 1, none⟩ (.int .i32 l)) (Go.Deep.blk_setCell_other _ _ _ _ n3)
  have e1 : Ending.returned (.agg #[.iface 94 (.pointer (some ⟨B, 0, none⟩)), .int .i32 l]) = .returned (.agg #[c.startV i, .int .i32 (c.retL i l)]) := by
    rw [eS.out, show c.retL i l = l by simp [Chn.retL, hi]]
  refine bodyPost_ret (v := .agg #[.iface 94 (.pointer (some ⟨B, 0, none⟩)), .int .i32 l]) ?_ rfl ⟨e1, fun j h1 h2 => ?_, (hW.setNew (Nat.le_succ _) 0 _).setNew (Nat.le_succ _) 1 _⟩
  · simp [results, Try.results24, go_sem, r0, r1, n1, n3]
  · by_cases hj : j = i
    · subst hj
      show World.rowIs _ (c.I j) 99 6 (c.cells j 1048576)
      rw [hB.out, hnf.out]
      refine hBf.congr fun k hk => ?_
      rw [hnf.out]
      match k, hk with
      | 0, _ | 1, _ | 2, _ | 3, _ | 4, _ | 5, _ => first | rfl | exact hv2.out.symm
    · have hne := hneN.out j (by omega) h2
      have hneR2 : c.I j ≠ w.heap.size + 1 := fun e => (hneR.out j h1 h2).1 e.symm
      exact ((((hNd4.out j (by omega) h2).of_set hne).of_set hne).of_set hneR2).of_set hneR2
set_option maxRecDepth 100000 in
set_option maxHeartbeats 4000000 in
theorem nodeF (c : Chn) (hg : c.Good) (i : Nat) (hi : i < c.n) (hs : c.sd i = false) (ih : ∀ w l, (-268435456 ≤ l ∧ l ≤ 268435456) → (∀ j, i + 1 ≤ j → j < c.n → c.Node w j 0) → Calls Try.prog 24 #[.pointer none, .agg #[c.startV (i + 1), .int .i32 l], .func (.func 13) #[] #[]] w (c.Rec (i + 1) l w))
    (w : World) (l : Int) (hN : ∀ j, i ≤ j → j < c.n → c.Node w j 0) :
    Calls Try.prog 24 #[.pointer none, .agg #[c.startV i, .int .i32 l], .func (.func 13) #[] #[]] w (c.Rec i l w) := by
  have eS : c.startV i = .iface 94 (.pointer (some ⟨c.I i, 0, none⟩)) := by simp [Chn.startV, hi]
  have a1 := ta_EIf 94 (.pointer (some ⟨c.I i, 0, none⟩))
  rw [if_pos rfl] at a1
  have h0 := hN i (Nat.le_refl _) hi
  rw [eS]
  have hBl := h0.lt
  have hnf : ∀ s, c.cells i s = Chn.nodeF (c.T i) (c.lc (3 * i)) (c.othV i) (c.othL i s) (c.startV (i + 1)) (c.nextL i s) := fun s => by simp [Chn.cells, hs]
  have hrL : c.retL (i + 1) (c.nextL i 0) = c.nextL i 1048576 := by unfold Chn.retL Chn.nextL; split <;> simp
  have hb1 : -268435456 ≤ c.nextL i 0 ∧ c.nextL i 0 ≤ 268435456 := by
    unfold Chn.nextL
    have := hg.n
    split
    · exact hg.rng _ (by omega)
    · have := hg.rng (3 * c.n) (by omega); omega
  have hb2 : -536870912 ≤ c.othL i 0 ∧ c.othL i 0 ≤ 536870912 := by
    unfold Chn.othL
    have := hg.n
    have := hg.rng (3 * i + 1) (by omega); omega
  have hoL : c.othL i 0 + 1048576 = c.othL i 1048576 := by unfold Chn.othL; omega
  obtain ⟨t2, v2, hv2⟩ : ∃ t v, c.startV (i + 1) = .iface t v := by unfold Chn.startV; split <;> exact ⟨_, _, rfl⟩
  have c2 : w.cell? ⟨c.I i, 2, none⟩ = some (c.othV i) := by rw [World.rowIs.cell h0 (i := 2) (by omega), hnf]; rfl
  have c3 : w.cell? ⟨c.I i, 3, none⟩ = some (.int .i32 (c.othL i 0)) := by rw [World.rowIs.cell h0 (i := 3) (by omega), hnf]; rfl
  have g4 : ∀ w' : World, w'.rowIs (c.I i) 99 6 (c.cells i 0) → w'.cell? ⟨c.I i, 2, none⟩ = some (c.othV i) ∧ w'.cell? ⟨c.I i, 3, none⟩ = some (.int .i32 (c.othL i 0)) ∧ w'.cell? ⟨c.I i, 4, none⟩ = some (.iface t2 v2) ∧ w'.cell? ⟨c.I i, 5, none⟩ = some (.int .i32 (c.nextL i 0)) := fun w' h => by
    rw [hnf] at h
    exact ⟨h.cell (i := 2) (by omega), h.cell (i := 3) (by omega), by rw [← hv2]; exact h.cell (i := 4) (by omega), h.cell (i := 5) (by omega)⟩
  replace g4 := Lib.hid g4
  replace hnf := Lib.hid hnf
  replace hv2 := Lib.hid hv2
  replace hN := Lib.hid hN
  replace ih := Lib.hid ih
  replace hrL := Lib.hid hrL
  replace hoL := Lib.hid hoL
  replace eS := Lib.hid eS
  replace hs := Lib.hid hs
  replace h0 := Lib.hid h0
  generalize hB : c.I i = B at *
  replace hB := Lib.hid hB
  go_enter Try.func24, Try.ntmps24
  go_wp2_with fail
  obtain ⟨hR, hX, hb0⟩ := two_boxes w (.iface 94 (.pointer (some ⟨B, 0, none⟩))) (.int .i32 l)
  generalize ((w.alloc (.cells #[.iface 94 (.pointer (some ⟨B, 0, none⟩)), .int .i32 l] 41)).alloc (.cells #[.nilIface, .int .i32 0] 41)) = w1 at hR hX hb0 ⊢
  have hN1 : ∀ j, i ≤ j → j < c.n → c.Node w1 j 0 := fun j h1 h2 => (hN.out j h1 h2).of_below hb0
  have hIl : Hid (∀ j, i ≤ j → j < c.n → c.I j < w.heap.size) := Lib.hid (fun j h1 h2 => World.rowIs.lt (hN.out j h1 h2))
  refine (leaf (c.O i) (c.othL i 0) hb2 w1).mono ?_
  rintro e w2 ⟨rfl, hb4⟩
  rw [hoL.out]
  have hneR : Hid (∀ j, i ≤ j → j < c.n → w.heap.size + 1 ≠ c.I j ∧ w.heap.size ≠ c.I j) := Lib.hid (fun j h1 h2 => by have := hIl.out j h1 h2; omega)
  have hR2 := Lib.hid (hR.of_block (w' := w2) (hb4.block _ hR.lt))
  have hX2 := Lib.hid (hX.of_block (w' := w2) (hb4.block _ hX.lt))
  have hB2 : Hid (w2.rowIs B 99 6 (c.cells i 0)) := Lib.hid (by have h := (hN1 i (Nat.le_refl _) hi).of_below hb4; unfold Chn.Node at h; rw [hB.out] at h; exact h)
  have hCh2 : Hid (c.Ch i w w2) := Lib.hid ((Chn.Ch.below hb0).trans (Chn.Ch.below hb4))
  have hNd2 : Hid (∀ j, i + 1 ≤ j → j < c.n → c.Node w2 j 0) := Lib.hid (fun j h1 h2 => (hN1 j (by omega) h2).of_below hb4)
  clear hR hX hN1 hb4 c2 c3
  obtain ⟨k2, k3, k4, k5⟩ := g4.out w2 hB2.out
  have fB := hB2.out.frozen
  have fB2 := fB 2
  have fB3 := fB 3
  clear fB
  go_wp2_with fail
  have hB3 := (hB2.out.set 2 (.iface 90 (.pointer (some ⟨c.O i, 0, none⟩)))).set 3 (.int .i32 (c.othL i 1048576))
  have hneB : Hid (w.heap.size + 1 ≠ B ∧ w.heap.size ≠ B) := Lib.hid (by omega)
  have hR3 := Lib.hid ((hR2.out.of_block (w' := w2.setCell ⟨B, 2, none⟩ (.iface 90 (.pointer (some ⟨c.O i, 0, none⟩)))) (Go.Deep.blk_setCell_other _ _ _ _ hneB.out.1)).of_block (w' := (w2.setCell ⟨B, 2, none⟩ (.iface 90 (.pointer (some ⟨c.O i, 0, none⟩)))).setCell ⟨B, 3, none⟩ (.int .i32 (c.othL i 1048576))) (Go.Deep.blk_setCell_other _ _ _ _ hneB.out.1))
  have hX3 := Lib.hid ((hX2.out.of_block (w' := w2.setCell ⟨B, 2, none⟩ (.iface 90 (.pointer (some ⟨c.O i, 0, none⟩)))) (Go.Deep.blk_setCell_other _ _ _ _ hneB.out.2)).of_block (w' := (w2.setCell ⟨B, 2, none⟩ (.iface 90 (.pointer (some ⟨c.O i, 0, none⟩)))).setCell ⟨B, 3, none⟩ (.int .i32 (c.othL i 1048576))) (Go.Deep.blk_setCell_other _ _ _ _ hneB.out.2))
  have hCh3 : Hid (c.Ch i w ((w2.setCell ⟨B, 2, none⟩ (.iface 90 (.pointer (some ⟨c.O i, 0, none⟩)))).setCell ⟨B, 3, none⟩ (.int .i32 (c.othL i 1048576)))) := Lib.hid (by
    have h := (hCh2.out.trans (Chn.Ch.set (w := w2) hi 2 (c.othV i))).trans (Chn.Ch.set hi 3 (.int .i32 (c.othL i 1048576)))
    rw [hB.out] at h; exact h)
  have hneN : Hid (∀ j, i + 1 ≤ j → j < c.n → c.I j ≠ B) := Lib.hid (fun j h1 h2 e => by rw [← hB.out] at e; have := hg.inj j i h2 hi e; omega)
  have hNd3 : Hid (∀ j, i + 1 ≤ j → j < c.n → c.Node ((w2.setCell ⟨B, 2, none⟩ (.iface 90 (.pointer (some ⟨c.O i, 0, none⟩)))).setCell ⟨B, 3, none⟩ (.int .i32 (c.othL i 1048576))) j 0) := Lib.hid (fun j h1 h2 => ((hNd2.out j h1 h2).of_set (hneN.out j h1 h2)).of_set (hneN.out j h1 h2))
  clear hB2 hR2 hX2 hCh2 hNd2 k2 k3 k4 k5 fB2 fB3
  generalize ((w2.setCell ⟨B, 2, none⟩ (.iface 90 (.pointer (some ⟨c.O i, 0, none⟩)))).setCell ⟨B, 3, none⟩ (.int .i32 (c.othL i 1048576))) = w3 at hB3 hR3 hX3 hCh3 hNd3 ⊢
  rw [← hv2.out]
  refine (ih.out w3 (c.nextL i 0) hb1 (fun j h1 h2 => hNd3.out j h1 h2)).mono ?_
  rintro e w4 ⟨rfl, hN4, hC4⟩
  rw [hrL.out, hv2.out]
  have hB4 := hB3.of_block (w' := w4) (hC4.block _ hB3.lt (fun j h1 h2 e => hneN.out j h1 h2 e.symm))
  have hR4 := hR3.out.of_block (w' := w4) (hC4.block _ hR3.out.lt (fun j h1 h2 => (hneR.out j (by omega) h2).1))
  have hX4 := hX3.out.of_block (w' := w4) (hC4.block _ hX3.out.lt (fun j h1 h2 => (hneR.out j (by omega) h2).2))
  have hCh4 : Hid (c.Ch i w w4) := Lib.hid (hCh3.out.trans (hC4.mono (by omega)))
  have hNd4 : Hid (∀ j, i + 1 ≤ j → j < c.n → c.Node w4 j 1048576) := Lib.hid hN4
  clear hB3 hR3 hX3 hCh3 hNd3 hN4 hC4
  have q4 := hB4.cell (i := 4) (by omega)
  have q5 := hB4.cell (i := 5) (by omega)
  have p4 := hB4.frozen 4
  have p5 := hB4.frozen 5
  have r0 : w4.cell? ⟨w.heap.size + 1, 0, none⟩ = some .nilIface := hR4.cell (i := 0) (by omega)
  have r1 : w4.cell? ⟨w.heap.size + 1, 1, none⟩ = some (.int .i32 0) := hR4.cell (i := 1) (by omega)
  have f0 := hR4.frozen 0
  have f1 := hR4.frozen 1
  have x0 : w4.cell? ⟨w.heap.size, 0, none⟩ = some (.iface 94 (.pointer (some ⟨B, 0, none⟩))) := hX4.cell (i := 0) (by omega)
  have x1 : w4.cell? ⟨w.heap.size, 1, none⟩ = some (.int .i32 l) := hX4.cell (i := 1) (by omega)
  replace hB4 := Lib.hid hB4
  replace hR4 := Lib.hid hR4
  replace hX4 := Lib.hid hX4
  have n1 : ¬ w.heap.size + 1 = B := hneB.out.1
  have n2 : ¬ w.heap.size = B := hneB.out.2
  have n3 : ¬ B = w.heap.size + 1 := fun h => n1 h.symm
  have n4 : ¬ B = w.heap.size := fun h => n2 h.symm
  go_wp2_with fail
  have hW : c.Ch i w ((w4.setCell ⟨B, 4, none⟩ (.iface t2 v2)).setCell ⟨B, 5, none⟩ (.int .i32 (c.nextL i 1048576))) := by
    have h := (hCh4.out.trans (Chn.Ch.set (w := w4) hi 4 (.iface t2 v2))).trans (Chn.Ch.set hi 5 (.int .i32 (c.nextL i 1048576)))
    rw [hB.out] at h; exact h
  have hBz := (hB4.out.set 4 (.iface t2 v2)).set 5 (.int .i32 (c.nextL i 1048576))
  have hRz := (hR4.out.of_block (w' := w4.setCell ⟨B, 4, none⟩ (.iface t2 v2)) (Go.Deep.blk_setCell_other _ _ _ _ n1)).of_block (w' := (w4.setCell ⟨B, 4, none⟩ (.iface t2 v2)).setCell ⟨B, 5, none⟩ (.int .i32 (c.nextL i 1048576))) (Go.Deep.blk_setCell_other _ _ _ _ n1)
  have hRf := (hRz.set 0 (.iface 94 (.pointer (some ⟨B, 0, none⟩)))).set 1 (.int .i32 l)
  have z0 := hRf.cell (i := 0) (by omega)
  have z1 := hRf.cell (i := 1) (by omega)
  have hBf := (hBz.of_block (w' := ((w4.setCell ⟨B, 4, none⟩ (.iface t2 v2)).setCell ⟨B, 5, none⟩ (.int .i32 (c.nextL i 1048576))).setCell ⟨w.heap.size + 1, 0, none⟩ (.iface 94 (.pointer (some ⟨B, 0, none⟩)))) (Go.Deep.blk_setCell_other _ _ _ _ n3)).of_block (w' := (((w4.setCell ⟨B, 4, none⟩ (.iface t2 v2)).setCell ⟨B, 5, none⟩ (.int .i32 (c.nextL i 1048576))).setCell ⟨w.heap.size + 1, 0, none⟩ (.iface 94 (.pointer (some ⟨B, 0, none⟩)))).setCell ⟨w.heap.size + 1, 1, none⟩ (.int .i32 l)) (Go.Deep.blk_setCell_other _ _ _ _ n3)
  have e1 : Ending.returned (.agg #[.iface 94 (.pointer (some ⟨B, 0, none⟩)), .int .i32 l]) = .returned (.agg #[c.startV i, .int .i32 (c.retL i l)]) := by
    rw [eS.out, show c.retL i l = l by simp [Chn.retL, hi]]
  refine bodyPost_ret (v := .agg #[.iface 94 (.pointer (some ⟨B, 0, none⟩)), .int .i32 l]) ?_ rfl ⟨e1, fun j h1 h2 => ?_, (hW.setNew (Nat.le_succ _) 0 _).setNew (Nat.le_succ _) 1 _⟩
  · simp [results, Try.results24, go_sem, r0, r1, n1, n3]
  · by_cases hj : j = i
    · subst hj
      show World.rowIs _ (c.I j) 99 6 (c.cells j 1048576)
      rw [hB.out, hnf.out]
      refine hBf.congr fun k hk => ?_
      rw [hnf.out]
      match k, hk with
      | 0, _ | 1, _ | 2, _ | 3, _ | 4, _ | 5, _ => first | rfl | exact hv2.out.symm
    · have hne := hneN.out j (by omega) h2
      have hneR2 : c.I j ≠ w.heap.size + 1 := fun e => (hneR.out j h1 h2).1 e.symm
      exact ((((hNd4.out j (by omega) h2).of_set hne).of_set hne).of_set hneR2).of_set hneR2
/-- The whole chain from node i on. -/
theorem rec (c : Chn) (hg : c.Good) : ∀ (k i : Nat) (w : World) (l : Int), i + k = c.n → (-268435456 ≤ l ∧ l ≤ 268435456) → (∀ j, i ≤ j → j < c.n → c.Node w j 0) →
    Calls Try.prog 24 #[.pointer none, .agg #[c.startV i, .int .i32 l], .func (.func 13) #[] #[]] w (c.Rec i l w)
  | 0, i, w, l, hk, hl, hN => by
    have e1 : c.startV i = .iface 90 (.pointer (some ⟨c.Z, 0, none⟩)) := by simp [Chn.startV, show ¬ i < c.n by omega]
    rw [e1]
    refine (leaf c.Z l (by omega) w).mono ?_
    rintro e w' ⟨rfl, hb⟩
    refine ⟨?_, fun j h1 h2 => by omega, Chn.Ch.below hb⟩
    rw [e1, show c.retL i l = l + 1048576 by simp [Chn.retL, show ¬ i < c.n by omega]]
  | k + 1, i, w, l, hk, hl, hN => by
    have hi : i < c.n := by omega
    have ih : ∀ w l, (-268435456 ≤ l ∧ l ≤ 268435456) → (∀ j, i + 1 ≤ j → j < c.n → c.Node w j 0) → Calls Try.prog 24 #[.pointer none, .agg #[c.startV (i + 1), .int .i32 l], .func (.func 13) #[] #[]] w (c.Rec (i + 1) l w) :=
      fun w' l' h1 h2 => rec c hg k (i + 1) w' l' (by omega) h1 h2
    cases hs : c.sd i with
    | true => exact nodeT c hg i hi hs ih w l hN
    | false => exact nodeF c hg i hi hs ih w l hN
end Go.Proofs.Ytgiehlcmmikgmaa.Tr
