/-
  SortableMsgs: Len, Less and Swap at two messages. Condition: located errors.
-/
import Derived.Test.YtcijcifhdakhoaaFmtEx4
import Derived.Handy
import Derived.RegionTactic
import Derived.BigRegion
import Derived.ChangeAlike
import Derived.WalkSpells
namespace Go.Proofs.YtcijcifhdakhoaaFmt.Ex
open Go.RowKit Go.Lib Go.Proofs.YtcijcifhdakhoaaFmt.Ints Go.Proofs.YtcijcifhdakhoaaFmt.Lg

def two (q0 : Nat) (x0 : ByteArray) (q1 : Nat) (x1 : ByteArray) (i : Nat) : Value := ((mcells none 0 0 (some ⟨q0, 0, none⟩) x0 0 0 ++ mcells none 0 0 (some ⟨q1, 0, none⟩) x1 0 0)[i]?).getD undef
/-- Two located errors at block g. -/
structure Two (g N q0 k0 q1 k1 : Nat) (x0 x1 : ByteArray) (w : World) : Prop where
  row : ∃ F, w.rowIs g 175 N F ∧ 16 ≤ N ∧ ∀ i, i < 16 → F i = two q0 x0 q1 x1 i
  h0 : IsLoc q0 k0 w
  h1 : IsLoc q1 k1 w
theorem Two.cell {g N q0 k0 q1 k1 : Nat} {x0 x1 : ByteArray} {w : World} (h : Two g N q0 k0 q1 k1 x0 x1 w) (i : Nat) (hi : i < 16) : w.cell? ⟨g, i, none⟩ = some (two q0 x0 q1 x1 i) := by
  obtain ⟨F, hR, hN, hF⟩ := h.row
  rw [← hF i hi]
  exact hR.cell (by omega)
theorem Two.frozen {g N q0 k0 q1 k1 : Nat} {x0 x1 : ByteArray} {w : World} (h : Two g N q0 k0 q1 k1 x0 x1 w) (i : Nat) : w.frozen? ⟨g, i, none⟩ = false := by
  obtain ⟨F, hR, hN, hF⟩ := h.row
  exact hR.frozen i
theorem Two.below {g N q0 k0 q1 k1 : Nat} {x0 x1 : ByteArray} {w w1 : World} (h : Two g N q0 k0 q1 k1 x0 x1 w) (hb : Below w.heap.size w w1) : Two g N q0 k0 q1 k1 x0 x1 w1 := by
  obtain ⟨F, hR, hN, hF⟩ := h.row
  exact ⟨⟨F, hR.of_block (hb.block _ hR.lt), hN, hF⟩, h.h0.below hb, h.h1.below hb⟩
/-- Only block g has turned. -/
structure Kg (B g : Nat) (w w' : World) : Prop where
  bel : Below B w w'
  blk : ∀ b, b < w.heap.size → b ≠ g → w'.heap[b]? = w.heap[b]?
theorem IsLoc.ne {q k g N : Nat} {F : Nat → Value} {w : World} (h : IsLoc q k w) (hR : w.rowIs g 175 N F) : q ≠ g := by
  obtain ⟨x, a, c, hq⟩ := h
  obtain ⟨c', hg, _, _⟩ := hR
  exact ne_of_ty hq hg (by decide)
theorem msgsLen (a : Option Addr) (n c : Nat) (w : World) : Calls Tryf.prog 96 #[.slice a n c] w fun y w' => y = .returned (.int .i64 (n : Nat)) ∧ w' = w := by
  go_enter Tryf.func96, Tryf.ntmps96
  go_wp2
  go_ret
  exact ⟨rfl, rfl⟩

theorem swapped {B g N q0 k0 q1 k1 : Nat} {x0 x1 : ByteArray} {w : World} (h : Two g N q0 k0 q1 k1 x0 x1 w) (hB : B ≤ g) : Two g N q1 k1 q0 k0 x1 x0 ((((((((((((((((((((((((((((((((w).setCell ⟨g, 8, none⟩ (.slice none 0 0))).setCell ⟨g, 9, none⟩ (.string ⟨#[]⟩))).setCell ⟨g, 10, none⟩ .nilIface)).setCell ⟨g, 11, none⟩ (.pointer (some ⟨q0, 0, none⟩)))).setCell ⟨g, 12, none⟩ (.string x0))).setCell ⟨g, 13, none⟩ (.bool false))).setCell ⟨g, 14, none⟩ (.int .u8 0))).setCell ⟨g, 15, none⟩ (.int .u8 0))).setCell ⟨g, 0, none⟩ (.slice none 0 0))).setCell ⟨g, 1, none⟩ (.string ⟨#[]⟩))).setCell ⟨g, 2, none⟩ .nilIface)).setCell ⟨g, 3, none⟩ (.pointer (some ⟨q1, 0, none⟩)))).setCell ⟨g, 4, none⟩ (.string x1))).setCell ⟨g, 5, none⟩ (.bool false))).setCell ⟨g, 6, none⟩ (.int .u8 0))).setCell ⟨g, 7, none⟩ (.int .u8 0)) ∧ Kg B g w ((((((((((((((((((((((((((((((((w).setCell ⟨g, 8, none⟩ (.slice none 0 0))).setCell ⟨g, 9, none⟩ (.string ⟨#[]⟩))).setCell ⟨g, 10, none⟩ .nilIface)).setCell ⟨g, 11, none⟩ (.pointer (some ⟨q0, 0, none⟩)))).setCell ⟨g, 12, none⟩ (.string x0))).setCell ⟨g, 13, none⟩ (.bool false))).setCell ⟨g, 14, none⟩ (.int .u8 0))).setCell ⟨g, 15, none⟩ (.int .u8 0))).setCell ⟨g, 0, none⟩ (.slice none 0 0))).setCell ⟨g, 1, none⟩ (.string ⟨#[]⟩))).setCell ⟨g, 2, none⟩ .nilIface)).setCell ⟨g, 3, none⟩ (.pointer (some ⟨q1, 0, none⟩)))).setCell ⟨g, 4, none⟩ (.string x1))).setCell ⟨g, 5, none⟩ (.bool false))).setCell ⟨g, 6, none⟩ (.int .u8 0))).setCell ⟨g, 7, none⟩ (.int .u8 0)) := by
  obtain ⟨F, hR, hN, hF⟩ := h.row
  have hk : ∀ b, b ≠ g → (((((((((((((((((((((((((((((((((w).setCell ⟨g, 8, none⟩ (.slice none 0 0))).setCell ⟨g, 9, none⟩ (.string ⟨#[]⟩))).setCell ⟨g, 10, none⟩ .nilIface)).setCell ⟨g, 11, none⟩ (.pointer (some ⟨q0, 0, none⟩)))).setCell ⟨g, 12, none⟩ (.string x0))).setCell ⟨g, 13, none⟩ (.bool false))).setCell ⟨g, 14, none⟩ (.int .u8 0))).setCell ⟨g, 15, none⟩ (.int .u8 0))).setCell ⟨g, 0, none⟩ (.slice none 0 0))).setCell ⟨g, 1, none⟩ (.string ⟨#[]⟩))).setCell ⟨g, 2, none⟩ .nilIface)).setCell ⟨g, 3, none⟩ (.pointer (some ⟨q1, 0, none⟩)))).setCell ⟨g, 4, none⟩ (.string x1))).setCell ⟨g, 5, none⟩ (.bool false))).setCell ⟨g, 6, none⟩ (.int .u8 0))).setCell ⟨g, 7, none⟩ (.int .u8 0))).heap[b]? = w.heap[b]? := fun b hb => by
    repeat rw [Go.Deep.blk_setCell_other _ _ _ _ hb]
  have n0 := IsLoc.ne h.h0 hR
  have n1 := IsLoc.ne h.h1 hR
  refine ⟨⟨⟨_, ((((((((((((((((hR.set 8 (.slice none 0 0)).set 9 (.string ⟨#[]⟩)).set 10 .nilIface).set 11 (.pointer (some ⟨q0, 0, none⟩))).set 12 (.string x0)).set 13 (.bool false)).set 14 (.int .u8 0)).set 15 (.int .u8 0)).set 0 (.slice none 0 0)).set 1 (.string ⟨#[]⟩)).set 2 .nilIface).set 3 (.pointer (some ⟨q1, 0, none⟩))).set 4 (.string x1)).set 5 (.bool false)).set 6 (.int .u8 0)).set 7 (.int .u8 0)), hN, fun i hi => ?_⟩, ?_, ?_⟩, ?_, fun b _ hb => hk b hb⟩
  · match i, hi with
    | 0, _ => rfl | 1, _ => rfl | 2, _ => rfl | 3, _ => rfl | 4, _ => rfl | 5, _ => rfl | 6, _ => rfl | 7, _ => rfl
    | 8, _ => rfl | 9, _ => rfl | 10, _ => rfl | 11, _ => rfl | 12, _ => rfl | 13, _ => rfl | 14, _ => rfl | 15, _ => rfl
    | n + 16, hn => exact absurd hn (by omega)
  · obtain ⟨x, a, c, hq⟩ := h.h1
    exact ⟨x, a, c, (hk _ n1).trans hq⟩
  · obtain ⟨x, a, c, hq⟩ := h.h0
    exact ⟨x, a, c, (hk _ n0).trans hq⟩
  · iterate 16 (refine Below.setCell ?_ hB _)
    exact Below.refl _ _
def Swd (B g N q0 k0 q1 k1 : Nat) (x0 x1 : ByteArray) (w : World) (y : Ending) (w' : World) : Prop := y = .returned (.tuple #[]) ∧ Two g N q1 k1 q0 k0 x1 x0 w' ∧ Kg B g w w'
theorem swd_of {B g N q0 k0 q1 k1 : Nat} {x0 x1 : ByteArray} {w W : World} (h : Two g N q1 k1 q0 k0 x1 x0 W ∧ Kg B g w W) : Swd B g N q0 k0 q1 k1 x0 x1 w (.returned (.tuple #[])) W.drew :=
  ⟨rfl, h.1.below (Below.refl _ _).drew, h.2.bel.drew, h.2.blk⟩
set_option maxRecDepth 100000 in
set_option maxHeartbeats 4000000 in
theorem msgsSwap (B g N q0 k0 q1 k1 c : Nat) (x0 x1 : ByteArray) (w : World) (h : Two g N q0 k0 q1 k1 x0 x1 w) (hB : B ≤ g) :
    Calls Tryf.prog 98 #[.slice (some ⟨g, 0, none⟩) 2 c, .int .i64 1, .int .i64 0] w (Swd B g N q0 k0 q1 k1 x0 x1 w) := by
  have c0 : w.cell? ⟨g, 0, none⟩ = some (.slice none 0 0) := h.cell 0 (by omega)
  have f0 := h.frozen 0
  have c1 : w.cell? ⟨g, 1, none⟩ = some (.string ⟨#[]⟩) := h.cell 1 (by omega)
  have f1 := h.frozen 1
  have c2 : w.cell? ⟨g, 2, none⟩ = some .nilIface := h.cell 2 (by omega)
  have f2 := h.frozen 2
  have c3 : w.cell? ⟨g, 3, none⟩ = some (.pointer (some ⟨q0, 0, none⟩)) := h.cell 3 (by omega)
  have f3 := h.frozen 3
  have c4 : w.cell? ⟨g, 4, none⟩ = some (.string x0) := h.cell 4 (by omega)
  have f4 := h.frozen 4
  have c5 : w.cell? ⟨g, 5, none⟩ = some (.bool false) := h.cell 5 (by omega)
  have f5 := h.frozen 5
  have c6 : w.cell? ⟨g, 6, none⟩ = some (.int .u8 0) := h.cell 6 (by omega)
  have f6 := h.frozen 6
  have c7 : w.cell? ⟨g, 7, none⟩ = some (.int .u8 0) := h.cell 7 (by omega)
  have f7 := h.frozen 7
  have c8 : w.cell? ⟨g, 8, none⟩ = some (.slice none 0 0) := h.cell 8 (by omega)
  have f8 := h.frozen 8
  have c9 : w.cell? ⟨g, 9, none⟩ = some (.string ⟨#[]⟩) := h.cell 9 (by omega)
  have f9 := h.frozen 9
  have c10 : w.cell? ⟨g, 10, none⟩ = some .nilIface := h.cell 10 (by omega)
  have f10 := h.frozen 10
  have c11 : w.cell? ⟨g, 11, none⟩ = some (.pointer (some ⟨q1, 0, none⟩)) := h.cell 11 (by omega)
  have f11 := h.frozen 11
  have c12 : w.cell? ⟨g, 12, none⟩ = some (.string x1) := h.cell 12 (by omega)
  have f12 := h.frozen 12
  have c13 : w.cell? ⟨g, 13, none⟩ = some (.bool false) := h.cell 13 (by omega)
  have f13 := h.frozen 13
  have c14 : w.cell? ⟨g, 14, none⟩ = some (.int .u8 0) := h.cell 14 (by omega)
  have f14 := h.frozen 14
  have c15 : w.cell? ⟨g, 15, none⟩ = some (.int .u8 0) := h.cell 15 (by omega)
  have f15 := h.frozen 15
  have hfin := Lib.hid (swapped h hB)
  clear h
  go_enter Tryf.func98, Tryf.ntmps98
  go_wp2_with fail
  refine wp_region_held_drew (S := fun _ => True) (by kernel_rfl) trivial (fun hS => ?_)
  refine Take.takeD (i := 0) (v := .slice (some ⟨g, 0, none⟩) 2 c) (some 6) rfl rfl (by kernel_rfl) (by kernel_rfl) (by kernel_rfl) (fun _ _ _ h => h) (Or.inl ⟨by rfl, fun w9 hw9 => by (go_simp; first | done | rfl)⟩) hS ?_
  try simp only [Act.put, List.setIfInBounds_toArray, List.set_cons_zero, List.set_cons_succ]
  refine Take.takeD (i := 1) (v := .int .i64 1) (some 7) rfl rfl (by kernel_rfl) (by kernel_rfl) (by kernel_rfl) (fun _ _ _ h => h) (Or.inl ⟨by rfl, fun w9 hw9 => by (go_simp; first | done | rfl)⟩) hS ?_
  try simp only [Act.put, List.setIfInBounds_toArray, List.set_cons_zero, List.set_cons_succ]
  refine Take.takeD (i := 2) (v := .slice (some ⟨g, 0, none⟩) 2 c) (some 8) rfl rfl (by kernel_rfl) (by kernel_rfl) (by kernel_rfl) (fun _ _ _ h => h) (Or.inl ⟨by rfl, fun w9 hw9 => by (go_simp; first | done | rfl)⟩) hS ?_
  try simp only [Act.put, List.setIfInBounds_toArray, List.set_cons_zero, List.set_cons_succ]
  refine Take.takeD (i := 3) (v := .int .i64 0) (some 9) rfl rfl (by kernel_rfl) (by kernel_rfl) (by kernel_rfl) (fun _ _ _ h => h) (Or.inl ⟨by rfl, fun w9 hw9 => by (go_simp; first | done | rfl)⟩) hS ?_
  try simp only [Act.put, List.setIfInBounds_toArray, List.set_cons_zero, List.set_cons_succ]
  refine Take.takeD (i := 4) (v := .slice (some ⟨g, 0, none⟩) 2 c) (some 10) rfl rfl (by kernel_rfl) (by kernel_rfl) (by kernel_rfl) (fun _ _ _ h => h) (Or.inl ⟨by rfl, fun w9 hw9 => by (go_simp; first | done | rfl)⟩) hS ?_
  try simp only [Act.put, List.setIfInBounds_toArray, List.set_cons_zero, List.set_cons_succ]
  refine Take.takeD (i := 5) (v := .int .i64 0) (some 11) rfl rfl (by kernel_rfl) (by kernel_rfl) (by kernel_rfl) (fun _ _ _ h => h) (Or.inl ⟨by rfl, fun w9 hw9 => by (go_simp; first | done | rfl)⟩) hS ?_
  try simp only [Act.put, List.setIfInBounds_toArray, List.set_cons_zero, List.set_cons_succ]
  refine Take.takeD (i := 6) (v := .pointer (some ⟨g, 0, none⟩)) (some 12) rfl rfl (by kernel_rfl) (by kernel_rfl) (by kernel_rfl) (fun _ _ _ h => h) (Or.inl ⟨by rfl, fun w9 hw9 => by (go_simp; first | done | rfl)⟩) hS ?_
  try simp only [Act.put, List.setIfInBounds_toArray, List.set_cons_zero, List.set_cons_succ]
  refine Take.takeD (i := 8) (v := .slice (some ⟨g, 0, none⟩) 2 c) (some 14) rfl rfl (by kernel_rfl) (by kernel_rfl) (by kernel_rfl) (fun _ _ _ h => h) (Or.inl ⟨by rfl, fun w9 hw9 => by (go_simp; first | done | rfl)⟩) hS ?_
  try simp only [Act.put, List.setIfInBounds_toArray, List.set_cons_zero, List.set_cons_succ]
  refine Take.takeD (i := 9) (v := .int .i64 1) (some 15) rfl rfl (by kernel_rfl) (by kernel_rfl) (by kernel_rfl) (fun _ _ _ h => h) (Or.inl ⟨by rfl, fun w9 hw9 => by (go_simp; first | done | rfl)⟩) hS ?_
  try simp only [Act.put, List.setIfInBounds_toArray, List.set_cons_zero, List.set_cons_succ]
  refine Take.takeD (i := 10) (v := .pointer (some ⟨g, 8, none⟩)) (some 16) rfl rfl (by kernel_rfl) (by kernel_rfl) (by kernel_rfl) (fun _ _ _ h => h) (Or.inl ⟨by rfl, fun w9 hw9 => by (go_simp; first | done | rfl)⟩) hS ?_
  try simp only [Act.put, List.setIfInBounds_toArray, List.set_cons_zero, List.set_cons_succ]
  clear hS
  refine wpAnyH_ready (rs := [7, 11]) (by kernel_rfl) (by decide) ?_
  refine AllReadyH.cons rfl (fun K' hK => ?_) (AllReadyH.cons rfl (fun K' hK => ?_) AllReadyH.nil)
  · rw [if_pos (by kernel_rfl)]
    go_wp2_with fail
    refine hK.out _ _ trivial (fun _ => ?_)
    clear hK
    refine wpAnyH_ready (rs := [11]) (by kernel_rfl) (by decide) ?_
    refine AllReadyH.cons rfl (fun K' hK => ?_) AllReadyH.nil
    rw [if_pos (by kernel_rfl)]
    go_wp2_with fail
    refine hK.out _ _ trivial (fun _ => ?_)
    clear hK
    refine wpAnyH_ready (rs := [12]) (by kernel_rfl) (by decide) ?_
    refine AllReadyH.cons rfl (fun K' hK => ?_) AllReadyH.nil
    rw [if_pos (by kernel_rfl)]
    go_wp2_with fail
    refine hK.out _ _ trivial (fun _ => ?_)
    clear hK
    refine wpAnyH_ready (rs := [13]) (by kernel_rfl) (by decide) ?_
    refine AllReadyH.cons rfl (fun K' hK => ?_) AllReadyH.nil
    rw [if_pos (by kernel_rfl)]
    go_wp2_with fail
    refine hK.out _ _ trivial (fun _ => ?_)
    clear hK
    refine wpAnyH_ready (rs := [14]) (by kernel_rfl) (by decide) ?_
    refine AllReadyH.cons rfl (fun K' hK => ?_) AllReadyH.nil
    rw [if_pos (by kernel_rfl)]
    go_wp2_with fail
    refine hK.out _ _ trivial (fun _ => ?_)
    clear hK
    refine wpAnyH_ready (rs := [15]) (by kernel_rfl) (by decide) ?_
    refine AllReadyH.cons rfl (fun K' hK => ?_) AllReadyH.nil
    rw [if_pos (by kernel_rfl)]
    go_wp2_with fail
    refine hK.out _ _ trivial (fun _ => ?_)
    clear hK
    refine wpAnyH_done (by kernel_rfl) ?_ _
    go_wp2_with fail
    go_end0
    exact swd_of hfin.out
  · rw [if_pos (by kernel_rfl)]
    go_wp2_with fail
    refine hK.out _ _ trivial (fun _ => ?_)
    clear hK
    refine wpAnyH_ready (rs := [7]) (by kernel_rfl) (by decide) ?_
    refine AllReadyH.cons rfl (fun K' hK => ?_) AllReadyH.nil
    rw [if_pos (by kernel_rfl)]
    go_wp2_with fail
    refine hK.out _ _ trivial (fun _ => ?_)
    clear hK
    refine wpAnyH_ready (rs := [12]) (by kernel_rfl) (by decide) ?_
    refine AllReadyH.cons rfl (fun K' hK => ?_) AllReadyH.nil
    rw [if_pos (by kernel_rfl)]
    go_wp2_with fail
    refine hK.out _ _ trivial (fun _ => ?_)
    clear hK
    refine wpAnyH_ready (rs := [13]) (by kernel_rfl) (by decide) ?_
    refine AllReadyH.cons rfl (fun K' hK => ?_) AllReadyH.nil
    rw [if_pos (by kernel_rfl)]
    go_wp2_with fail
    refine hK.out _ _ trivial (fun _ => ?_)
    clear hK
    refine wpAnyH_ready (rs := [14]) (by kernel_rfl) (by decide) ?_
    refine AllReadyH.cons rfl (fun K' hK => ?_) AllReadyH.nil
    rw [if_pos (by kernel_rfl)]
    go_wp2_with fail
    refine hK.out _ _ trivial (fun _ => ?_)
    clear hK
    refine wpAnyH_ready (rs := [15]) (by kernel_rfl) (by decide) ?_
    refine AllReadyH.cons rfl (fun K' hK => ?_) AllReadyH.nil
    rw [if_pos (by kernel_rfl)]
    go_wp2_with fail
    refine hK.out _ _ trivial (fun _ => ?_)
    clear hK
    refine wpAnyH_done (by kernel_rfl) ?_ _
    go_wp2_with fail
    go_end0
    exact swd_of hfin.out
end Go.Proofs.YtcijcifhdakhoaaFmt.Ex
