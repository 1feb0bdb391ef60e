/-
  Log.AddIDWithNotes at a tracker without a source, no overrides. Condition: at most 65536 messages.
-/
import Derived.Test.YtfalpclhekpnnaaFmtLg2
namespace Go.Proofs.YtfalpclhekpnnaaFmt.Lg
open Go.RowKit Go.MuLone Go.Proofs.YtfalpclhekpnnaaFmt.Ints Go.Proofs.YtfalpclhekpnnaaFmt.Mu

theorem lookN (i : Int) (w : World) : (Instr.lookup 35 (.map none) (.int .u8 i) true).run Tryf.prog w = .ok (.tuple #[.int .i8 0, .bool false]) w := by kernel_rfl
theorem allow (i k : Int) (w : World) : Calls Tryf.prog 33 #[.map none, .int .u8 i, .int .u8 k] w fun e w' => e = .returned (.tuple #[.int .u8 k, .bool true]) ∧ w = w' := by
  have hlk := lookN i
  go_enter Tryf.func33, Tryf.ntmps33
  go_wp2
  go_ret2
  exact ⟨rfl, rfl⟩
set_option maxRecDepth 100000 in
set_option maxHeartbeats 2000000 in
theorem addID {B K M H G n : Nat} {e : Bool} {v : Value} {xs : List Value} (i k : Int) (hk : (k == 0) = false) (b o : Nat) (s l : Int) (t : ByteArray) (a : Option Addr) (m c : Nat) (w : World) (ht : w.cell? ⟨b, o + 9, none⟩ = some (.bool false)) (h : Lg B K M H G e n v xs w) (hB : B ≤ w.heap.size) (hn : n ≤ 65536) :
    Calls Tryf.prog 25 #[.agg (logC K M H G), .int .u8 i, .int .u8 k, .pointer (some ⟨b, o, none⟩), .agg #[.int .i32 s, .int .i32 l], .string t, .slice a m c] w (More B K M H G e n v xs (mcells a m c none t k i) w) := by
  have hl := lt_of_cell ht
  obtain ⟨q0, q1⟩ := two_blocks w (logC K M H G) #[.int .i32 s, .int .i32 l] 37 58
  have hS0 : Hid (SE w.heap.size K M H G s l ((w.alloc (.cells (logC K M H G) 37)).alloc (.cells #[.int .i32 s, .int .i32 l] 58)).drew) :=
    Lib.hid ⟨cell_of_row _ _ 0 _ _ _ q0, cell_of_row _ _ 0 _ _ _ q1, cell_of_row _ _ 1 _ _ _ q1⟩
  have b0 : Below w.heap.size w ((w.alloc (.cells (logC K M H G) 37)).alloc (.cells #[.int .i32 s, .int .i32 l] 58)).drew := (((Below.refl _ _).alloc (Nat.le_refl _) _).alloc (by simp) _).drew
  have hs0 : w.heap.size + 1 < ((w.alloc (.cells (logC K M H G) 37)).alloc (.cells #[.int .i32 s, .int .i32 l] 58)).drew.heap.size := lt_of_blk q1
  have ht0 := Lib.hid ((b0.cell (p := ⟨b, o + 9, none⟩) hl).trans ht)
  have h0 := Lib.hid (h.below b0)
  replace b0 := Lib.hid b0
  replace hs0 := Lib.hid hs0
  replace hk := Lib.hid hk
  clear q0 q1 ht
  unfold logC at hS0 b0 hs0 ht0 h0 ⊢
  go_enter Tryf.func25, Tryf.ntmps25
  go_wp2_with fail
  go_at_call 33
  refine (allow i k _).mono ?_
  rintro y w' ⟨rfl, rfl⟩
  go_upto_region 3 with fail
  refine wp_region_held_drew (S := SE w.heap.size K M H G s l) (by kernel_rfl) hS0.out (fun hS => ?_)
  refine Take.takeD (i := 0) (v := .pointer (some ⟨w.heap.size, 0, none⟩)) (some 25) rfl rfl (by kernel_rfl) (by kernel_rfl) (by kernel_rfl) (fun _ _ _ h => h) (Or.inl ⟨by rfl, fun w9 hw9 => by (go_simp; first | done | rfl | (simp [hw9.c0, hw9.c1, hw9.c2]; done))⟩) hS ?_
  try simp only [Act.put, List.setIfInBounds_toArray, List.set_cons_zero, List.set_cons_succ]
  refine Take.takeD (i := 1) (v := fAdd K M H G) (some 26) rfl rfl (by kernel_rfl) (by kernel_rfl) (by kernel_rfl) (fun _ _ _ h => h) (Or.inl ⟨by rfl, fun w9 hw9 => by (go_simp; first | done | rfl | (simp [hw9.c0, hw9.c1, hw9.c2]; done))⟩) hS ?_
  try simp only [Act.put, List.setIfInBounds_toArray, List.set_cons_zero, List.set_cons_succ]
  refine Take.takeD (i := 2) (v := .int .u8 i) (some 27) rfl rfl (by kernel_rfl) (by kernel_rfl) (by kernel_rfl) (fun _ _ _ h => h) (Or.inl ⟨by rfl, fun w9 hw9 => by (go_simp; first | done | rfl | (simp [hw9.c0, hw9.c1, hw9.c2]; done))⟩) hS ?_
  try simp only [Act.put, List.setIfInBounds_toArray, List.set_cons_zero, List.set_cons_succ]
  refine Take.takeD (i := 3) (v := .int .u8 k) (some 28) rfl rfl (by kernel_rfl) (by kernel_rfl) (by kernel_rfl) (fun _ _ _ h => h) (Or.inl ⟨by rfl, fun w9 hw9 => by (go_simp; first | done | rfl | (simp [hw9.c0, hw9.c1, hw9.c2]; done))⟩) hS ?_
  try simp only [Act.put, List.setIfInBounds_toArray, List.set_cons_zero, List.set_cons_succ]
  refine Take.takeD (i := 4) (v := .pointer (some ⟨b, o, none⟩)) (some 29) rfl rfl (by kernel_rfl) (by kernel_rfl) (by kernel_rfl) (fun _ _ _ h => h) (Or.inl ⟨by rfl, fun w9 hw9 => by (go_simp; first | done | rfl | (simp [hw9.c0, hw9.c1, hw9.c2]; done))⟩) hS ?_
  try simp only [Act.put, List.setIfInBounds_toArray, List.set_cons_zero, List.set_cons_succ]
  refine Take.takeD (i := 5) (v := .agg #[.int .i32 s, .int .i32 l]) (some 30) rfl rfl (by kernel_rfl) (by kernel_rfl) (by kernel_rfl) (fun _ _ _ h => h) (Or.inl ⟨by rfl, fun w9 hw9 => by (go_simp; first | done | rfl | (simp [hw9.c0, hw9.c1, hw9.c2]; done))⟩) hS ?_
  try simp only [Act.put, List.setIfInBounds_toArray, List.set_cons_zero, List.set_cons_succ]
  refine Take.takeD (i := 6) (v := .string t) (some 31) rfl rfl (by kernel_rfl) (by kernel_rfl) (by kernel_rfl) (fun _ _ _ h => h) (Or.inl ⟨by rfl, fun w9 hw9 => by (go_simp; first | done | rfl | (simp [hw9.c0, hw9.c1, hw9.c2]; done))⟩) hS ?_
  try simp only [Act.put, List.setIfInBounds_toArray, List.set_cons_zero, List.set_cons_succ]
  refine Take.takeD (i := 8) (v := .slice a m c) (some 33) rfl rfl (by kernel_rfl) (by kernel_rfl) (by kernel_rfl) (fun _ _ _ h => h) (Or.inl ⟨by rfl, fun w9 hw9 => by (go_simp; first | done | rfl | (simp [hw9.c0, hw9.c1, hw9.c2]; done))⟩) hS ?_
  try simp only [Act.put, List.setIfInBounds_toArray, List.set_cons_zero, List.set_cons_succ]
  clear hS
  refine wpAnyH_ready (rs := [7]) (by kernel_rfl) (by decide) ?_
  refine AllReadyH.cons rfl (fun K' hK => ?_) AllReadyH.nil
  rw [if_pos (by kernel_rfl)]
  go_wp2_with fail
  refine (msgData b o s l t _ ht0.out).mono ?_
  rintro y w1 ⟨rfl, hb⟩
  have hS1 : SE w.heap.size K M H G s l w1 := ⟨(hb.cell (p := ⟨w.heap.size, 0, none⟩) (Nat.lt_of_succ_lt hs0.out)).trans hS0.out.c0, (hb.cell (p := ⟨w.heap.size + 1, 0, none⟩) hs0.out).trans hS0.out.c1, (hb.cell (p := ⟨w.heap.size + 1, 1, none⟩) hs0.out).trans hS0.out.c2⟩
  have b1 := Lib.hid (b0.out.trans (hb.mono (Nat.le_of_lt (Nat.lt_of_succ_lt hs0.out))))
  have h1 := Lib.hid (h0.out.below hb)
  clear hb
  refine hK.out _ _ hS1 (fun _ => ?_)
  clear hK
  replace hS1 := Lib.hid hS1
  refine wpAnyH_ready (rs := [9]) (by kernel_rfl) (by decide) ?_
  refine AllReadyH.cons rfl (fun K' hK => ?_) AllReadyH.nil
  rw [if_pos (by kernel_rfl)]
  go_wp2_with fail
  refine hK.out _ _ hS1.out (fun _ => ?_)
  clear hK
  refine wpAnyH_ready (rs := [10]) (by kernel_rfl) (by decide) ?_
  refine AllReadyH.cons rfl (fun K' hK => ?_) AllReadyH.nil
  rw [if_pos (by kernel_rfl)]
  unfold fAdd pt
  go_wp2_with fail
  refine (addMsgK a m c none t k i w1 hk.out h1.out (Nat.le_trans hB b1.out.size) hn).mono ?_
  rintro y w2 ⟨v', rfl, h2, k2⟩
  have hs1 : w.heap.size + 1 < w1.heap.size := lt_of_cell (a := ⟨w.heap.size + 1, 0, none⟩) hS1.out.c1
  obtain ⟨n1, n2, n3⟩ := h.new (Nat.le_refl w.heap.size)
  obtain ⟨n4, n5, n6⟩ := h.new (Nat.le_succ w.heap.size)
  have e1 := k2.blk _ (Nat.lt_of_succ_lt hs1) n1 n2 n3
  have e2 := k2.blk _ hs1 n4 n5 n6
  have hS2 : SE w.heap.size K M H G s l w2 := ⟨(World.cell?_of_block e1).trans hS1.out.c0, (World.cell?_of_block e2).trans hS1.out.c1, (World.cell?_of_block e2).trans hS1.out.c2⟩
  have hfin : More B K M H G e n v xs (mcells a m c none t k i) w (.returned (.tuple #[])) w2 := ⟨v', rfl, h2, k2.start b1.out hB⟩
  replace hfin := Lib.hid hfin
  refine hK.out _ _ hS2 (fun _ => ?_)
  clear hK h2 k2 hS2 hS1 e1 e2 n1 n2 n3 n4 n5 n6 h h1 h0 hs1 b1 hs0 hS0 ht0 b0
  refine wpAnyH_done (by kernel_rfl) ?_ _
  go_wp2_with fail
  go_end0
  exact hfin.out
end Go.Proofs.YtfalpclhekpnnaaFmt.Lg
