/-
  Log.AddError and Log.AddIDWithNotes at a tracker without a source. Condition: at most 65536 messages.
-/
import Derived.Test.YtfalpclhekpnnaaFmtLg
import Derived.Deep.RegionHeld3
import Derived.BigQuiet
import Derived.Deep.CutRange
import Derived.WalkMore
import Derived.Deep.QuietTactic
namespace Go.Proofs.YtfalpclhekpnnaaFmt.Lg
open Go.RowKit Go.MuLone Go.Proofs.YtfalpclhekpnnaaFmt.Ints Go.Proofs.YtfalpclhekpnnaaFmt.Mu

theorem bcell {W w1 : World} (hb : Below W.heap.size W w1) : (∀ b o, b < W.heap.size → w1.cell? ⟨b, o, none⟩ = W.cell? ⟨b, o, none⟩) ∧ (∀ b o, b < W.heap.size → w1.frozen? ⟨b, o, none⟩ = W.frozen? ⟨b, o, none⟩) :=
  ⟨fun b o h => hb.cell (p := ⟨b, o, none⟩) h, fun b o h => hb.frozen (p := ⟨b, o, none⟩) h⟩
def Gives (x : Value) (w : World) (e : Ending) (w' : World) : Prop := e = .returned x ∧ Below w.heap.size w w'
theorem locNil (b o : Nat) (s l : Int) (w : World) (h : w.cell? ⟨b, o + 9, none⟩ = some (.bool false)) :
    Calls Tryf.prog 45 #[.pointer (some ⟨b, o, none⟩), .agg #[.int .i32 s, .int .i32 l]] w (Gives (.pointer none) w) := by
  have hl := lt_of_cell h
  go_enter Tryf.func45, Tryf.ntmps45
  go_wp2
  go_ret
  exact ⟨rfl, (Below.refl _ _).alloc (Nat.le_refl _) _⟩
set_option maxHeartbeats 1000000 in
theorem msgData (b o : Nat) (s l : Int) (t : ByteArray) (w : World) (h : w.cell? ⟨b, o + 9, none⟩ = some (.bool false)) :
    Calls Tryf.prog 32 #[.pointer (some ⟨b, o, none⟩), .agg #[.int .i32 s, .int .i32 l], .string t] w (Gives (.agg #[.nilIface, .pointer none, .string t, .bool false]) w) := by
  have hl := lt_of_cell h
  go_enter Tryf.func32, Tryf.ntmps32
  go_wp2_with fail
  go_at_call 45
  refine (locNil b o s l _ ?_).mono ?_
  · go_simp
  rintro e w1 ⟨rfl, hb⟩
  obtain ⟨hc, hf⟩ := bcell hb
  have hz : w.heap.size + 1 < w1.heap.size := by have := hb.size; simp at this; omega
  have hb0 : Below w.heap.size w w1 := (((Below.refl _ _).alloc (Nat.le_refl _) _).alloc (by simp) _).trans (hb.mono (by simp; omega))
  replace hb0 := Lib.hid hb0
  clear hb
  go_wp2_with fail
  refine bodyPost_ret (v := .agg #[.nilIface, .pointer none, .string t, .bool false]) (by simp [results, Tryf.results32, go_sem, hc, hf, hz]) rfl ⟨rfl, ?_⟩
  exact (((hb0.out.setCell (Nat.le_succ _) _).setCell (Nat.le_succ _) _).setCell (Nat.le_succ _) _).setCell (Nat.le_succ _) _
theorem two_blocks (w : World) (a b : Array Value) (ta tb : TypeId) : ((w.alloc (.cells a ta)).alloc (.cells b tb)).drew.heap[w.heap.size]? = some (.cells a ta (0, 0)) ∧ ((w.alloc (.cells a ta)).alloc (.cells b tb)).drew.heap[w.heap.size + 1]? = some (.cells b tb (0, 0)) := by
  have e : (w.alloc (.cells a ta)).heap.size = w.heap.size + 1 := by simp
  refine ⟨?_, ?_⟩
  · show ((w.alloc (.cells a ta)).alloc (.cells b tb)).heap[w.heap.size]? = _
    rw [Below.heap_alloc _ _ _ (by omega)]
    exact heap_alloc_new _ _
  · show ((w.alloc (.cells a ta)).alloc (.cells b tb)).heap[w.heap.size + 1]? = _
    rw [← e]
    exact heap_alloc_new _ _
section
variable {B K M H G : Nat} {e : Bool} {n : Nat} {v : Value} {xs : List Value} {w w1 w2 : World}
theorem own_hi {k sz : Nat} {t : TypeId} (h : w.ownsRow B t sz v n xs) (hk : v.ownBlock = some k) : k < w.heap.size := by
  rcases h.2 with ⟨rfl, _⟩ | ⟨g, cap, cur, rfl, _, hg, _⟩
  · cases hk
  · cases hk; exact lt_of_blk hg
theorem Lg.new (h : Lg B K M H G e n v xs w) {b : Nat} (hb : w.heap.size ≤ b) : b ≠ H ∧ b ≠ G ∧ some b ≠ v.ownBlock :=
  ⟨fun e => by have := lt_of_blk h.bH; omega, fun e => by have := lt_of_blk h.bG; omega, fun e => by have := own_hi h.own e.symm; omega⟩
theorem Kp.start (hb : Below w.heap.size w w1) (hB : B ≤ w.heap.size) (k : Kp B H G v w1 w2) : Kp B H G v w w2 :=
  ⟨(hb.mono hB).trans k.bel, fun b h0 h1 h2 h3 => (k.blk b (Nat.lt_of_lt_of_le h0 hb.size) h1 h2 h3).trans (hb.block b h0)⟩
end
def logC (K M H G : Nat) : Array Value := #[fAdd K M H G, fHas M H, fPeek M G, fDone M G, .int .i8 3, .map none]
structure SE (N K M H G : Nat) (s l : Int) (w : World) : Prop where
  c0 : w.cell? ⟨N, 0, none⟩ = some (fAdd K M H G)
  c1 : w.cell? ⟨N + 1, 0, none⟩ = some (.int .i32 s)
  c2 : w.cell? ⟨N + 1, 1, none⟩ = some (.int .i32 l)
set_option maxRecDepth 100000 in
set_option maxHeartbeats 2000000 in
theorem addError {B K M H G n : Nat} {e : Bool} {v : Value} {xs : List Value} (b o : Nat) (s l : Int) (t : ByteArray) (w : World) (ht : w.cell? ⟨b, o + 9, none⟩ = some (.bool false)) (h : Lg B K M H G e n v xs w) (hB : B ≤ w.heap.size) (hn : n ≤ 65536) :
    Calls Tryf.prog 22 #[.agg (logC K M H G), .pointer (some ⟨b, o, none⟩), .agg #[.int .i32 s, .int .i32 l], .string t] w (More B K M H G true n v xs (mcells none 0 0 none t 0 0) w) := by
  have hl := lt_of_cell ht
  obtain ⟨q0, q1⟩ := two_blocks w (logC K M H G) #[.int .i32 s, .int .i32 l] 37 58
  have hS0 : Hid (SE w.heap.size K M H G s l ((w.alloc (.cells (logC K M H G) 37)).alloc (.cells #[.int .i32 s, .int .i32 l] 58)).drew) :=
    Lib.hid ⟨cell_of_row _ _ 0 _ _ _ q0, cell_of_row _ _ 0 _ _ _ q1, cell_of_row _ _ 1 _ _ _ q1⟩
  have b0 : Below w.heap.size w ((w.alloc (.cells (logC K M H G) 37)).alloc (.cells #[.int .i32 s, .int .i32 l] 58)).drew := (((Below.refl _ _).alloc (Nat.le_refl _) _).alloc (by simp) _).drew
  have hs0 : w.heap.size + 1 < ((w.alloc (.cells (logC K M H G) 37)).alloc (.cells #[.int .i32 s, .int .i32 l] 58)).drew.heap.size := lt_of_blk q1
  have ht0 := Lib.hid ((b0.cell (p := ⟨b, o + 9, none⟩) hl).trans ht)
  have h0 := Lib.hid (h.below b0)
  replace b0 := Lib.hid b0
  replace hs0 := Lib.hid hs0
  clear q0 q1 ht
  unfold logC at hS0 b0 hs0 ht0 h0 ⊢
  go_enter Tryf.func22, Tryf.ntmps22
  go_upto_region 1 with fail
  refine wp_region_held_drew (S := SE w.heap.size K M H G s l) (by kernel_rfl) hS0.out (fun hS => ?_)
  refine Take.takeD (i := 0) (v := .pointer (some ⟨w.heap.size, 0, none⟩)) (some 8) rfl rfl (by kernel_rfl) (by kernel_rfl) (by kernel_rfl) (fun _ _ _ h => h) (Or.inl ⟨by rfl, fun w9 hw9 => by (go_simp; first | done | rfl | (simp [hw9.c0, hw9.c1, hw9.c2]; done))⟩) hS ?_
  try simp only [Act.put, List.setIfInBounds_toArray, List.set_cons_zero, List.set_cons_succ]
  refine Take.takeD (i := 1) (v := fAdd K M H G) (some 9) rfl rfl (by kernel_rfl) (by kernel_rfl) (by kernel_rfl) (fun _ _ _ h => h) (Or.inl ⟨by rfl, fun w9 hw9 => by (go_simp; first | done | rfl | (simp [hw9.c0, hw9.c1, hw9.c2]; done))⟩) hS ?_
  try simp only [Act.put, List.setIfInBounds_toArray, List.set_cons_zero, List.set_cons_succ]
  refine Take.takeD (i := 2) (v := .pointer (some ⟨b, o, none⟩)) (some 10) rfl rfl (by kernel_rfl) (by kernel_rfl) (by kernel_rfl) (fun _ _ _ h => h) (Or.inl ⟨by rfl, fun w9 hw9 => by (go_simp; first | done | rfl | (simp [hw9.c0, hw9.c1, hw9.c2]; done))⟩) hS ?_
  try simp only [Act.put, List.setIfInBounds_toArray, List.set_cons_zero, List.set_cons_succ]
  refine Take.takeD (i := 3) (v := .agg #[.int .i32 s, .int .i32 l]) (some 11) rfl rfl (by kernel_rfl) (by kernel_rfl) (by kernel_rfl) (fun _ _ _ h => h) (Or.inl ⟨by rfl, fun w9 hw9 => by (go_simp; first | done | rfl | (simp [hw9.c0, hw9.c1, hw9.c2]; done))⟩) hS ?_
  try simp only [Act.put, List.setIfInBounds_toArray, List.set_cons_zero, List.set_cons_succ]
  refine Take.takeD (i := 4) (v := .string t) (some 12) rfl rfl (by kernel_rfl) (by kernel_rfl) (by kernel_rfl) (fun _ _ _ h => h) (Or.inl ⟨by rfl, fun w9 hw9 => by (go_simp; first | done | rfl | (simp [hw9.c0, hw9.c1, hw9.c2]; done))⟩) hS ?_
  try simp only [Act.put, List.setIfInBounds_toArray, List.set_cons_zero, List.set_cons_succ]
  clear hS
  refine wpAnyH_ready (rs := [5]) (by kernel_rfl) (by decide) ?_
  refine AllReadyH.cons rfl (fun K' hK => ?_) AllReadyH.nil
  rw [if_pos (by kernel_rfl)]
  go_wp2_with fail
  refine (msgData b o s l t _ ht0.out).mono ?_
  rintro y w1 ⟨rfl, hb⟩
  have hS1 : SE w.heap.size K M H G s l w1 := ⟨(hb.cell (p := ⟨w.heap.size, 0, none⟩) (Nat.lt_of_succ_lt hs0.out)).trans hS0.out.c0, (hb.cell (p := ⟨w.heap.size + 1, 0, none⟩) hs0.out).trans hS0.out.c1, (hb.cell (p := ⟨w.heap.size + 1, 1, none⟩) hs0.out).trans hS0.out.c2⟩
  have b1 := Lib.hid (b0.out.trans (hb.mono (Nat.le_of_lt (Nat.lt_of_succ_lt hs0.out))))
  have h1 := Lib.hid (h0.out.below hb)
  clear hb
  refine hK.out _ _ hS1 (fun _ => ?_)
  clear hK
  replace hS1 := Lib.hid hS1
  refine wpAnyH_ready (rs := [6]) (by kernel_rfl) (by decide) ?_
  refine AllReadyH.cons rfl (fun K' hK => ?_) AllReadyH.nil
  rw [if_pos (by kernel_rfl)]
  go_wp2_with fail
  refine hK.out _ _ hS1.out (fun _ => ?_)
  clear hK
  refine wpAnyH_ready (rs := [7]) (by kernel_rfl) (by decide) ?_
  refine AllReadyH.cons rfl (fun K' hK => ?_) AllReadyH.nil
  rw [if_pos (by kernel_rfl)]
  unfold fAdd pt
  go_wp2_with fail
  refine (addMsg0 none 0 0 none t 0 w1 h1.out (Nat.le_trans hB b1.out.size) hn).mono ?_
  rintro y w2 ⟨v', rfl, h2, k2⟩
  have hs1 : w.heap.size + 1 < w1.heap.size := lt_of_cell (a := ⟨w.heap.size + 1, 0, none⟩) hS1.out.c1
  obtain ⟨n1, n2, n3⟩ := h.new (Nat.le_refl w.heap.size)
  obtain ⟨n4, n5, n6⟩ := h.new (Nat.le_succ w.heap.size)
  have e1 := k2.blk _ (Nat.lt_of_succ_lt hs1) n1 n2 n3
  have e2 := k2.blk _ hs1 n4 n5 n6
  have hS2 : SE w.heap.size K M H G s l w2 := ⟨(World.cell?_of_block e1).trans hS1.out.c0, (World.cell?_of_block e2).trans hS1.out.c1, (World.cell?_of_block e2).trans hS1.out.c2⟩
  have hfin : More B K M H G true n v xs (mcells none 0 0 none t 0 0) w (.returned (.tuple #[])) w2 := ⟨v', rfl, h2, k2.start b1.out hB⟩
  replace hfin := Lib.hid hfin
  refine hK.out _ _ hS2 (fun _ => ?_)
  clear hK h2 k2 hS2 hS1 e1 e2 n1 n2 n3 n4 n5 n6 h h1 h0 hs1 b1 hs0 hS0 ht0 b0
  refine wpAnyH_done (by kernel_rfl) ?_ _
  go_end0
  exact hfin.out
end Go.Proofs.YtfalpclhekpnnaaFmt.Lg
