/-
  Log.AddError at a tracker with a source: one located error more. Condition: at most 2^20 bytes, 65536 messages, utf8's two tables laid.
-/
import Derived.Test.YtcijcifhdakhoaaFmtTk4
import Derived.Deep.RegionHeld3
import Derived.Deep.CutRange
namespace Go.Proofs.YtcijcifhdakhoaaFmt.Ex
open Go.RowKit Go.Lib Go.MuLone Go.Proofs.YtcijcifhdakhoaaFmt.Ints Go.Proofs.YtcijcifhdakhoaaFmt.Mu Go.Proofs.YtcijcifhdakhoaaFmt.Lg Go.Proofs.YtcijcifhdakhoaaFmt.U8

theorem two_blocks (w : World) (a b : Array Value) (ta tb : TypeId) : ((w.alloc (.cells a ta)).alloc (.cells b tb)).drew.heap[w.heap.size]? = some (.cells a ta (0, 0)) ∧ ((w.alloc (.cells a ta)).alloc (.cells b tb)).drew.heap[w.heap.size + 1]? = some (.cells b tb (0, 0)) := by
  have e : (w.alloc (.cells a ta)).heap.size = w.heap.size + 1 := by simp
  refine ⟨?_, ?_⟩
  · show ((w.alloc (.cells a ta)).alloc (.cells b tb)).heap[w.heap.size]? = _
    rw [Below.heap_alloc _ _ _ (by omega)]
    exact heap_alloc_new _ _
  · show ((w.alloc (.cells a ta)).alloc (.cells b tb)).heap[w.heap.size + 1]? = _
    rw [← e]
    exact heap_alloc_new _ _
def logC (K M H G : Nat) : Array Value := #[fAdd K M H G, fHas M H, fPeek M G, fDone M G, .int .i8 3, .map none]
structure SE (N K M H G : Nat) (s l : Int) (w : World) : Prop where
  c0 : w.cell? ⟨N, 0, none⟩ = some (fAdd K M H G)
  c1 : w.cell? ⟨N + 1, 0, none⟩ = some (.int .i32 s)
  c2 : w.cell? ⟨N + 1, 1, none⟩ = some (.int .i32 l)
section
variable {B K M H G P : Nat} {e : Bool} {n : Nat} {v : Value} {xs : List Value} {w w1 w2 : World}
theorem own_hi {k sz : Nat} {t : TypeId} (h : w.ownsRow B t sz v n xs) (hk : v.ownBlock = some k) : k < w.heap.size := by
  rcases h.2 with ⟨rfl, _⟩ | ⟨g, cap, cur, rfl, _, hg, _⟩
  · cases hk
  · cases hk; exact lt_of_blk hg
theorem Lg.new (h : Lg B K M H G e n v xs w) {b : Nat} (hb : w.heap.size ≤ b) : b ≠ H ∧ b ≠ G ∧ some b ≠ v.ownBlock :=
  ⟨fun e => by have := lt_of_blk h.bH; omega, fun e => by have := lt_of_blk h.bG; omega, fun e => by have := own_hi h.own e.symm; omega⟩
theorem Tk.blk {F0 : Nat → Value} {s : ByteArray} {o ls le : Nat} {ln : Int} {hs he : Bool} (h : Tk P F0 s o ls le ln hs he w) : ∃ c fr, w.heap[P]? = some (.cells c 165 fr) := by
  obtain ⟨F, ⟨c, hc, _⟩, _⟩ := h.ex
  exact ⟨c, _, hc⟩
theorem Lg.op {c : Array Value} {fr : Nat × Nat} (h : Lg B K M H G e n v xs w) (hO : Op2 P w w1) (hP : w.heap[P]? = some (.cells c 165 fr)) : Lg B K M H G e n v xs w1 := by
  have f : ∀ {b : Nat} {c' : Array Value} {t : TypeId} {f' : Nat × Nat}, w.heap[b]? = some (.cells c' t f') → t ≠ 165 → w1.heap[b]? = some (.cells c' t f') := fun hb ht => (hO.blk _ (lt_of_blk hb) (ne_of_ty hb hP ht)).trans hb
  exact ⟨f h.bK (by decide), f h.bM (by decide), f h.bH (by decide), f h.bG (by decide), own_same h.own (fun k hk => by
    rcases h.own.2 with ⟨rfl, _⟩ | ⟨g, cap, cur, rfl, _, hg, _⟩
    · cases hk
    · cases hk; exact (f hg (by decide)).trans hg.symm), h.hM, h.hH, h.hG⟩
end
/-- One located error more. -/
def MoreL (B P K M H G n : Nat) (v : Value) (xs : List Value) (F0 : Nat → Value) (s x : ByteArray) (o0 t k : Nat) (w : World) (y : Ending) (w' : World) : Prop :=
  ∃ v' q, y = .returned (.tuple #[]) ∧ Lg B K M H G true (n + 1) v' (xs ++ mcells none 0 0 (some ⟨q, 0, none⟩) x 0 0) w' ∧ IsLoc q k w' ∧ w.heap.size ≤ q ∧
    (∃ (o ls le : Nat) (ln : Int), Tk P F0 s o ls le ln true true w' ∧ (o0 ≤ t → St s o ls le true)) ∧ Below B w w' ∧
    ∀ b, b < w.heap.size → b ≠ P → b ≠ H → b ≠ G → some b ≠ v.ownBlock → w'.heap[b]? = w.heap[b]?
set_option maxRecDepth 100000 in
set_option maxHeartbeats 4000000 in
theorem addErr {B K M H G n : Nat} {e : Bool} {v : Value} {xs : List Value} (P : Nat) (F0 : Nat → Value) (s x : ByteArray) (o ls le : Nat) (ln : Int) (he : Bool) (t k : Nat) (w : World) (hs : s.size ≤ 1048576) (ht : t ≤ s.size) (hk : k ≤ 1048576) (hP : 2 ≤ P) (hBP : B ≤ P) (hT : Utf8Tabs 0 1 w)
    (hTk : Tk P F0 s o ls le ln true he w) (st : St s o ls le he) (h : Lg B K M H G e n v xs w) (hn : n ≤ 65536) :
    Calls Tryf.prog 23 #[.agg (logC K M H G), .pointer (some ⟨P, 67, none⟩), .agg #[.int .i32 (t : Nat), .int .i32 (k : Nat)], .string x] w (MoreL B P K M H G n v xs F0 s x o t k w) := by
  have lP := hTk.lt
  have hB : B ≤ w.heap.size := by omega
  obtain ⟨q0, q1⟩ := two_blocks w (logC K M H G) #[.int .i32 (t : Nat), .int .i32 (k : Nat)] 55 31
  have hS0 : Hid (SE w.heap.size K M H G (t : Nat) (k : Nat) ((w.alloc (.cells (logC K M H G) 55)).alloc (.cells #[.int .i32 (t : Nat), .int .i32 (k : Nat)] 31)).drew) :=
    Lib.hid ⟨cell_of_row _ _ 0 _ _ _ q0, cell_of_row _ _ 0 _ _ _ q1, cell_of_row _ _ 1 _ _ _ q1⟩
  have b0 : Below w.heap.size w ((w.alloc (.cells (logC K M H G) 55)).alloc (.cells #[.int .i32 (t : Nat), .int .i32 (k : Nat)] 31)).drew := (((Below.refl _ _).alloc (Nat.le_refl _) _).alloc (by simp) _).drew
  have hs0 : w.heap.size + 1 < ((w.alloc (.cells (logC K M H G) 55)).alloc (.cells #[.int .i32 (t : Nat), .int .i32 (k : Nat)] 31)).drew.heap.size := lt_of_blk q1
  have hTk0 := hTk.of (b0.block _ lP)
  have h0 := h.below b0
  obtain ⟨cP, fP, bP⟩ := hTk0.blk
  have cD := Lib.hid (data P F0 s x o ls le ln he t k _ hs ht hk hP (Utf8Tabs_below hT b0) hTk0 st)
  replace b0 := Lib.hid b0
  replace hs0 := Lib.hid hs0
  replace h0 := Lib.hid h0
  replace bP := Lib.hid bP
  clear q0 q1 hTk st hT hTk0
  generalize o = o0 at *
  unfold logC at hS0 b0 hs0 h0 bP cD ⊢
  go_enter Tryf.func23, Tryf.ntmps23
  go_upto_region 1 with fail
  refine wp_region_held_drew (S := SE w.heap.size K M H G (t : Nat) (k : Nat)) (by kernel_rfl) hS0.out (fun hS => ?_)
  refine Take.takeD (i := 0) (v := .pointer (some ⟨w.heap.size, 0, none⟩)) (some 8) rfl rfl (by kernel_rfl) (by kernel_rfl) (by kernel_rfl) (fun _ _ _ h => h) (Or.inl ⟨by rfl, fun w9 hw9 => by (go_simp; first | done | rfl | (simp [hw9.c0, hw9.c1, hw9.c2]; done))⟩) hS ?_
  try simp only [Act.put, List.setIfInBounds_toArray, List.set_cons_zero, List.set_cons_succ]
  refine Take.takeD (i := 1) (v := fAdd K M H G) (some 9) rfl rfl (by kernel_rfl) (by kernel_rfl) (by kernel_rfl) (fun _ _ _ h => h) (Or.inl ⟨by rfl, fun w9 hw9 => by (go_simp; first | done | rfl | (simp [hw9.c0, hw9.c1, hw9.c2]; done))⟩) hS ?_
  try simp only [Act.put, List.setIfInBounds_toArray, List.set_cons_zero, List.set_cons_succ]
  refine Take.takeD (i := 2) (v := .pointer (some ⟨P, 67, none⟩)) (some 10) rfl rfl (by kernel_rfl) (by kernel_rfl) (by kernel_rfl) (fun _ _ _ h => h) (Or.inl ⟨by rfl, fun w9 hw9 => by (go_simp; first | done | rfl | (simp [hw9.c0, hw9.c1, hw9.c2]; done))⟩) hS ?_
  try simp only [Act.put, List.setIfInBounds_toArray, List.set_cons_zero, List.set_cons_succ]
  refine Take.takeD (i := 3) (v := .agg #[.int .i32 (t : Nat), .int .i32 (k : Nat)]) (some 11) rfl rfl (by kernel_rfl) (by kernel_rfl) (by kernel_rfl) (fun _ _ _ h => h) (Or.inl ⟨by rfl, fun w9 hw9 => by (go_simp; first | done | rfl | (simp [hw9.c0, hw9.c1, hw9.c2]; done))⟩) hS ?_
  try simp only [Act.put, List.setIfInBounds_toArray, List.set_cons_zero, List.set_cons_succ]
  refine Take.takeD (i := 4) (v := .string x) (some 12) rfl rfl (by kernel_rfl) (by kernel_rfl) (by kernel_rfl) (fun _ _ _ h => h) (Or.inl ⟨by rfl, fun w9 hw9 => by (go_simp; first | done | rfl | (simp [hw9.c0, hw9.c1, hw9.c2]; done))⟩) hS ?_
  try simp only [Act.put, List.setIfInBounds_toArray, List.set_cons_zero, List.set_cons_succ]
  clear hS
  refine wpAnyH_ready (rs := [5]) (by kernel_rfl) (by decide) ?_
  refine AllReadyH.cons rfl (fun K' hK => ?_) AllReadyH.nil
  rw [if_pos (by kernel_rfl)]
  go_wp2_with fail
  refine cD.out.mono ?_
  rintro y w1 ⟨q, rfl, hq, hq1, hA⟩
  obtain ⟨o2, ls2, le2, ln2, g1, g2, g3⟩ := hA
  have e1 := g2.blk w.heap.size (Nat.lt_of_succ_lt hs0.out) (by omega)
  have e2 := g2.blk (w.heap.size + 1) hs0.out (by omega)
  have hS1 : SE w.heap.size K M H G (t : Nat) (k : Nat) w1 := ⟨(World.cell?_of_block e1).trans hS0.out.c0, (World.cell?_of_block e2).trans hS0.out.c1, (World.cell?_of_block e2).trans hS0.out.c2⟩
  have h1 := Ex.Lg.op h0.out g2 bP.out
  have hw1 : w.heap.size ≤ w1.heap.size := Nat.le_trans b0.out.size g2.bel.size
  have bw1 : Below B w w1 := (b0.out.mono hB).trans (g2.bel.mono hBP)
  have kw1 : ∀ b, b < w.heap.size → b ≠ P → w1.heap[b]? = w.heap[b]? := fun b hb hn => (g2.blk b (Nat.lt_of_lt_of_le hb b0.out.size) hn).trans (b0.out.block b hb)
  have hqw : w.heap.size ≤ q := Nat.le_trans b0.out.size hq1
  replace h1 := Lib.hid h1
  replace hw1 := Lib.hid hw1
  replace bw1 := Lib.hid bw1
  replace kw1 := Lib.hid kw1
  replace hq := Lib.hid hq
  replace hqw := Lib.hid hqw
  replace g1 := Lib.hid g1
  replace g3 := Lib.hid g3
  clear g2 hq1 e1 e2 cD
  refine hK.out _ _ hS1 (fun _ => ?_)
  clear hK
  replace hS1 := Lib.hid hS1
  refine wpAnyH_ready (rs := [6]) (by kernel_rfl) (by decide) ?_
  refine AllReadyH.cons rfl (fun K' hK => ?_) AllReadyH.nil
  rw [if_pos (by kernel_rfl)]
  go_wp2_with fail
  refine hK.out _ _ hS1.out (fun _ => ?_)
  clear hK
  refine wpAnyH_ready (rs := [7]) (by kernel_rfl) (by decide) ?_
  refine AllReadyH.cons rfl (fun K' hK => ?_) AllReadyH.nil
  rw [if_pos (by kernel_rfl)]
  unfold fAdd pt
  go_wp2_with fail
  refine (addMsg0 none 0 0 (some ⟨q, 0, none⟩) x 0 w1 h1.out (Nat.le_trans hB hw1.out) hn).mono ?_
  rintro y w2 ⟨v', rfl, h2, k2⟩
  have hs1 : w.heap.size + 1 < w1.heap.size := lt_of_cell (a := ⟨w.heap.size + 1, 0, none⟩) hS1.out.c1
  obtain ⟨n1, n2, n3⟩ := Ex.Lg.new h (Nat.le_refl w.heap.size)
  obtain ⟨n4, n5, n6⟩ := Ex.Lg.new h (Nat.le_succ w.heap.size)
  have e1 := k2.blk _ (Nat.lt_of_succ_lt hs1) n1 n2 n3
  have e2 := k2.blk _ hs1 n4 n5 n6
  have hS2 : SE w.heap.size K M H G (t : Nat) (k : Nat) w2 := ⟨(World.cell?_of_block e1).trans hS1.out.c0, (World.cell?_of_block e2).trans hS1.out.c1, (World.cell?_of_block e2).trans hS1.out.c2⟩
  obtain ⟨xq, aq, cq, bq⟩ := hq.out
  obtain ⟨cP1, fP1, bP1⟩ := g1.out.blk
  have hq2 : IsLoc q k w2 := ⟨xq, aq, cq, (k2.blk _ (lt_of_blk bq) (ne_of_ty bq h1.out.bH (by decide)) (ne_of_ty bq h1.out.bG (by decide)) (own_ty h1.out.own bq (by decide))).trans bq⟩
  have hTk2 := g1.out.of (k2.blk _ (lt_of_blk bP1) (ne_of_ty bP1 h1.out.bH (by decide)) (ne_of_ty bP1 h1.out.bG (by decide)) (own_ty h1.out.own bP1 (by decide)))
  have hfin : MoreL B P K M H G n v xs F0 s x o0 t k w (.returned (.tuple #[])) w2 :=
    ⟨v', q, rfl, h2, hq2, hqw.out, ⟨o2, ls2, le2, ln2, hTk2, g3.out⟩, bw1.out.trans k2.bel, fun b hb hbP hbH hbG hbO => (k2.blk b (Nat.lt_of_lt_of_le hb hw1.out) hbH hbG hbO).trans (kw1.out b hb hbP)⟩
  replace hfin := Lib.hid hfin
  refine hK.out _ _ hS2 (fun _ => ?_)
  clear hK h2 k2 hS2 hS1 e1 e2 n1 n2 n3 n4 n5 n6 h h1 h0 hs1 bw1 kw1 hs0 hS0 b0 bq bP1 hq2 hTk2 g1 g3 hq bP
  refine wpAnyH_done (by kernel_rfl) ?_ _
  go_wp2_with fail
  go_end0
  exact hfin.out
end Go.Proofs.YtcijcifhdakhoaaFmt.Ex
