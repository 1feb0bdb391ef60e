/-
  ThreadSafeWaitGroup in one goroutine: MakeThreadSafeWaitGroup, Add, Done, Wait, the two looks. Condition: said at each.
-/
import Derived.Test.YtfliibbhdfiloaaBools
import Derived.Lib.Hide
import Derived.Laws.Cover3
import Derived.Laws.LoneSync
import Derived.Conc.LoneCalls
import Derived.Conc.LoneSelectN
import Derived.RegionTactic
import Derived.ChangeAlike
import Derived.Deep.QuietTactic
import Derived.BigQuiet
import Derived.StillTailTactics
namespace Go.Proofs.Ytfliibbhdfiloaa.Wg
open Go.RowKit Go.Conc Go.Proofs.Ytfliibbhdfiloaa.Ints

def gRow (c : Int) (ch : Nat) : Nat → Value := fun j => (#[.int .i32 c, .chan (some ch)] : Array Value).getD j undef
structure Grp (w : World) (G ch : Nat) (c : Int) (p : Bool) : Prop where
  row : w.rowIs G 49 2 (gRow c ch)
  chan : ∃ s r, w.heap[ch]? = some (.chan 1 (if p then #[.agg #[]] else #[]) false s r false)
theorem bytesU : ∃ i, Try.prog.info? 36 = some i ∧ i.bytes = 0 := by
  have h : (Try.prog.info? 36).map (·.bytes) = some 0 := by kernel_rfl
  obtain ⟨i, hi, hb⟩ := Option.map_eq_some_iff.1 h
  exact ⟨i, hi, hb⟩
theorem mk1 (w : World) : (Instr.makeChan 47 (.int .i64 1)).run Try.prog w = .ok (.chan (some w.heap.size)) (w.alloc (.chan 1 #[] false 0 0 false)) := by
  obtain ⟨i, hi, hb⟩ := bytesU
  simpa using run_makeChan (P := Try.prog) (w := w) Try.underlying47 hi .i64 1 (by omega) (by rw [hb]; omega)
theorem make (w : World) : Calls Try.prog 10 #[] w fun e w' => e = .returned (.pointer (some ⟨w.heap.size + 1, 0, none⟩)) ∧ Below w.heap.size w w' ∧ Grp w' (w.heap.size + 1) w.heap.size 0 false := by
  have hmk := mk1
  go_enter Try.func10, Try.ntmps10
  go_wp2_with fail
  go_ret
  have hz : (w.alloc (.chan 1 #[] false 0 0 false)).heap.size = w.heap.size + 1 := by simp
  refine ⟨rfl, ((Below.refl _ _).alloc (Nat.le_refl _) _).alloc (by simp) _, ⟨⟨#[.int .i32 0, .chan (some w.heap.size)], ?_, rfl, fun i hi => ?_⟩, ⟨0, 0, ?_⟩⟩⟩
  · rw [← hz]; exact heap_alloc_new _ _
  · match i, hi with
    | 0, _ | 1, _ => rfl
  · rw [Go.Deep.blk_alloc_lt _ _ _ (by simp)]; exact heap_alloc_new _ _
theorem counter (G ch : Nat) (c : Int) (p : Bool) (w : World) (h : Grp w G ch c p) : Calls Try.prog 13 #[.pointer (some ⟨G, 0, none⟩)] w fun e w' => e = .returned (.int .i32 c) ∧ w = w' := by
  have c0 : w.cell? ⟨G, 0, none⟩ = some (.int .i32 c) := h.row.cell (i := 0) (by omega)
  go_enter Try.func13, Try.ntmps13
  go_wp2_with fail
  go_ret
  exact ⟨rfl, rfl⟩
theorem pending (G ch : Nat) (c : Int) (p : Bool) (w : World) (h : Grp w G ch c p) : Calls Try.prog 14 #[.pointer (some ⟨G, 0, none⟩)] w fun e w' => e = .returned (.int .i64 (if p then 1 else 0)) ∧ w = w' := by
  have c1 : w.cell? ⟨G, 1, none⟩ = some (.chan (some ch)) := h.row.cell (i := 1) (by omega)
  obtain ⟨s, r, hc⟩ := h.chan
  have hlen := fun ty => run_len_chan (P := Try.prog) 47 ty Try.underlying47 hc
  clear hc h
  cases p <;> (
    go_enter Try.func14, Try.ntmps14
    go_wp2_with fail
    go_ret
    exact ⟨rfl, rfl⟩)
/-- What a call on the group of blocks G, ch leaves: all other blocks as they were. -/
structure OnlyG (G ch : Nat) (w w' : World) : Prop where
  below : Below (min G ch) w w'
  other : ∀ b, b < w.heap.size → b ≠ G → b ≠ ch → w'.heap[b]? = w.heap[b]?
theorem Grp.count {w : World} {G ch : Nat} {c : Int} {p : Bool} (h : Grp w G ch c p) (x : Int) : Grp (w.setCell ⟨G, 0, none⟩ (.int .i32 x)) G ch x p := by
  obtain ⟨s, r, hc⟩ := h.chan
  have hne : ch ≠ G := fun e => by
    obtain ⟨d, hd, _⟩ := h.row
    rw [e, hd] at hc
    cases hc
  exact ⟨(h.row.set 0 _).congr fun i hi => by
    match i, hi with
    | 0, _ | 1, _ => rfl, s, r, (Go.Deep.blk_setCell_other _ _ _ _ hne).trans hc⟩
theorem addPos (G ch : Nat) (c d : Int) (w : World) (h : Grp w G ch c false) (h1 : 0 < c + d) (h2 : c + d ≤ 131072) : Calls Try.prog 11 #[.pointer (some ⟨G, 0, none⟩), .int .i32 d] w fun e w' => e = .returned (.tuple #[]) ∧ OnlyG G ch w w' ∧ Grp w' G ch (c + d) false := by
  have c0 : w.cell? ⟨G, 0, none⟩ = some (.int .i32 c) := h.row.cell (i := 0) (by omega)
  have f0 := h.row.frozen 0
  have hadd := run_call_add (P := Try.prog) (f := 19) Try.func19 (by kernel_rfl) (by kernel_rfl) (by kernel_rfl) .i32 (by kernel_rfl) (y := d) (s := c + d) c0 f0 (by
    have e : IntKind.i32.wrap (c + d) = c + d := by simp [IntKind.wrap, IntKind.bits, IntKind.signed]; omega
    simp [go_sem, e])
  go_enter Try.func11, Try.ntmps11
  go_wp2_with fail
  go_end0
  exact ⟨rfl, ⟨(Below.refl _ _).setCell (p := ⟨G, 0, none⟩) (Nat.min_le_left _ _) _, fun b _ h1 _ => Go.Deep.blk_setCell_other _ _ _ _ h1⟩, h.count _⟩
set_option maxRecDepth 100000 in
theorem addZero (G ch : Nat) (c d : Int) (w : World) (h : Grp w G ch c false) (h1 : c + d = 0) : Calls Try.prog 11 #[.pointer (some ⟨G, 0, none⟩), .int .i32 d] w fun e w' => e = .returned (.tuple #[]) ∧ OnlyG G ch w w' ∧ Grp w' G ch 0 true := by
  have c0 : w.cell? ⟨G, 0, none⟩ = some (.int .i32 c) := h.row.cell (i := 0) (by omega)
  have f0 := h.row.frozen 0
  have hadd := run_call_add (P := Try.prog) (f := 19) Try.func19 (by kernel_rfl) (by kernel_rfl) (by kernel_rfl) .i32 (by kernel_rfl) (y := d) (s := 0) c0 f0 (by simp [go_sem, h1, IntKind.wrap, IntKind.bits, IntKind.signed])
  refine calls_of_loneTo fun cs => ?_
  have e : Frame.enter Try.prog 11 #[.pointer (some ⟨G, 0, none⟩), .int .i32 d] .normal = (base 11).at ⟨#[.pointer (some ⟨G, 0, none⟩), .int .i32 d, undef, undef, undef, undef, undef, undef, undef, undef, undef, undef, undef, undef, undef, undef, undef, undef, undef, undef], []⟩ [.code (Try.f11.body.getD .skip)] := by
    simp [Frame.enter, Frame.at, Try.func11, base, Try.f11]
  rw [e]
  refine LoneTo.goes (n := 40) ?_
  simp only [Try.f11, Option.getD_some]
  s_c stepG_seq
  s_reg
  s_op
  s_op
  s_op
  s_op
  s_op
  s_op
  have hG := h.count 0
  obtain ⟨s0, r0, hch⟩ := hG.chan
  have c1 : (w.setCell ⟨G, 0, none⟩ (.int .i32 0)).cell? ⟨G, 1, none⟩ = some (.chan (some ch)) := hG.row.cell (i := 1) (by omega)
  have hb1 : OnlyG G ch w (w.setCell ⟨G, 0, none⟩ (.int .i32 0)) := ⟨(Below.refl _ _).setCell (p := ⟨G, 0, none⟩) (Nat.min_le_left _ _) _, fun b _ h1 _ => Go.Deep.blk_setCell_other _ _ _ _ h1⟩
  clear c0 f0 hadd
  generalize (w.setCell ⟨G, 0, none⟩ (.int .i32 0)) = w1 at hG hch c1 hb1 ⊢
  s_c stepG_region_end
  s_c stepG_seq
  s_reg
  s_op
  s_op
  s_c stepG_region_end
  s_cond true
  s_reg
  s_op
  s_op
  s_op
  s_op
  s_op
  s_stop
  have hch' : w1.heap[ch]? = some (.chan 1 #[] false s0 r0 false) := by simpa using hch
  refine LoneTo.step (step_lone_send_room (c := ch) (cap := 1) (buf := #[]) (s := s0) (r := r0) (tm := false) (stepG_comm (cases := #[scase ch (.agg #[]) (.tuple #[])]) (blocking := true) (shape := .send) (w' := w1) rfl rfl (by decide) (by simp [execOp, scase, Act.eval])) hch' (by simp)) ?_
  rw [Frame.finish_at]
  walk_nrm
  have hlt : ch < w1.heap.size := (Array.getElem?_eq_some_iff.1 hch').1
  have hne : ch ≠ G := fun e => by
    obtain ⟨d, hd, _⟩ := hG.row
    rw [e, hd] at hch'
    cases hch'
  have hG2 : Grp (w1.setChan ch 1 #[.agg #[]] false (s0 + 1) r0 false) G ch 0 true := ⟨hG.row.of_block (by simp [World.setChan, Array.getElem?_setIfInBounds_ne, hne]), s0 + 1, r0, heap_setChan _ _ _ _ _ _ _ _ hlt⟩
  have hb2 : OnlyG G ch w (w1.setChan ch 1 #[.agg #[]] false (s0 + 1) r0 false) := ⟨below_setChan hb1.below (Nat.min_le_right G ch) 1 #[.agg #[]] false (s0 + 1) r0 false, fun b h1 h2 h3 => by
    have := hb1.other b h1 h2 h3
    rw [← this]; simp [World.setChan, Array.getElem?_setIfInBounds_ne, Ne.symm h3]⟩
  refine LoneTo.goes (n := 10) ?_
  s_c stepG_region_end
  s_c stepG_end
  s_stop
  exact LoneTo.done ⟨.returned (.tuple #[]), _, rfl, ⟨rfl, hb2, hG2⟩, rfl, rfl, rfl, rfl, _, Try.func11, by simp [results, Try.f11, Frame.at]⟩
theorem wait0 (G ch : Nat) (c : Int) (w : World) (h : Grp w G ch c true) : Calls Try.prog 15 #[.pointer (some ⟨G, 0, none⟩)] w fun e w' => e = .returned (.tuple #[]) ∧ OnlyG G ch w w' ∧ Grp w' G ch c false := by
  have c1 : w.cell? ⟨G, 1, none⟩ = some (.chan (some ch)) := h.row.cell (i := 1) (by omega)
  obtain ⟨s0, r0, hch⟩ := h.chan
  have hch' : w.heap[ch]? = some (.chan 1 #[.agg #[]] false s0 r0 false) := by simpa using hch
  refine calls_of_loneTo fun cs => ?_
  have e : Frame.enter Try.prog 15 #[.pointer (some ⟨G, 0, none⟩)] .normal = (base 15).at ⟨#[.pointer (some ⟨G, 0, none⟩), undef, undef, undef, undef, undef, undef], []⟩ [.code (Try.f15.body.getD .skip)] := by
    simp [Frame.enter, Frame.at, Try.func15, base, Try.f15]
  rw [e]
  refine LoneTo.goes (n := 40) ?_
  simp only [Try.f15, Option.getD_some]
  s_reg
  s_op
  s_op
  s_op
  s_op
  s_stop
  refine LoneTo.step (step_lone_recv_buf false (c := ch) (z := .agg #[]) (stepG_comm (cases := #[rcase ch (.agg #[])]) (blocking := true) (shape := .recv false) (w' := w) rfl rfl (by decide) (by simp [go_sem, rcase])) hch' (by simp)) ?_
  rw [Frame.finish_at]
  simp only [got]
  walk_nrm
  have hlt : ch < w.heap.size := (Array.getElem?_eq_some_iff.1 hch').1
  have hne : ch ≠ G := fun e => by
    obtain ⟨d, hd, _⟩ := h.row
    rw [e, hd] at hch'
    cases hch'
  have hG2 : Grp (w.setChan ch 1 #[] false s0 (r0 + 1) false) G ch c false := ⟨h.row.of_block (by simp [World.setChan, Array.getElem?_setIfInBounds_ne, hne]), s0, r0 + 1, heap_setChan _ _ _ _ _ _ _ _ hlt⟩
  have hb2 : OnlyG G ch w (w.setChan ch 1 #[] false s0 (r0 + 1) false) := ⟨below_setChan (Below.refl _ w) (Nat.min_le_right G ch) 1 #[] false s0 (r0 + 1) false, fun b h1 h2 h3 => by simp [World.setChan, Array.getElem?_setIfInBounds_ne, Ne.symm h3]⟩
  refine LoneTo.goes (n := 10) ?_
  s_c stepG_region_end
  s_c stepG_end
  s_stop
  exact LoneTo.done ⟨.returned (.tuple #[]), _, rfl, ⟨rfl, hb2, hG2⟩, rfl, rfl, rfl, rfl, _, Try.func15, by simp [results, Try.f15, Frame.at]⟩
theorem Grp.next {w w' : World} {G ch : Nat} {c : Int} {p : Bool} (h : Grp w G ch c p) (h1 : w'.heap[G]? = w.heap[G]?) (h2 : w'.heap[ch]? = w.heap[ch]?) : Grp w' G ch c p := by
  obtain ⟨s, r, hc⟩ := h.chan
  exact ⟨h.row.of_block h1, s, r, h2.trans hc⟩
theorem done (G ch : Nat) (c : Int) (w : World) (h : Grp w G ch c false) (hc : 0 < c) (hc2 : c ≤ 65536) :
    Calls Try.prog 12 #[.pointer (some ⟨G, 0, none⟩)] w fun e w' => e = .returned (.tuple #[]) ∧ OnlyG G ch w w' ∧ Grp w' G ch (c - 1) (decide (c = 1)) := by
  by_cases h1 : c = 1
  · subst h1
    go_enter Try.func12, Try.ntmps12
    go_wp2_with fail
    go_at_call 11
    refine (addZero G ch 1 (-1) w h (by omega)).mono ?_
    rintro e w1 ⟨rfl, L, g⟩
    go_wp2_with fail
    go_end0
    exact ⟨rfl, L, g⟩
  · go_enter Try.func12, Try.ntmps12
    go_wp2_with fail
    go_at_call 11
    refine (addPos G ch c (-1) w h (by omega) (by omega)).mono ?_
    rintro e w1 ⟨rfl, L, g⟩
    go_wp2_with fail
    go_end0
    rw [decide_eq_false h1]
    exact ⟨rfl, L, g⟩
theorem Grp.lt {w : World} {G ch : Nat} {c : Int} {p : Bool} (h : Grp w G ch c p) : G < w.heap.size ∧ ch < w.heap.size := by
  obtain ⟨s, r, hc⟩ := h.chan
  exact ⟨h.row.lt, (Array.getElem?_eq_some_iff.1 hc).1⟩
end Go.Proofs.Ytfliibbhdfiloaa.Wg
