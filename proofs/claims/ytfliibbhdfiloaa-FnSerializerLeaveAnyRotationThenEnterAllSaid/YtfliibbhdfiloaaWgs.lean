/-
  sync.WaitGroup in one goroutine: Add(1) on a group at nought, Add(-1) on a group at one. Condition: said at each.
-/
import Derived.Test.YtfliibbhdfiloaaRowsI
import Derived.Lib.Hide
import Derived.Laws.LoneSync
import Derived.Laws.Externs
import Derived.Conc.LoneCalls
import Derived.Conc.DeferLaws
import Derived.Conc.WgGenW
namespace Go.Proofs.Ytfliibbhdfiloaa.Wgs
open Go.RowKit Go.Conc Go.ConcR Go.ConcR.Gen Go.Proofs.Ytfliibbhdfiloaa.Ints

/-- Group i of a row of n groups reads x; its sema is nought. -/
structure Wgr (w : World) (b i n : Nat) (x : Int) : Prop where
  row : ∃ F, w.rowIs b 45 (n * 2) F ∧ F (i * 2) = .int .u64 x ∧ F (i * 2 + 1) = .int .u32 0
  lt : i < n
theorem Wgr.state {w : World} {b i n : Nat} {x : Int} (h : Wgr w b i n x) : w.cell? ⟨b, i * 2, none⟩ = some (.int .u64 x) := by
  obtain ⟨F, hR, h1, _⟩ := h.row
  rw [← h1]; exact hR.cell (by have := h.lt; omega)
theorem Wgr.sema {w : World} {b i n : Nat} {x : Int} (h : Wgr w b i n x) : w.cell? ⟨b, i * 2 + 1, none⟩ = some (.int .u32 0) := by
  obtain ⟨F, hR, _, h1⟩ := h.row
  rw [← h1]; exact hR.cell (by have := h.lt; omega)
theorem Wgr.frozen {w : World} {b i n : Nat} {x : Int} (h : Wgr w b i n x) (j : Nat) : w.frozen? ⟨b, j, none⟩ = false := by
  obtain ⟨F, hR, _, _⟩ := h.row
  exact hR.frozen j
/-- The world behind: group i reads y, all else is as it was. -/
def Put (w : World) (b i n : Nat) (y : Int) (w' : World) : Prop := w' = w.setCell ⟨b, i * 2, none⟩ (.int .u64 y) ∧ Wgr w' b i n y
theorem Wgr.put {w : World} {b i n : Nat} {x : Int} (h : Wgr w b i n x) (y : Int) : Put w b i n y (w.setCell ⟨b, i * 2, none⟩ (.int .u64 y)) := by
  obtain ⟨F, hR, _, h1⟩ := h.row
  exact ⟨rfl, ⟨_, hR.set (i * 2) _, by simp, by simp [h1]⟩, h.lt⟩
theorem Put.sema {w w' : World} {b i n : Nat} {y : Int} (h : Put w b i n y w') : w'.cell? ⟨b, i * 2 + 1, none⟩ = some (.int .u32 0) := h.2.sema
theorem disable (w : World) : (callFunc 21 #[]).run Try.prog w = .ok (.value (.tuple #[])) w := run_call_mark0 Try.func21 (by kernel_rfl) (by kernel_rfl) (by kernel_rfl) .disable (by kernel_rfl) w
theorem enable (w : World) : (callFunc 22 #[]).run Try.prog w = .ok (.value (.tuple #[])) w := run_call_mark0 Try.func22 (by kernel_rfl) (by kernel_rfl) (by kernel_rfl) .enable (by kernel_rfl) w
theorem raceRead (a : Addr) (w : World) : (callFunc 28 #[.pointer (some a)]).run Try.prog w = .ok (.value (.tuple #[])) w := run_call_marked Try.func28 (by kernel_rfl) (by kernel_rfl) (by kernel_rfl) .read (by kernel_rfl) a w
theorem releaseMerge (a : Addr) (w : World) : (callFunc 20 #[.pointer (some a)]).run Try.prog w = .ok (.value (.tuple #[])) w := run_call_marked Try.func20 (by kernel_rfl) (by kernel_rfl) (by kernel_rfl) .releaseMerge (by kernel_rfl) a w
theorem inBubble (w : World) : (callFunc 23 #[]).run Try.prog w = .ok (.value (.bool false)) w := by
  rw [run_callFunc_extern Try.func23 (by kernel_rfl) (by kernel_rfl) (by kernel_rfl) (e := fun _ => pure (.bool false)) (by kernel_rfl)]
  rfl

set_option maxRecDepth 100000 in
set_option maxHeartbeats 8000000 in
theorem addPos (b i n : Nat) (w : World) (h : Wgr w b i n 0) : Calls Try.prog 16 #[.pointer (some ⟨b, i * 2, none⟩), .int .i64 1] w fun e w' => e = .returned (.tuple #[]) ∧ Put w b i n 4294967296 w' := by
  have c0 := h.state
  have f0 := h.frozen (i * 2)
  have c1 := h.sema
  have hdis := disable
  have hread := raceRead
  have hrel := releaseMerge
  have hbub := inBubble
  have hcv0 := run_convert_to_unsafe (P := Try.prog) (w := w) Try.underlying52 Try.underlying54 (by kernel_rfl) c0
  have hcv1 := run_convert_to_unsafe (P := Try.prog) (w := w) Try.underlying61 Try.underlying54 (by kernel_rfl) c1
  refine calls_of_loneTo fun cs => ?_
  have e : Frame.enter Try.prog 16 #[.pointer (some ⟨b, i * 2, none⟩), .int .i64 1] .normal = (base 16).at ⟨#[.pointer (some ⟨b, i * 2, none⟩), .int .i64 1, undef, undef, undef, undef, undef, undef, undef, undef, undef, undef, undef, undef, undef, undef, undef, undef, undef, undef, undef, undef, undef, undef, undef, undef, undef, undef, undef, undef, undef, undef, undef, undef, undef, undef, undef, undef, undef, undef, undef, undef, undef, undef, undef, undef, undef, undef, undef, undef, undef, undef, undef, undef, undef, undef, undef, undef, undef, undef, undef, undef, undef, undef, undef, undef, undef, undef, undef, undef, undef, undef, undef, undef, undef, undef, undef, undef, undef, undef, undef, undef, undef, undef, undef, undef, undef, undef, undef, undef, undef, undef, undef, undef, undef, undef, undef, undef, undef, undef, undef, undef, undef, undef, undef, undef, undef, undef, undef, undef, undef, undef, undef, undef, undef, undef, undef], []⟩ [.code (Try.f16.body.getD .skip)] := by
    simp [Frame.enter, Frame.at, Try.func16, base, Try.f16]
  rw [e]
  clear e
  refine LoneTo.goes (n := 400) ?_
  simp only [Try.f16, Option.getD_some]
  s_c stepG_seq
  s_cond true
  s_c stepG_seq
  s_c stepG_seq
  s_reg
  s_op
  try w_num
  s_op
  try w_num
  s_c stepG_region_end
  s_cond false
  s_c stepG_skip
  s_c stepG_seq
  s_reg
  s_op
  try w_num
  s_c stepG_region_end
  s_reg
  s_in; rw [stepG_defer rfl rfl (by decide) rfl]; simp only [goes_go]; refine ⟨trivial, ?_⟩; walk_nrm
  s_c stepG_region_end
  s_c stepG_seq
  s_reg
  s_op
  try w_num
  s_c stepG_region_end
  s_c stepG_seq
  s_c stepG_seq
  s_reg
  s_op
  try w_num
  s_c stepG_region_end
  s_cond false
  s_c stepG_skip
  s_c stepG_seq
  s_reg
  s_op
  try w_num
  s_op
  try w_num
  s_op
  try w_num
  s_op
  try w_num
  s_op
  try w_num
  s_op
  try w_num
  s_call Try.func27 (by kernel_rfl) Try.f27
  s_c stepG_seq
  s_reg
  s_op
  try w_num
  s_c stepG_region_end
  s_c stepG_seq
  s_reg
  s_op
  try w_num
  s_op
  try w_num
  s_op
  try w_num
  s_op
  try w_num
  have hadd := run_call_add (P := Try.prog) (f := 39) Try.func39 (by kernel_rfl) (by kernel_rfl) (by kernel_rfl) .u64 (by kernel_rfl) (y := 4294967296) (s := 4294967296) c0 f0 (by simp [go_sem, IntKind.wrap, IntKind.bits, IntKind.signed])
  s_op
  have hB := h.put 4294967296
  clear hadd c0 f0 c1 hcv0 hcv1
  generalize (w.setCell ⟨b, i * 2, none⟩ (.int .u64 4294967296)) = w1 at hB ⊢
  have c1 := hB.sema
  have hcv1 := run_convert_to_unsafe (P := Try.prog) (w := w1) Try.underlying61 Try.underlying54 (by kernel_rfl) c1
  s_op
  try w_num
  s_c stepG_region_end
  s_c stepG_ret'
  s_leave1 Try.func27
  s_op
  try w_num
  s_c stepG_region_end
  s_c stepG_seq
  s_c stepG_seq
  s_reg
  s_op
  try w_num
  s_op
  try w_num
  s_op
  try w_num
  s_op
  try w_num
  s_in; rw [stepG_unwanted rfl rfl]; simp only [goes_go]; refine ⟨trivial, ?_⟩; walk_nrm
  s_in; rw [stepG_unwanted rfl rfl]; simp only [goes_go]; refine ⟨trivial, ?_⟩; walk_nrm
  s_op
  try w_num
  s_c stepG_region_end
  s_cond false
  s_c stepG_skip
  s_c stepG_seq
  s_reg
  s_op
  try w_num
  s_op
  try w_num
  s_op
  try w_num
  s_op
  try w_num
  s_c stepG_region_end
  s_c stepG_seq
  s_reg
  s_op
  try w_num
  s_op
  try w_num
  s_op
  try w_num
  s_op
  try w_num
  s_c stepG_region_end
  s_c stepG_seq
  s_c stepG_seq
  s_reg
  s_op
  try w_num
  s_op
  try w_num
  s_op
  try w_num
  s_op
  try w_num
  s_op
  try w_num
  s_op
  try w_num
  s_op
  try w_num
  s_op
  try w_num
  s_op
  try w_num
  s_op
  try w_num
  s_c stepG_region_end
  s_cond true
  s_reg
  s_op
  try w_num
  s_op
  try w_num
  s_op
  try w_num
  s_op
  s_op
  try w_num
  s_c stepG_region_end
  s_c stepG_seq
  s_c stepG_seq
  s_reg
  s_op
  try w_num
  s_op
  try w_num
  s_c stepG_region_end
  s_cond false
  s_c stepG_skip
  s_c stepG_seq
  s_c stepG_seq
  s_reg
  s_op
  try w_num
  s_op
  try w_num
  s_op
  try w_num
  s_in; rw [stepG_unwanted rfl rfl]; simp only [goes_go]; refine ⟨trivial, ?_⟩; walk_nrm
  s_in; rw [stepG_unwanted rfl rfl]; simp only [goes_go]; refine ⟨trivial, ?_⟩; walk_nrm
  s_op
  try w_num
  s_op
  try w_num
  s_in; rw [stepG_unwanted rfl rfl]; simp only [goes_go]; refine ⟨trivial, ?_⟩; walk_nrm
  s_in; rw [stepG_unwanted rfl rfl]; simp only [goes_go]; refine ⟨trivial, ?_⟩; walk_nrm
  s_in; rw [stepG_unwanted rfl rfl]; simp only [goes_go]; refine ⟨trivial, ?_⟩; walk_nrm
  s_in; rw [stepG_unwanted rfl rfl]; simp only [goes_go]; refine ⟨trivial, ?_⟩; walk_nrm
  s_op
  try w_num
  s_c stepG_region_end
  s_cond false
  s_c stepG_skip
  s_c stepG_seq
  s_c stepG_seq
  s_reg
  s_op
  try w_num
  s_op
  try w_num
  s_op
  try w_num
  s_in; rw [stepG_unwanted rfl rfl]; simp only [goes_go]; refine ⟨trivial, ?_⟩; walk_nrm
  s_in; rw [stepG_unwanted rfl rfl]; simp only [goes_go]; refine ⟨trivial, ?_⟩; walk_nrm
  s_op
  try w_num
  s_c stepG_region_end
  s_cond true
  s_c stepG_ret'
  s_stop
  refine LoneTo.step (step_solo_go rfl (stepG_unwind_entry (w' := w1) (v := .tuple #[]) (evs := #[mk .enable]) rfl Try.func22 (by kernel_rfl) (by kernel_rfl) (by kernel_rfl) (e := fun _ => do mark .enable; pure Extern.Race.none_) (by kernel_rfl) (by simp [Extern.Race.none_]) (by simp [mk]) (by simp [mk]))) ?_
  exact LoneTo.done ⟨.returned (.tuple #[]), _, rfl, ⟨rfl, hB⟩, rfl, rfl, rfl, rfl, _, Try.func16, by simp [results, Try.f16, Frame.at]⟩

set_option maxRecDepth 100000 in
set_option maxHeartbeats 8000000 in
theorem addNeg (b i n : Nat) (w : World) (h : Wgr w b i n 4294967296) : Calls Try.prog 16 #[.pointer (some ⟨b, i * 2, none⟩), .int .i64 (-1)] w fun e w' => e = .returned (.tuple #[]) ∧ Put w b i n 0 w' := by
  have c0 := h.state
  have f0 := h.frozen (i * 2)
  have c1 := h.sema
  have hdis := disable
  have hread := raceRead
  have hrel := releaseMerge
  have hbub := inBubble
  have hcv0 := run_convert_to_unsafe (P := Try.prog) (w := w) Try.underlying52 Try.underlying54 (by kernel_rfl) c0
  have hcv1 := run_convert_to_unsafe (P := Try.prog) (w := w) Try.underlying61 Try.underlying54 (by kernel_rfl) c1
  refine calls_of_loneTo fun cs => ?_
  have e : Frame.enter Try.prog 16 #[.pointer (some ⟨b, i * 2, none⟩), .int .i64 (-1)] .normal = (base 16).at ⟨#[.pointer (some ⟨b, i * 2, none⟩), .int .i64 (-1), undef, undef, undef, undef, undef, undef, undef, undef, undef, undef, undef, undef, undef, undef, undef, undef, undef, undef, undef, undef, undef, undef, undef, undef, undef, undef, undef, undef, undef, undef, undef, undef, undef, undef, undef, undef, undef, undef, undef, undef, undef, undef, undef, undef, undef, undef, undef, undef, undef, undef, undef, undef, undef, undef, undef, undef, undef, undef, undef, undef, undef, undef, undef, undef, undef, undef, undef, undef, undef, undef, undef, undef, undef, undef, undef, undef, undef, undef, undef, undef, undef, undef, undef, undef, undef, undef, undef, undef, undef, undef, undef, undef, undef, undef, undef, undef, undef, undef, undef, undef, undef, undef, undef, undef, undef, undef, undef, undef, undef, undef, undef, undef, undef, undef, undef], []⟩ [.code (Try.f16.body.getD .skip)] := by
    simp [Frame.enter, Frame.at, Try.func16, base, Try.f16]
  rw [e]
  clear e
  refine LoneTo.goes (n := 400) ?_
  simp only [Try.f16, Option.getD_some]
  s_c stepG_seq
  s_cond true
  s_c stepG_seq
  s_c stepG_seq
  s_reg
  s_op
  try w_num
  s_op
  try w_num
  s_c stepG_region_end
  s_cond true
  s_reg
  s_op
  try w_num
  s_op
  s_op
  try w_num
  s_c stepG_region_end
  s_c stepG_seq
  s_reg
  s_op
  try w_num
  s_c stepG_region_end
  s_reg
  s_in; rw [stepG_defer rfl rfl (by decide) rfl]; simp only [goes_go]; refine ⟨trivial, ?_⟩; walk_nrm
  s_c stepG_region_end
  s_c stepG_seq
  s_reg
  s_op
  try w_num
  s_c stepG_region_end
  s_c stepG_seq
  s_c stepG_seq
  s_reg
  s_op
  try w_num
  s_c stepG_region_end
  s_cond false
  s_c stepG_skip
  s_c stepG_seq
  s_reg
  s_op
  try w_num
  s_op
  try w_num
  s_op
  try w_num
  s_op
  try w_num
  s_op
  try w_num
  s_op
  try w_num
  s_call Try.func27 (by kernel_rfl) Try.f27
  s_c stepG_seq
  s_reg
  s_op
  try w_num
  s_c stepG_region_end
  s_c stepG_seq
  s_reg
  s_op
  try w_num
  s_op
  try w_num
  s_op
  try w_num
  s_op
  try w_num
  have hadd := run_call_add (P := Try.prog) (f := 39) Try.func39 (by kernel_rfl) (by kernel_rfl) (by kernel_rfl) .u64 (by kernel_rfl) (y := 18446744069414584320) (s := 0) c0 f0 (by simp [go_sem, IntKind.wrap, IntKind.bits, IntKind.signed])
  s_op
  have hB := h.put 0
  clear hadd c0 f0 c1 hcv0 hcv1
  generalize (w.setCell ⟨b, i * 2, none⟩ (.int .u64 0)) = w1 at hB ⊢
  have c1 := hB.sema
  have hcv1 := run_convert_to_unsafe (P := Try.prog) (w := w1) Try.underlying61 Try.underlying54 (by kernel_rfl) c1
  s_op
  try w_num
  s_c stepG_region_end
  s_c stepG_ret'
  s_leave1 Try.func27
  s_op
  try w_num
  s_c stepG_region_end
  s_c stepG_seq
  s_c stepG_seq
  s_reg
  s_op
  try w_num
  s_op
  try w_num
  s_op
  try w_num
  s_op
  try w_num
  s_in; rw [stepG_unwanted rfl rfl]; simp only [goes_go]; refine ⟨trivial, ?_⟩; walk_nrm
  s_in; rw [stepG_unwanted rfl rfl]; simp only [goes_go]; refine ⟨trivial, ?_⟩; walk_nrm
  s_op
  try w_num
  s_c stepG_region_end
  s_cond false
  s_c stepG_skip
  s_c stepG_seq
  s_reg
  s_op
  try w_num
  s_op
  try w_num
  s_op
  try w_num
  s_op
  try w_num
  s_c stepG_region_end
  s_c stepG_seq
  s_reg
  s_op
  try w_num
  s_op
  try w_num
  s_op
  try w_num
  s_op
  try w_num
  s_c stepG_region_end
  s_c stepG_seq
  s_c stepG_seq
  s_reg
  s_op
  try w_num
  s_op
  try w_num
  s_op
  try w_num
  s_op
  try w_num
  s_op
  try w_num
  s_in; rw [stepG_unwanted rfl rfl]; simp only [goes_go]; refine ⟨trivial, ?_⟩; walk_nrm
  s_in; rw [stepG_unwanted rfl rfl]; simp only [goes_go]; refine ⟨trivial, ?_⟩; walk_nrm
  s_in; rw [stepG_unwanted rfl rfl]; simp only [goes_go]; refine ⟨trivial, ?_⟩; walk_nrm
  s_in; rw [stepG_unwanted rfl rfl]; simp only [goes_go]; refine ⟨trivial, ?_⟩; walk_nrm
  s_op
  try w_num
  s_c stepG_region_end
  s_cond false
  s_c stepG_skip
  s_c stepG_seq
  s_c stepG_seq
  s_reg
  s_op
  try w_num
  s_op
  try w_num
  s_c stepG_region_end
  s_cond false
  s_c stepG_skip
  s_c stepG_seq
  s_c stepG_seq
  s_reg
  s_op
  try w_num
  s_op
  try w_num
  s_op
  try w_num
  s_in; rw [stepG_unwanted rfl rfl]; simp only [goes_go]; refine ⟨trivial, ?_⟩; walk_nrm
  s_in; rw [stepG_unwanted rfl rfl]; simp only [goes_go]; refine ⟨trivial, ?_⟩; walk_nrm
  s_op
  try w_num
  s_op
  try w_num
  s_in; rw [stepG_unwanted rfl rfl]; simp only [goes_go]; refine ⟨trivial, ?_⟩; walk_nrm
  s_in; rw [stepG_unwanted rfl rfl]; simp only [goes_go]; refine ⟨trivial, ?_⟩; walk_nrm
  s_in; rw [stepG_unwanted rfl rfl]; simp only [goes_go]; refine ⟨trivial, ?_⟩; walk_nrm
  s_in; rw [stepG_unwanted rfl rfl]; simp only [goes_go]; refine ⟨trivial, ?_⟩; walk_nrm
  s_op
  try w_num
  s_c stepG_region_end
  s_cond false
  s_c stepG_skip
  s_c stepG_seq
  s_c stepG_seq
  s_reg
  s_op
  try w_num
  s_op
  try w_num
  s_op
  try w_num
  s_op
  try w_num
  s_op
  try w_num
  s_op
  try w_num
  s_c stepG_region_end
  s_cond true
  s_c stepG_ret'
  s_stop
  refine LoneTo.step (step_solo_go rfl (stepG_unwind_entry (w' := w1) (v := .tuple #[]) (evs := #[mk .enable]) rfl Try.func22 (by kernel_rfl) (by kernel_rfl) (by kernel_rfl) (e := fun _ => do mark .enable; pure Extern.Race.none_) (by kernel_rfl) (by simp [Extern.Race.none_]) (by simp [mk]) (by simp [mk]))) ?_
  exact LoneTo.done ⟨.returned (.tuple #[]), _, rfl, ⟨rfl, hB⟩, rfl, rfl, rfl, rfl, _, Try.func16, by simp [results, Try.f16, Frame.at]⟩
end Go.Proofs.Ytfliibbhdfiloaa.Wgs
