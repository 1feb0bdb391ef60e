/-
  The log that NewDeferLog makes, the parser that stands on it. No condition.
-/
import Derived.Test.YtfalpclhekpnnaaFmtRx2
import Derived.Laws.EntriesVeiled
namespace Go.Proofs.YtfalpclhekpnnaaFmt.Rx
open Go.RowKit Go.Proofs.YtfalpclhekpnnaaFmt.Ints Go.Proofs.YtfalpclhekpnnaaFmt.Lg Go.Proofs.YtfalpclhekpnnaaFmt.U8

theorem five (w : World) (a b c d e : Obj) : (((((w.alloc a).alloc b).alloc c).alloc d).alloc e).heap[w.heap.size]? = some a ∧ (((((w.alloc a).alloc b).alloc c).alloc d).alloc e).heap[w.heap.size + 1]? = some b ∧ (((((w.alloc a).alloc b).alloc c).alloc d).alloc e).heap[w.heap.size + 1 + 1]? = some c ∧
    (((((w.alloc a).alloc b).alloc c).alloc d).alloc e).heap[w.heap.size + 1 + 1 + 1]? = some d ∧ (((((w.alloc a).alloc b).alloc c).alloc d).alloc e).heap[w.heap.size + 1 + 1 + 1 + 1]? = some e ∧
    Below w.heap.size w (((((w.alloc a).alloc b).alloc c).alloc d).alloc e) ∧ (((((w.alloc a).alloc b).alloc c).alloc d).alloc e).heap.size = w.heap.size + 1 + 1 + 1 + 1 + 1 := by
  have e1 : (w.alloc a).heap.size = w.heap.size + 1 := by simp
  have e2 : ((w.alloc a).alloc b).heap.size = w.heap.size + 1 + 1 := by simp
  have e3 : (((w.alloc a).alloc b).alloc c).heap.size = w.heap.size + 1 + 1 + 1 := by simp
  have e4 : ((((w.alloc a).alloc b).alloc c).alloc d).heap.size = w.heap.size + 1 + 1 + 1 + 1 := by simp
  refine ⟨?_, ?_, ?_, ?_, ?_, ((((((Below.refl _ _).alloc (Nat.le_refl _) _).alloc (by rw [e1]; omega) _).alloc (by rw [e2]; omega) _).alloc (by rw [e3]; omega) _).alloc (by rw [e4]; omega) _), by simp⟩
  · rw [Below.heap_alloc _ _ _ (by omega), Below.heap_alloc _ _ _ (by omega), Below.heap_alloc _ _ _ (by omega), Below.heap_alloc _ _ _ (by omega)]
    exact heap_alloc_new _ _
  · rw [Below.heap_alloc _ _ _ (by omega), Below.heap_alloc _ _ _ (by omega), Below.heap_alloc _ _ _ (by omega), ← e1]
    exact heap_alloc_new _ _
  · rw [Below.heap_alloc _ _ _ (by omega), Below.heap_alloc _ _ _ (by omega), ← e2]
    exact heap_alloc_new _ _
  · rw [Below.heap_alloc _ _ _ (by omega), ← e3]
    exact heap_alloc_new _ _
  · rw [← e4]
    exact heap_alloc_new _ _
def NewL (w : World) (e : Ending) (w' : World) : Prop :=
  e = .returned (.agg (logC w.heap.size (w.heap.size + 1 + 1 + 1) (w.heap.size + 1 + 1 + 1 + 1) (w.heap.size + 1 + 1))) ∧
    Lg w.heap.size w.heap.size (w.heap.size + 1 + 1 + 1) (w.heap.size + 1 + 1 + 1 + 1) (w.heap.size + 1 + 1) false 0 (.slice none 0 0) [] w' ∧ Below w.heap.size w w' ∧ w'.heap.size = w.heap.size + 1 + 1 + 1 + 1 + 1
set_option maxRecDepth 100000 in
set_option maxHeartbeats 1000000 in
theorem newLog (w : World) : Calls Tryf.prog 9 #[.int .u8 0, .map none] w (NewL w) := by
  go_enter Tryf.func9, Tryf.ntmps9
  go_wp2_with fail
  obtain ⟨q0, q1, q2, q3, q4, hb, hz⟩ := five w (.cells #[.int .u8 0] 39) (.cells (logC w.heap.size (w.heap.size + 1 + 1 + 1) (w.heap.size + 1 + 1 + 1 + 1) (w.heap.size + 1 + 1)) 37) (.cells #[.slice none 0 0] 162) (.cells #[.int .i32 0, .int .u32 0] 168) (.cells #[.bool false] 4)
  exact bodyPost_ret (v := .agg (logC w.heap.size (w.heap.size + 1 + 1 + 1) (w.heap.size + 1 + 1 + 1 + 1) (w.heap.size + 1 + 1)))
    (results_cell_row rfl _ _ (w.heap.size + 1) 37 _ (0, 0) _ rfl q1 (by rw [Tryf.underlying37]) rfl (by kernel_rfl)) rfl
    ⟨rfl, ⟨q0, q3, q4, q2, ⟨rfl, .inl ⟨rfl, rfl⟩⟩, by omega, by omega, by omega⟩, hb, hz⟩
theorem parser_cells (l0 l1 l2 l3 l4 l5 : Value) : ∃ C : Array Value, Tryf.prog.built 159 [(1, .agg #[l0, l1, l2, l3, l4, l5])] = some C ∧ C.size = 353 ∧
    C[18]? = some (.string ⟨#[]⟩) ∧ C[25]? = some (.int .u64 0) ∧ C[76]? = some (.bool false) ∧ C[51]? = some l0 ∧ C[52]? = some l1 ∧ C[53]? = some l2 ∧ C[54]? = some l3 ∧ C[55]? = some l4 ∧ C[56]? = some l5 := by
  have h1 : (Tryf.prog.built 159 [(1, .agg #[l0, l1, l2, l3, l4, l5])]).isSome = true := by kernel_rfl
  obtain ⟨C, hC⟩ := Option.isSome_iff_exists.1 h1
  have h2 : (Tryf.prog.built 159 [(1, .agg #[l0, l1, l2, l3, l4, l5])]).map (·.size) = some 353 := by kernel_rfl
  have a1 : (Tryf.prog.built 159 [(1, .agg #[l0, l1, l2, l3, l4, l5])]).bind (·[18]?) = some (.string ⟨#[]⟩) := by kernel_rfl
  have a2 : (Tryf.prog.built 159 [(1, .agg #[l0, l1, l2, l3, l4, l5])]).bind (·[25]?) = some (.int .u64 0) := by kernel_rfl
  have a3 : (Tryf.prog.built 159 [(1, .agg #[l0, l1, l2, l3, l4, l5])]).bind (·[76]?) = some (.bool false) := by kernel_rfl
  have b0 : (Tryf.prog.built 159 [(1, .agg #[l0, l1, l2, l3, l4, l5])]).bind (·[51]?) = some l0 := by kernel_rfl
  have b1 : (Tryf.prog.built 159 [(1, .agg #[l0, l1, l2, l3, l4, l5])]).bind (·[52]?) = some l1 := by kernel_rfl
  have b2 : (Tryf.prog.built 159 [(1, .agg #[l0, l1, l2, l3, l4, l5])]).bind (·[53]?) = some l2 := by kernel_rfl
  have b3 : (Tryf.prog.built 159 [(1, .agg #[l0, l1, l2, l3, l4, l5])]).bind (·[54]?) = some l3 := by kernel_rfl
  have b4 : (Tryf.prog.built 159 [(1, .agg #[l0, l1, l2, l3, l4, l5])]).bind (·[55]?) = some l4 := by kernel_rfl
  have b5 : (Tryf.prog.built 159 [(1, .agg #[l0, l1, l2, l3, l4, l5])]).bind (·[56]?) = some l5 := by kernel_rfl
  rw [hC] at h2 a1 a2 a3 b0 b1 b2 b3 b4 b5
  exact ⟨C, hC, by simpa using h2, a1, a2, a3, b0, b1, b2, b3, b4, b5⟩
/-- A parser and its log. -/
def NewP (F : Int) (w : World) (e : Ending) (w' : World) : Prop :=
  ∃ P K M H G : Nat, e = .returned (pt P) ∧ Px P K M H G F w' ∧ Lg w.heap.size K M H G false 0 (.slice none 0 0) [] w' ∧ Below w.heap.size w w'
set_option maxRecDepth 100000 in
set_option maxHeartbeats 1000000 in
theorem newParser (F : Int) (w : World) : Calls Tryf.prog 6 #[.int .u64 F] w (NewP F w) := by
  obtain ⟨C, hC, hsz, a1, a2, a3, b0, b1, b2, b3, b4, b5⟩ := parser_cells (fAdd w.heap.size (w.heap.size + 1 + 1 + 1) (w.heap.size + 1 + 1 + 1 + 1) (w.heap.size + 1 + 1)) (fHas (w.heap.size + 1 + 1 + 1) (w.heap.size + 1 + 1 + 1 + 1)) (fPeek (w.heap.size + 1 + 1 + 1) (w.heap.size + 1 + 1)) (fDone (w.heap.size + 1 + 1 + 1) (w.heap.size + 1 + 1)) (.int .i8 3) (.map none)
  replace hC := Lib.hid hC
  have hcs := Lib.hid (And.intro a1 (And.intro a2 (And.intro a3 (And.intro b0 (And.intro b1 (And.intro b2 (And.intro b3 (And.intro b4 b5))))))))
  clear a1 a2 a3 b0 b1 b2 b3 b4 b5
  go_enter Tryf.func6, Tryf.ntmps6
  go_wp2_with fail
  go_at_call 9
  refine (newLog w).mono ?_
  rintro e w1 ⟨rfl, hL, hb, hz⟩
  unfold logC
  replace hL := Lib.hid hL
  replace hb := Lib.hid hb
  replace hz := Lib.hid hz
  go_wp2_with (refine wpList_buildTo2 rfl 159 _ rfl _ rfl [(1, .agg #[fAdd w.heap.size (w.heap.size + 1 + 1 + 1) (w.heap.size + 1 + 1 + 1 + 1) (w.heap.size + 1 + 1), fHas (w.heap.size + 1 + 1 + 1) (w.heap.size + 1 + 1 + 1 + 1), fPeek (w.heap.size + 1 + 1 + 1) (w.heap.size + 1 + 1), fDone (w.heap.size + 1 + 1 + 1) (w.heap.size + 1 + 1), .int .i8 3, .map none])] (by kernel_rfl) C hC.out ?_)
  go_ret
  have q := heap_alloc_new w1 (.cells (C.setIfInBounds 23 (.int .u64 F)) 159)
  have f : ∀ j x, j ≠ 23 → C[j]? = some x → (w1.alloc (.cells (C.setIfInBounds 23 (.int .u64 F)) 159)).cell? ⟨w1.heap.size, j, none⟩ = some x := by
    intro j x hj hx
    simp only [World.cell?, q]
    rw [Array.getElem?_setIfInBounds_ne (Ne.symm hj)]
    exact hx
  have f23 : (w1.alloc (.cells (C.setIfInBounds 23 (.int .u64 F)) 159)).cell? ⟨w1.heap.size, 23, none⟩ = some (.int .u64 F) := by
    simp only [World.cell?, q]
    rw [Array.getElem?_setIfInBounds_self_of_lt (by omega)]
    rfl
  obtain ⟨a1, a2, a3, b0, b1, b2, b3, b4, b5⟩ := hcs.out
  have bA : Below w1.heap.size w1 (w1.alloc (.cells (C.setIfInBounds 23 (.int .u64 F)) 159)) := (Below.refl _ _).alloc (Nat.le_refl _) _
  exact ⟨w1.heap.size, w.heap.size, w.heap.size + 1 + 1 + 1, w.heap.size + 1 + 1 + 1 + 1, w.heap.size + 1 + 1, rfl,
    ⟨f _ _ (by decide) a1, f23, f _ _ (by decide) a2, f _ _ (by decide) b0, f _ _ (by decide) b1, f _ _ (by decide) b2, f _ _ (by decide) b3, f _ _ (by decide) b4, f _ _ (by decide) b5, f _ _ (by decide) a3, ⟨_, _, q⟩⟩,
    hL.out.below bA, hb.out.trans (bA.mono hb.out.size)⟩
end Go.Proofs.YtfalpclhekpnnaaFmt.Rx
