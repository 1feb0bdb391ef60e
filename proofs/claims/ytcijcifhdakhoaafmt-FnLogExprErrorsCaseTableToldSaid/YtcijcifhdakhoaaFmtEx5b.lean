/-
  SortableMsgs.Less at two located errors. No other condition.
-/
import Derived.Test.YtcijcifhdakhoaaFmtEx5
namespace Go.Proofs.YtcijcifhdakhoaaFmt.Ex
open Go.RowKit Go.Lib Go.Proofs.YtcijcifhdakhoaaFmt.Ints Go.Proofs.YtcijcifhdakhoaaFmt.Lg
def Bool1 (w : World) (y : Ending) (w' : World) : Prop := ∃ b, y = .returned (.bool b) ∧ Below w.heap.size w w'
theorem loc_lt {q k : Nat} {w : World} (h : IsLoc q k w) : q < w.heap.size := by obtain ⟨x, a, c, hq⟩ := h; exact lt_of_blk hq
set_option maxRecDepth 100000 in
set_option maxHeartbeats 4000000 in
theorem msgsLess (g N q0 k0 q1 k1 c : Nat) (x0 x1 : ByteArray) (w : World) (h : Two g N q0 k0 q1 k1 x0 x1 w) :
    Calls Tryf.prog 97 #[.slice (some ⟨g, 0, none⟩) 2 c, .int .i64 1, .int .i64 0] w (Bool1 w) := by
  have c0 : w.cell? ⟨g, 0, none⟩ = some (.slice none 0 0) := h.cell 0 (by omega)
  have c1 : w.cell? ⟨g, 1, none⟩ = some (.string ⟨#[]⟩) := h.cell 1 (by omega)
  have c2 : w.cell? ⟨g, 2, none⟩ = some .nilIface := h.cell 2 (by omega)
  have c3 : w.cell? ⟨g, 3, none⟩ = some (.pointer (some ⟨q0, 0, none⟩)) := h.cell 3 (by omega)
  have c4 : w.cell? ⟨g, 4, none⟩ = some (.string x0) := h.cell 4 (by omega)
  have c5 : w.cell? ⟨g, 5, none⟩ = some (.bool false) := h.cell 5 (by omega)
  have c6 : w.cell? ⟨g, 6, none⟩ = some (.int .u8 0) := h.cell 6 (by omega)
  have c7 : w.cell? ⟨g, 7, none⟩ = some (.int .u8 0) := h.cell 7 (by omega)
  have c8 : w.cell? ⟨g, 8, none⟩ = some (.slice none 0 0) := h.cell 8 (by omega)
  have c9 : w.cell? ⟨g, 9, none⟩ = some (.string ⟨#[]⟩) := h.cell 9 (by omega)
  have c10 : w.cell? ⟨g, 10, none⟩ = some .nilIface := h.cell 10 (by omega)
  have c11 : w.cell? ⟨g, 11, none⟩ = some (.pointer (some ⟨q1, 0, none⟩)) := h.cell 11 (by omega)
  have c12 : w.cell? ⟨g, 12, none⟩ = some (.string x1) := h.cell 12 (by omega)
  have c13 : w.cell? ⟨g, 13, none⟩ = some (.bool false) := h.cell 13 (by omega)
  have c14 : w.cell? ⟨g, 14, none⟩ = some (.int .u8 0) := h.cell 14 (by omega)
  have c15 : w.cell? ⟨g, 15, none⟩ = some (.int .u8 0) := h.cell 15 (by omega)
  have lg : g < w.heap.size := lt_of_cell c0
  have l0 := loc_lt h.h0
  have l1 := loc_lt h.h1
  have l0' : q0 < w.heap.size + 1 := by omega
  have l1' : q1 < w.heap.size + 1 := by omega
  obtain ⟨y0, a0, b0, p0⟩ := h.h0
  obtain ⟨y1, a1, b1, p1⟩ := h.h1
  clear h
  have d0 : w.cell? ⟨q0, 0, none⟩ = some (.string ⟨#[]⟩) := cell_of_row _ _ 0 _ _ _ p0
  have d1 : w.cell? ⟨q0, 1, none⟩ = some (.string ⟨#[]⟩) := cell_of_row _ _ 1 _ _ _ p0
  have d5 : w.cell? ⟨q0, 5, none⟩ = some (.int .i64 a0) := cell_of_row _ _ 5 _ _ _ p0
  have d6 : w.cell? ⟨q0, 6, none⟩ = some (.int .i64 b0) := cell_of_row _ _ 6 _ _ _ p0
  have e0 : w.cell? ⟨q1, 0, none⟩ = some (.string ⟨#[]⟩) := cell_of_row _ _ 0 _ _ _ p1
  have e1 : w.cell? ⟨q1, 1, none⟩ = some (.string ⟨#[]⟩) := cell_of_row _ _ 1 _ _ _ p1
  have e5 : w.cell? ⟨q1, 5, none⟩ = some (.int .i64 a1) := cell_of_row _ _ 5 _ _ _ p1
  have e6 : w.cell? ⟨q1, 6, none⟩ = some (.int .i64 b1) := cell_of_row _ _ 6 _ _ _ p1
  clear p0 p1
  have hn : ∀ w : World, (binOp .neq 39 (.agg #[.string ⟨#[]⟩, .string ⟨#[]⟩]) (.agg #[.string ⟨#[]⟩, .string ⟨#[]⟩])).run Tryf.prog w = .ok (.bool false) w := fun _ => by kernel_rfl
  by_cases hl : a1 = a0
  · subst hl
    by_cases hc : b1 = b0
    · subst hc
      go_enter Tryf.func97, Tryf.ntmps97
      go_wp2_with fail
      go_region
      go_wp2_with fail
      go_region
      go_wp2_with fail
      go_region
      go_wp2_with fail
      go_ret
      exact ⟨_, rfl, by go_grown⟩
    · go_enter Tryf.func97, Tryf.ntmps97
      go_wp2_with fail
      go_region
      go_wp2_with fail
      go_region
      go_wp2_with fail
      go_region
      go_wp2_with fail
      go_region
      go_wp2_with fail
      go_ret
      exact ⟨_, rfl, by go_grown⟩
  · go_enter Tryf.func97, Tryf.ntmps97
    go_wp2_with fail
    go_region
    go_wp2_with fail
    go_region
    go_wp2_with fail
    go_region
    go_wp2_with fail
    go_ret
    exact ⟨_, rfl, by go_grown⟩
end Go.Proofs.YtcijcifhdakhoaaFmt.Ex
