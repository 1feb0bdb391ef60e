/-
  strings.Builder: copyCheck, WriteByte, WriteString at this translation (its copyCheck bears a refusal where the library's toy panics): what they do to a builder of the call's own. Condition: Go's own limit on a length. After the worked walks of the shelf.
-/
import Derived.Test.YtgeijelkojgapaaDoorRows
import Derived.Lib.Strings
import Derived.Lib.Slices
import Derived.Lib.Walk
import Derived.Lib.Builder
import Derived.Lib.AppendStr
import Derived.WalkKit
import Derived.Laws.Externs
import Derived.Laws.IdiomCopy
import Derived.Lib.Hide
namespace Go.Proofs.YtgeijelkojgapaaDoor.Bld
open Go.RowKit Go.Lib
set_option maxRecDepth 100000

theorem szB : (Tryd.prog.info? 29).map (·.size) = some 2 := by kernel_rfl
theorem liesB : liesAt Tryd.prog Tryd.prog.depth 29 (2 / Tryd.prog.cellsOf 29) 0 29 1 = true := by kernel_rfl
theorem info8 : (Tryd.prog.info? 5).map (fun i => (i.zero, i.size, i.bytes)) = some (some (.int .u8 0), 1, 1) := by kernel_rfl
theorem parts8 : ∃ i, Tryd.prog.info? 5 = some i ∧ i.zero = some (.int .u8 0) ∧ i.size = 1 ∧ i.bytes = 1 := by
  obtain ⟨i, h1, h2⟩ := Option.map_eq_some_iff.1 info8
  injection h2 with h2 h3
  injection h3 with h3 h4
  exact ⟨i, h1, h2, h3, h4⟩
/-- The builder at b holds bs. -/
abbrev At (B b : Nat) (bs : List Value) (w : World) : Prop := BuilderAt 29 5 B b (.pointer (some ⟨b, 0, none⟩)) bs w
abbrev Is (B b : Nat) (bs : List Value) (w : World) : Prop := IsBuilder 29 5 B b bs w
def Wrote (v : Value) (B b : Nat) (bs : List Value) (w : World) (e : Ending) (w' : World) : Prop := e = .returned v ∧ At B b bs w' ∧ Below B w w'
theorem used (b : Nat) (w : World) (h0 : w.cell? ⟨b, 0, none⟩ = some (.pointer (some ⟨b, 0, none⟩))) :
    Calls Tryd.prog 15 #[.pointer (some ⟨b, 0, none⟩)] w fun e w' => e = .returned (.tuple #[]) ∧ w' = w := by
  obtain ⟨j, hj, _⟩ := Option.map_eq_some_iff.1 szB
  go_enter Tryd.func15, Tryd.ntmps15
  go_wp2
  rw [run_neq_ptr_same w _ Tryd.underlying26 hj]
  go_wp2
  go_end0
  exact ⟨rfl, rfl⟩
theorem fresh (b : Nat) (w : World) (h0 : w.cell? ⟨b, 0, none⟩ = some (.pointer none)) (hsh : w.shape? b = some (29, 2)) (hfz : w.frozen? ⟨b, 0, none⟩ = false) :
    Calls Tryd.prog 15 #[.pointer (some ⟨b, 0, none⟩)] w fun e w' => e = .returned (.tuple #[]) ∧ w' = w.setCell ⟨b, 0, none⟩ (.pointer (some ⟨b, 0, none⟩)) := by
  obtain ⟨j, hj, hjs⟩ := Option.map_eq_some_iff.1 szB
  go_enter Tryd.func15, Tryd.ntmps15
  go_wp2
  rw [run_to_unsafe w ⟨b, 0, none⟩ Tryd.underlying26 Tryd.underlying42 hj (by rw [hjs]; decide) hsh (Nat.zero_lt_succ 1)]
  simp only [Result.andThen]
  rw [Oper.upon_value]
  go_wp2
  rw [run_callFunc_extern Tryd.func17 (by kernel_rfl) (by kernel_rfl) (by kernel_rfl) (e := Extern.AbiNoEscape.same) (by kernel_rfl)]
  rw [run_noEscape]
  simp only [Result.andThen]
  rw [Oper.upon_value]
  go_wp2
  rw [run_from_unsafe w ⟨b, 0, none⟩ Tryd.underlying42 Tryd.underlying26 hj hsh liesB]
  simp only [Result.andThen]
  rw [Oper.upon_value]
  go_wp2
  go_end0
  exact ⟨rfl, rfl⟩
theorem check (B b : Nat) (bs : List Value) (w : World) (h : Is B b bs w) : Calls Tryd.prog 15 #[.pointer (some ⟨b, 0, none⟩)] w (Wrote (.tuple #[]) B b bs w) := by
  rcases h with h | h
  · refine (fresh b w h.cell0 h.shape h.frozen0).mono ?_
    rintro e w' ⟨rfl, rfl⟩
    exact ⟨rfl, h.used _, (Below.refl B w).setCell (p := ⟨b, 0, none⟩) h.1 _⟩
  · refine (used b w h.cell0).mono ?_
    rintro e w' ⟨rfl, rfl⟩
    exact ⟨rfl, h, Below.refl _ _⟩
set_option maxHeartbeats 2000000 in
theorem writeByte (B b : Nat) (bs : List Value) (c : Int) (w : World) (h : Is B b bs w) (hlen : bs.length + 1 ≤ 140737488355328) (hBw : B ≤ w.heap.size) :
    Calls Tryd.prog 9 #[.pointer (some ⟨b, 0, none⟩), .int .u8 c] w (Wrote .nilIface B b (bs ++ [.int .u8 c]) w) := by
  obtain ⟨i0, hi, hz0, hz1, hz2⟩ := parts8
  go_enter Tryd.func9, Tryd.ntmps9
  go_wp2_with fail
  go_at_call 15
  refine (check B b bs _ h).mono ?_
  rintro e w1 ⟨rfl, h1, hb1⟩
  obtain ⟨hB, v, hbk, hown, hne⟩ := h1
  have c0 : w1.cell? ⟨b, 0, none⟩ = some (.pointer (some ⟨b, 0, none⟩)) := by rw [cell_of_heap hbk]; rfl
  have c1 : w1.cell? ⟨b, 1, none⟩ = some v := by rw [cell_of_heap hbk]; rfl
  go_wp2_with (at_builtin; refine wpList_append_own _ rfl _ _ 27 rfl B 5 i0 (.int .u8 0) 1 1 Tryd.underlying27 hi hz0 hz1 hz2 rfl (by decide) _ _ _ rfl (hown.alloc _) ⟨w1.heap.size, 0, none⟩ 1 1 [.int .u8 c] rfl rfl ?c1 ?c2 ?c3 ?c4 ?c5 ?_)
  case c1 =>
    intro j u hj
    match j, hj with
    | 0, hj => simp at hj; subst hj; simp [Addr.add]
  case c2 => intro u hu; simp at hu; subst hu; rfl
  case c3 => unfold maxLen; omega
  case c4 => omega
  case c5 => have := hb1.size; simp; omega
  intro v' w2 hown' hgrow _
  have hlt : b < w1.heap.size := by
    rcases Nat.lt_or_ge b w1.heap.size with h' | h'
    · exact h'
    · simp [Array.getElem?_eq_none h'] at hbk
  have hb2 : w2.heap[b]? = some (.cells #[.pointer (some ⟨b, 0, none⟩), v] 29 (0, 0)) := by
    rw [hgrow.block b (by simp; omega) (fun e => hne e.symm), alloc_old w1 _ b hlt]
    exact hbk
  have d0 : w2.cell? ⟨b, 0, none⟩ = some (.pointer (some ⟨b, 0, none⟩)) := by rw [cell_of_heap hb2]; rfl
  have d1 : w2.cell? ⟨b, 1, none⟩ = some v := by rw [cell_of_heap hb2]; rfl
  have f1 : w2.frozen? ⟨b, 1, none⟩ = false := frozen_of_heap hb2 1
  obtain ⟨g, cap, rfl⟩ : ∃ g cap, v' = .slice (some ⟨g, 0, none⟩) (bs.length + 1) cap := by
    rcases hown'.2 with ⟨_, h0⟩ | ⟨g, cap, cur, hv, _⟩
    · omega
    · exact ⟨g, cap, hv⟩
  go_wp2
  go_ret
  refine ⟨rfl, ?_, ?_⟩
  · exact BuilderAt.put hB hb2 (bs' := bs ++ [.int .u8 c]) (by simpa using hown') (by decide)
  · exact ((hb1.alloc (by have := hb1.size; omega) _).grown hgrow (by have := hb1.size; simp; omega) (fun k hk => (hown.lt k hk).1)).setCell (p := ⟨b, 1, none⟩) hB _
set_option maxHeartbeats 2000000 in
theorem writeString (B b : Nat) (bs : List Value) (s : ByteArray) (w : World) (h : Is B b bs w) (hlen : bs.length + s.size ≤ 140737488355328) (hBw : B ≤ w.heap.size) :
    Calls Tryd.prog 8 #[.pointer (some ⟨b, 0, none⟩), .string s] w (Wrote (.tuple #[.int .i64 s.size, .nilIface]) B b (bs ++ strCells s) w) := by
  obtain ⟨i0, hi, hz0, hz1, hz2⟩ := parts8
  go_enter Tryd.func8, Tryd.ntmps8
  go_wp2_with fail
  go_at_call 15
  refine (check B b bs _ h).mono ?_
  rintro e w1 ⟨rfl, h1, hb1⟩
  obtain ⟨hB, v, hbk, hown, hne⟩ := h1
  have c0 : w1.cell? ⟨b, 0, none⟩ = some (.pointer (some ⟨b, 0, none⟩)) := by rw [cell_of_heap hbk]; rfl
  have c1 : w1.cell? ⟨b, 1, none⟩ = some v := by rw [cell_of_heap hbk]; rfl
  go_wp2_with (at_builtin; refine wpList_append_own_string _ rfl _ _ 27 9 rfl B 5 i0 Tryd.underlying27 Tryd.underlying9 hi hz0 hz1 hz2 _ _ _ rfl hown s rfl ?c3 ?c4 ?c5 ?_)
  case c3 => unfold maxLen; omega
  case c4 => omega
  case c5 => have := hb1.size; omega
  intro v' w2 hown' hgrow _
  have hlt : b < w1.heap.size := by
    rcases Nat.lt_or_ge b w1.heap.size with h' | h'
    · exact h'
    · simp [Array.getElem?_eq_none h'] at hbk
  have hb2 : w2.heap[b]? = some (.cells #[.pointer (some ⟨b, 0, none⟩), v] 29 (0, 0)) := by
    rw [hgrow.block b hlt (fun e => hne e.symm)]
    exact hbk
  have d0 : w2.cell? ⟨b, 0, none⟩ = some (.pointer (some ⟨b, 0, none⟩)) := by rw [cell_of_heap hb2]; rfl
  have d1 : w2.cell? ⟨b, 1, none⟩ = some v := by rw [cell_of_heap hb2]; rfl
  have f1 : w2.frozen? ⟨b, 1, none⟩ = false := frozen_of_heap hb2 1
  obtain ⟨ao, n', cap, rfl⟩ : ∃ ao n' cap, v' = .slice ao n' cap := by
    rcases hown'.2 with ⟨hv, _⟩ | ⟨g, cap, cur, hv, _⟩
    · exact ⟨_, _, _, hv⟩
    · exact ⟨_, _, _, hv⟩
  go_wp2
  go_ret2
  refine ⟨rfl, ?_, ?_⟩
  · exact BuilderAt.put hB hb2 (bs' := bs ++ strCells s) (by simpa [strCells_length] using hown') (by decide)
  · exact (hb1.grown hgrow (by have := hb1.size; omega) (fun k hk => (hown.lt k hk).1)).setCell (p := ⟨b, 1, none⟩) hB _
end Go.Proofs.YtgeijelkojgapaaDoor.Bld
