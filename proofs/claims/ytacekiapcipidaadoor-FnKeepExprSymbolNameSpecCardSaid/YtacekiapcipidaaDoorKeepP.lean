/-
  The parser that is made; callRuntime; keepExprSymbolName. No condition.
-/
import Derived.Test.YtacekiapcipidaaDoorKeep2
import Derived.Test.YtacekiapcipidaaDoorToUtf16
namespace Go.Proofs.YtacekiapcipidaaDoor.Sym
open Go.RowKit Go.ChangeShapes Go.WideShapes Go.ChangeAt Go.Proofs.YtacekiapcipidaaDoor.Ints Go.Proofs.YtacekiapcipidaaDoor.MapX Go.Proofs.YtacekiapcipidaaDoor.ToUtf16

def prs (r n : Nat) : List (Nat × Value) := [(20, .map (some r)), (58, .pointer (some ⟨n, 0, none⟩)), (7, .pointer (some ⟨n, 0, none⟩))]
theorem parser_cells (r n : Nat) : ∃ C : Array Value, Tryd.prog.built 176 (prs r n) = some C ∧ C.size = 353 ∧ C[66]? = some (.int .u32 0) ∧ C[32]? = some (.bool false) ∧ C[106]? = some (.slice none 0 0) ∧ C[108]? = some (.slice none 0 0)
    ∧ C[117]? = some (.map (some r)) ∧ C[187]? = some (.pointer (some ⟨n, 0, none⟩)) ∧ C[350]? = some (.bool false) ∧ C[105]? = some (.pointer none) := by
  have h1 : (Tryd.prog.built 176 (prs r n)).isSome = true := by kernel_rfl
  obtain ⟨C, hC⟩ := Option.isSome_iff_exists.1 h1
  have h2 : (Tryd.prog.built 176 (prs r n)).map (·.size) = some 353 := by kernel_rfl
  have h3 : (Tryd.prog.built 176 (prs r n)).bind (·[66]?) = some (.int .u32 0) := by kernel_rfl
  have h4 : (Tryd.prog.built 176 (prs r n)).bind (·[32]?) = some (.bool false) := by kernel_rfl
  have h5 : (Tryd.prog.built 176 (prs r n)).bind (·[106]?) = some (.slice none 0 0) := by kernel_rfl
  have h6 : (Tryd.prog.built 176 (prs r n)).bind (·[108]?) = some (.slice none 0 0) := by kernel_rfl
  have h7 : (Tryd.prog.built 176 (prs r n)).bind (·[117]?) = some (.map (some r)) := by kernel_rfl
  have h8 : (Tryd.prog.built 176 (prs r n)).bind (·[187]?) = some (.pointer (some ⟨n, 0, none⟩)) := by kernel_rfl
  have h9 : (Tryd.prog.built 176 (prs r n)).bind (·[350]?) = some (.bool false) := by kernel_rfl
  have h10 : (Tryd.prog.built 176 (prs r n)).bind (·[105]?) = some (.pointer none) := by kernel_rfl
  rw [hC] at h2 h3 h4 h5 h6 h7 h8 h9 h10
  exact ⟨C, hC, by simpa using h2, by simpa using h3, by simpa using h4, by simpa using h5, by simpa using h6, by simpa using h7, by simpa using h8, by simpa using h9, by simpa using h10⟩
def NewK (w : World) (e : Ending) (w' : World) : Prop := ∃ P Sc Mp F f, e = .returned (.pointer (some ⟨P, 0, none⟩)) ∧ Below w.heap.size w w' ∧ Pq w.heap.size w' P Sc Mp F f
theorem gd {A : Array Value} {k : Nat} {v : Value} (h : A[k]? = some v) : A.getD k undef = v := by
  obtain ⟨hl, he⟩ := Array.getElem?_eq_some_iff.1 h
  simp [Array.getD, hl, he]
theorem new_k (w : World) (A S : Array Value) (hS : S.size = 16) (s5 : S[5]? = some (.slice none 0 0)) (hs : A.size = 353) (h3 : A[66]? = some (.int .u32 0)) (h4 : A[32]? = some (.bool false)) (h5 : A[106]? = some (.slice none 0 0)) (h6 : A[108]? = some (.slice none 0 0))
    (h7 : A[117]? = some (.map (some (w.heap.size + 1)))) (h8 : A[187]? = some (.pointer (some ⟨w.heap.size, 0, none⟩))) (h9 : A[350]? = some (.bool false)) (h10 : A[105]? = some (.pointer none)) :
    NewK w (.returned (.pointer (some ⟨w.heap.size + 1 + 1, 0, none⟩))) (((w.alloc (.cells S 59)).alloc (.map #[] 0)).alloc (.cells A 176)) := by
  have hr := row_new ((w.alloc (.cells S 59)).alloc (.map #[] 0)) A 176 353 hs
  have hc := ((row_new w S 59 16 hS).alloc (.map #[] 0)).alloc (.cells A 176)
  have hm : (((w.alloc (.cells S 59)).alloc (.map #[] 0)).alloc (.cells A 176)).heap[w.heap.size + 1]? = some (.map #[] 0) := by
    rw [Go.Deep.blk_alloc_lt _ _ _ (by simp), show w.heap.size + 1 = (w.alloc (.cells S 59)).heap.size from by simp]
    exact heap_alloc_new _ _
  rw [World.size_alloc, World.size_alloc] at hr
  exact ⟨w.heap.size + 1 + 1, w.heap.size, w.heap.size + 1, _, _, rfl, (((Below.refl _ _).alloc (Nat.le_refl _) _).alloc (by simp) _).alloc (by simp; omega) _, ⟨hr, World.ownsRow_nil _ _ _ _, World.ownsRow_nil _ _ _ _⟩, gd h3, gd h4, gd h5, gd h6, gd h7, gd h8, gd h9, gd h10, hc, gd s5, hm, by omega, by omega, by omega⟩
set_option maxRecDepth 100000 in
set_option maxHeartbeats 1000000 in
theorem newParser (w : World) : Calls Tryd.prog 5 #[] w (NewK w) := by
  obtain ⟨C, hC, hsz, c1, c2, c3, c4, c5, c6, c7, c8⟩ := parser_cells (w.heap.size + 1) w.heap.size
  replace hC := Lib.hid hC
  replace c1 := Lib.hid c1
  replace c2 := Lib.hid c2
  replace c3 := Lib.hid c3
  replace c4 := Lib.hid c4
  replace c5 := Lib.hid c5
  replace c6 := Lib.hid c6
  replace c7 := Lib.hid c7
  replace c8 := Lib.hid c8
  replace hsz := Lib.hid hsz
  have hmm := @run_makeMap Tryd.prog
  go_enter Tryd.func5, Tryd.ntmps5
  go_wp2_with (refine wpList_buildTo2 rfl 176 _ rfl _ rfl (prs (w.heap.size + 1) w.heap.size) (by kernel_rfl) C hC.out ?_)
  go_ret
  exact new_k w C _ rfl rfl hsz.out c1.out c2.out c3.out c4.out c5.out c6.out c7.out c8.out
end Go.Proofs.YtacekiapcipidaaDoor.Sym
