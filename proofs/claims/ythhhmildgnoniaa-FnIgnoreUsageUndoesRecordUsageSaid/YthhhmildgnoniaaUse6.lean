/-
  The usage parser that is made. No condition.
-/
import Derived.Test.YthhhmildgnoniaaUse5
import Derived.WalkLawsBesides
import Derived.WalkSpells
import Derived.Laws.MakeOwn
namespace Go.Proofs.Ythhhmildgnoniaa.Use
open Go.RowKit Go.ChangeShapes Go.WideShapes Go.ChangeAt Go.Proofs.Ythhhmildgnoniaa.Ints Go.Maps

def zs : Array Value := #[.pointer none, .string ByteArray.empty, .int .u32 0, .int .u32 0, .int .u32 0, .int .u32 0, .int .u32 0, .int .u16 0, .int .u8 0, .int .u8 0]
theorem infoSym : (Try.prog.info? 192).map (fun i => (i.zero, i.size, i.bytes)) = some (some (.agg zs), 10, 48) := by kernel_rfl
theorem info32 : (Try.prog.info? 23).map (fun i => (i.zero, i.size, i.bytes)) = some (some (.int .u32 0), 1, 4) := by kernel_rfl
theorem info_parts {x : Option TypeInfo} {z : Value} {s b : Nat} (h : x.map (fun i => (i.zero, i.size, i.bytes)) = some (some z, s, b)) : ∃ i, x = some i ∧ i.zero = some z ∧ i.size = s ∧ i.bytes = b := by
  cases x with
  | none => cases h
  | some i => simp at h; exact ⟨i, rfl, h.1, h.2.1, h.2.2⟩
theorem makeS (n : Nat) (hn : n ≤ 4096) (w : World) : (Instr.makeSlice 115 (.int .i64 (n : Int)) (.int .i64 (n : Int))).run Try.prog w =
    .ok (.slice (some ⟨w.heap.size, 0, none⟩) n n) (w.alloc (.cells (madeCells zs (n * 10)) 192)) := by
  obtain ⟨i, hi, hz, hs, hb⟩ := info_parts infoSym
  have h := run_make_rowN (P := Try.prog) 115 192 i _ Try.underlying115 hi hz .i64 .i64 n n (Nat.le_refl _) (by rw [hb]; omega) (by omega) w
  rw [hs] at h
  exact h
theorem made_syms (w : World) (n : Nat) : ∃ G, (w.alloc (.cells (madeCells zs (n * 10)) 192)).rowIs w.heap.size 192 (n * 10) G ∧ ∀ i, i < n → G (i * 10 + 4) = .int .u32 ((fun _ => 0 : Nat → Nat) i : Int) := by
  refine ⟨fun i => (madeCells zs (n * 10)).getD i undef, ?_, fun i hi => ?_⟩
  · have h := World.rowIs_alloc w (madeCells zs (n * 10)) 192 (fun i => (madeCells zs (n * 10)).getD i undef) (fun i hi => by simp [Array.getD, hi])
    rwa [size_madeCells] at h
  · have h1 : i * 10 + 4 < n * 10 := by omega
    have h2 : (i * 10 + 4) % 10 = 4 := by omega
    simp [madeCells, h1, zs, h2]
theorem parser_cells : ∃ C : Array Value, Try.prog.built 175 [] = some C ∧ C.size = 353 ∧ C[105]? = some (.pointer none) := by
  have h1 : (Try.prog.built 175 []).isSome = true := by kernel_rfl
  obtain ⟨C, hC⟩ := Option.isSome_iff_exists.1 h1
  have h2 : (Try.prog.built 175 []).map (·.size) = some 353 := by kernel_rfl
  have h3 : (Try.prog.built 175 []).bind (·[105]?) = some (.pointer none) := by kernel_rfl
  rw [hC] at h2 h3
  exact ⟨C, hC, by simpa using h2, by simpa using h3⟩
def NewU (n : Nat) (dead tp wp : Bool) (w : World) (e : Ending) (w' : World) : Prop :=
  ∃ P S T q, e = .returned (.pointer (some ⟨P, 0, none⟩)) ∧ (q = none ↔ wp = false) ∧ St w' P S T n q dead tp (fun _ => 0) (fun _ => 0) (fun _ => 0) (.map []) 0 ∧ Below w.heap.size w w' ∧ (∀ b, SS S T q b → w.heap.size ≤ b)
theorem fin (n : Nat) (dead tp wp : Bool) (w w3 w' : World) (A : Array Value) (v : Value) (hn : n ≤ 4096) (q : Option (Nat × Nat))
    (h3 : w3 = (((w.alloc (.cells A 175)).alloc (.cells (madeCells zs (n * 10)) 192)).alloc (.cells (madeCells #[.int .u32 0] n) 23)))
    (a105 : A[105]? = some (.pointer (q.map fun q => ⟨q.1, 0, none⟩))) (a106 : A[106]? = some (.slice (some ⟨w.heap.size + 1, 0, none⟩) n n)) (a108 : A[108]? = some (.slice (some ⟨w.heap.size + 1 + 1, 0, none⟩) n n))
    (a350 : A[350]? = some (.bool dead)) (a32 : A[32]? = some (.bool tp)) (hq : q = none ↔ wp = false) (hv : v = .pointer (some ⟨w.heap.size, 0, none⟩)) (hB : Below w3.heap.size w3 w')
    (hp : ∀ p M, q = some (p, M) → w'.cell? ⟨p, 4, none⟩ = some (.map (some M)) ∧ w'.ownsMap Try.prog 171 useR M 0 (.map []) ∧ w3.heap.size ≤ M ∧ w3.heap.size ≤ p ∧ M ≠ p) :
    NewU n dead tp wp w (.returned v) w' := by
  subst h3
  subst hv
  have e1 : (w.alloc (.cells A 175)).heap.size = w.heap.size + 1 := by simp
  have e2 : ((w.alloc (.cells A 175)).alloc (.cells (madeCells zs (n * 10)) 192)).heap.size = w.heap.size + 2 := by simp
  have e3 : (((w.alloc (.cells A 175)).alloc (.cells (madeCells zs (n * 10)) 192)).alloc (.cells (madeCells #[.int .u32 0] n) 23)).heap.size = w.heap.size + 3 := by simp
  have hP : (w.alloc (.cells A 175)).heap[w.heap.size]? = some (.cells A 175 (0, 0)) := heap_alloc_new _ _
  have hS := made_syms (w.alloc (.cells A 175)) n
  have hT := World.rowIs_made ((w.alloc (.cells A 175)).alloc (.cells (madeCells zs (n * 10)) 192)) (.int .u32 0) n 23
  obtain ⟨G, hG, hg⟩ := hS
  have hG' := hG.alloc (.cells (madeCells #[.int .u32 0] n) 23)
  rw [e1] at hG'
  rw [e2] at hT
  have b1 : Below w.heap.size w (((w.alloc (.cells A 175)).alloc (.cells (madeCells zs (n * 10)) 192)).alloc (.cells (madeCells #[.int .u32 0] n) 23)) := (((Below.refl _ _).alloc (Nat.le_refl _) _).alloc (by omega) _).alloc (by omega) _
  have b2 : Below (w.heap.size + 1) (w.alloc (.cells A 175)) (((w.alloc (.cells A 175)).alloc (.cells (madeCells zs (n * 10)) 192)).alloc (.cells (madeCells #[.int .u32 0] n) 23)) := ((Below.refl _ _).alloc (by omega) _).alloc (by omega) _
  have hP' := (b2.block w.heap.size (by omega)).trans hP
  have hP3 := (hB.block w.heap.size (by omega)).trans hP'
  have cell : ∀ k v, A[k]? = some v → w'.cell? ⟨w.heap.size, k, none⟩ = some v := fun k v h => (cell_of_row w' w.heap.size k A _ (0, 0) hP3).trans h
  refine ⟨w.heap.size, w.heap.size + 1, w.heap.size + 2, q, rfl, hq, ⟨⟨cell _ _ a105, cell _ _ a106, cell _ _ a108, cell _ _ a350, cell _ _ a32⟩, ⟨G, hG'.of_block (hB.block _ (by omega)), hg⟩, hT.of_block (hB.block _ (by omega)), fun p M e => ?_, by omega, fun _ _ => by simp, hn, by omega⟩, b1.trans (hB.mono (by omega)), ?_⟩
  · obtain ⟨h1, h2, h3, h4, h5⟩ := hp p M e
    exact ⟨h1, h2, V.empty n, by omega, by omega, by omega, h5, by omega, by omega⟩
  · rintro b (rfl | rfl | ⟨p, e⟩)
    · omega
    · omega
    · have := (hp p b e).2.2.1
      omega
set_option maxRecDepth 100000 in
set_option maxHeartbeats 1000000 in
theorem newParser (n : Nat) (dead tp wp : Bool) (w : World) (hn : n ≤ 4096) :
    Calls Try.prog 6 #[.int .i64 n, .bool dead, .bool tp, .bool wp] w (NewU n dead tp wp w) := by
  obtain ⟨C, hC, hsz, h105⟩ := parser_cells
  replace hC := Lib.hid hC
  replace h105 := Lib.hid h105
  have hmS := makeS n hn
  have hmk := run_make_row' (P := Try.prog) 22 23 (.int .u32 0) 4 Try.underlying22 info32 rfl .i64 .i64 n (by omega) (by omega)
  have hmm := @run_makeMap Try.prog
  cases wp
  · go_enter Try.func6, Try.ntmps6
    go_wp2_with (refine wpList_buildTo2 rfl 175 _ rfl _ rfl [] (by kernel_rfl) C hC.out ?_)
    have h5 := h105.out
    go_ret
    exact fin n dead tp false w _ _ _ _ hn none rfl (by simp [hsz, (Array.getElem?_eq_some_iff.1 h5).2]) (by simp [hsz]) (by simp [hsz]) (by simp [hsz]) (by simp [hsz]) (by simp) rfl (Below.refl _ _) (fun p M e => by cases e)
  · go_enter Try.func6, Try.ntmps6
    go_wp2_with (refine wpList_buildTo2 rfl 175 _ rfl _ rfl [] (by kernel_rfl) C hC.out ?_)
    go_ret
    refine fin n dead tp true w _ _ _ _ hn (some (w.heap.size + 1 + 1 + 1 + 1, w.heap.size + 1 + 1 + 1)) rfl (by simp [hsz]) (by simp [hsz]) (by simp [hsz]) (by simp [hsz]) (by simp [hsz]) (by simp) rfl (((Below.refl _ _).alloc (Nat.le_refl _) _).alloc (by simp) _) (fun p M e => ?_)
    cases e
    generalize hX : (((w.alloc _).alloc _).alloc _) = X
    have eX : w.heap.size + 1 + 1 + 1 = X.heap.size := by rw [← hX]; simp
    rw [eX]
    refine ⟨?_, (World.ownsMap_made X Try.prog 171 useR).alloc _, Nat.le_refl _, Nat.le_succ _, by omega⟩
    have e1 : X.heap.size + 1 = (X.alloc (.map #[] 0)).heap.size := by simp
    rw [e1]
    exact cell_of_row _ _ 4 _ _ _ (heap_alloc_new _ _)
end Go.Proofs.Ythhhmildgnoniaa.Use
