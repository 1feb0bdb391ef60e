/-
  The parser that FnLogExprErrorsCaseTable makes: its log, its source, its tracker. No condition.
-/
import Derived.Test.YtcijcifhdakhoaaFmtEx1
import Derived.Test.YtcijcifhdakhoaaFmtBuild2
import Derived.Lib.BufferWrite
import Derived.Laws.Cover3
import Derived.WalkSpells
import Derived.RegionTactic
import Derived.ChangeAlike
import Derived.BigRegion
import Derived.Deep.RegionLaw
import Derived.StillTailTactics
import Derived.IntWalk
import Derived.Laws.EntriesVeiled
namespace Go.Proofs.YtcijcifhdakhoaaFmt.Ex
open Go.RowKit Go.ChangeShapes Go.WideShapes Go.ChangeAt Go.Proofs.YtcijcifhdakhoaaFmt.Ints Go.Proofs.YtcijcifhdakhoaaFmt.Lg

theorem five (w : World) (a b c d e : Obj) : (((((w.alloc a).alloc b).alloc c).alloc d).alloc e).heap[w.heap.size]? = some a ∧ (((((w.alloc a).alloc b).alloc c).alloc d).alloc e).heap[w.heap.size + 1]? = some b ∧ (((((w.alloc a).alloc b).alloc c).alloc d).alloc e).heap[w.heap.size + 1 + 1]? = some c ∧
    (((((w.alloc a).alloc b).alloc c).alloc d).alloc e).heap[w.heap.size + 1 + 1 + 1]? = some d ∧ (((((w.alloc a).alloc b).alloc c).alloc d).alloc e).heap[w.heap.size + 1 + 1 + 1 + 1]? = some e ∧
    Below w.heap.size w (((((w.alloc a).alloc b).alloc c).alloc d).alloc e) ∧ (((((w.alloc a).alloc b).alloc c).alloc d).alloc e).heap.size = w.heap.size + 1 + 1 + 1 + 1 + 1 := by
  have e1 : (w.alloc a).heap.size = w.heap.size + 1 := by simp
  have e2 : ((w.alloc a).alloc b).heap.size = w.heap.size + 1 + 1 := by simp
  have e3 : (((w.alloc a).alloc b).alloc c).heap.size = w.heap.size + 1 + 1 + 1 := by simp
  have e4 : ((((w.alloc a).alloc b).alloc c).alloc d).heap.size = w.heap.size + 1 + 1 + 1 + 1 := by simp
  refine ⟨?_, ?_, ?_, ?_, ?_, ((((((Below.refl _ _).alloc (Nat.le_refl _) _).alloc (by rw [e1]; omega) _).alloc (by rw [e2]; omega) _).alloc (by rw [e3]; omega) _).alloc (by rw [e4]; omega) _), by simp⟩
  · rw [Below.heap_alloc _ _ _ (by omega), Below.heap_alloc _ _ _ (by omega), Below.heap_alloc _ _ _ (by omega), Below.heap_alloc _ _ _ (by omega)]
    exact heap_alloc_new _ _
  · rw [Below.heap_alloc _ _ _ (by omega), Below.heap_alloc _ _ _ (by omega), Below.heap_alloc _ _ _ (by omega), ← e1]
    exact heap_alloc_new _ _
  · rw [Below.heap_alloc _ _ _ (by omega), Below.heap_alloc _ _ _ (by omega), ← e2]
    exact heap_alloc_new _ _
  · rw [Below.heap_alloc _ _ _ (by omega), ← e3]
    exact heap_alloc_new _ _
  · rw [← e4]
    exact heap_alloc_new _ _
def NewL (w : World) (e : Ending) (w' : World) : Prop :=
  ∃ K M H G : Nat, e = .returned (.agg (logC K M H G)) ∧ Lg w.heap.size K M H G false 0 (.slice none 0 0) [] w' ∧ Below w.heap.size w w'
set_option maxRecDepth 100000 in
set_option maxHeartbeats 1000000 in
theorem newLog (w : World) : Calls Tryf.prog 12 #[.int .u8 0, .map none] w (NewL w) := by
  go_enter Tryf.func12, Tryf.ntmps12
  go_wp2_with fail
  obtain ⟨q0, q1, q2, q3, q4, hb, hz⟩ := five w (.cells #[.int .u8 0] 57) (.cells (logC w.heap.size (w.heap.size + 1 + 1 + 1) (w.heap.size + 1 + 1 + 1 + 1) (w.heap.size + 1 + 1)) 55) (.cells #[.slice none 0 0] 179) (.cells #[.int .i32 0, .int .u32 0] 185) (.cells #[.bool false] 4)
  exact bodyPost_ret (v := .agg (logC w.heap.size (w.heap.size + 1 + 1 + 1) (w.heap.size + 1 + 1 + 1 + 1) (w.heap.size + 1 + 1)))
    (results_cell_row rfl _ _ (w.heap.size + 1) 55 _ (0, 0) _ rfl q1 (by rw [Tryf.underlying55]) rfl (by kernel_rfl)) rfl
    ⟨w.heap.size, w.heap.size + 1 + 1 + 1, w.heap.size + 1 + 1 + 1 + 1, w.heap.size + 1 + 1, rfl, ⟨q0, q3, q4, q2, ⟨rfl, .inl ⟨rfl, rfl⟩⟩, by omega, by omega, by omega⟩, hb⟩
def srcV (s : ByteArray) : Array Value := #[.string ⟨#[]⟩, .string ⟨#[]⟩, .string ⟨#[]⟩, .string s, .string ⟨#[]⟩, .string ⟨#[]⟩, .string ⟨#[]⟩, .string ⟨#[]⟩, .int .u8 0, .int .u32 0]
def trkV (s : ByteArray) : Value := .agg #[.string s, .string ⟨#[]⟩, .string ⟨#[]⟩, .int .i32 0, .int .i32 0, .int .i32 0, .int .i32 0, .bool true, .bool false, .bool true]
def Track (s : ByteArray) (w : World) (e : Ending) (w' : World) : Prop := e = .returned (trkV s) ∧ Below w.heap.size w w'
set_option maxRecDepth 100000 in
theorem track (S : Nat) (w : World) (s : ByteArray) (hS : w.rowIs S 47 10 (fun j => (srcV s).getD j undef)) : Calls Tryf.prog 13 #[.pointer (some ⟨S, 0, none⟩)] w (Track s w) := by
  have c0 : w.cell? ⟨S, 0, none⟩ = some (.string ⟨#[]⟩) := hS.cell (i := 0) (by omega)
  have c1 : w.cell? ⟨S, 1, none⟩ = some (.string ⟨#[]⟩) := hS.cell (i := 1) (by omega)
  have c2 : w.cell? ⟨S, 3, none⟩ = some (.string s) := hS.cell (i := 3) (by omega)
  have hl := hS.lt
  go_enter Tryf.func13, Tryf.ntmps13
  go_wp2_with fail
  go_region
  go_wp2_with fail
  exact bodyPost_ret (v := trkV s) (by simp [results, Tryf.results13, go_sem, trkV]) rfl ⟨rfl, ((Below.refl _ _).alloc (Nat.le_refl _) _).drew⟩
theorem oper_build2 {P : Program} {o : Oper} {a : Act} {w : World} {K : Act → World → Prop} {Q : Exit → Act → World → Prop} (t : TypeId) (parts : Array (Nat × Operand)) (ho : o.op = .build t parts)
    (l : List (Nat × Value)) (hl : (parts.map fun (i, x) => (i, a.eval x)).toList = l) (cells : Array Value) (hf : P.built t l = some cells) (h : K (a.put o.dst (.agg cells)) w) : o.wp P a w K Q := by
  subst hl
  refine wp_build t parts ho (by rw [hf]; rfl) ?_
  rw [hf]
  exact h
theorem parser_cells (s : ByteArray) (l0 l1 l2 l3 l4 l5 : Value) : ∃ A : Array Value, Tryf.prog.built 165 [(1, .agg #[l0, l1, l2, l3, l4, l5]), (2, .agg (srcV s)), (3, trkV s)] = some A ∧ A.size = 353 ∧ A[18]? = some (.string ⟨#[]⟩) ∧ A[23]? = some (.int .u64 0) ∧ A[51]? = some (l0) ∧ A[52]? = some (l1) ∧ A[53]? = some (l2) ∧ A[54]? = some (l3) ∧ A[55]? = some (l4) ∧ A[56]? = some (l5) ∧ A[60]? = some (.string s) ∧ A[67]? = some (.string s) ∧ A[68]? = some (.string ⟨#[]⟩) ∧ A[69]? = some (.string ⟨#[]⟩) ∧ A[70]? = some (.int .i32 0) ∧ A[71]? = some (.int .i32 0) ∧ A[72]? = some (.int .i32 0) ∧ A[73]? = some (.int .i32 0) ∧ A[74]? = some (.bool true) ∧ A[75]? = some (.bool false) ∧ A[76]? = some (.bool true) := by
  have h1 : (Tryf.prog.built 165 [(1, .agg #[l0, l1, l2, l3, l4, l5]), (2, .agg (srcV s)), (3, trkV s)]).isSome = true := by kernel_rfl
  obtain ⟨A, hA⟩ := Option.isSome_iff_exists.1 h1
  have h2 : (Tryf.prog.built 165 [(1, .agg #[l0, l1, l2, l3, l4, l5]), (2, .agg (srcV s)), (3, trkV s)]).map (·.size) = some 353 := by kernel_rfl
  have a18 : (Tryf.prog.built 165 [(1, .agg #[l0, l1, l2, l3, l4, l5]), (2, .agg (srcV s)), (3, trkV s)]).bind (·[18]?) = some (.string ⟨#[]⟩) := by kernel_rfl
  have a23 : (Tryf.prog.built 165 [(1, .agg #[l0, l1, l2, l3, l4, l5]), (2, .agg (srcV s)), (3, trkV s)]).bind (·[23]?) = some (.int .u64 0) := by kernel_rfl
  have a51 : (Tryf.prog.built 165 [(1, .agg #[l0, l1, l2, l3, l4, l5]), (2, .agg (srcV s)), (3, trkV s)]).bind (·[51]?) = some (l0) := by kernel_rfl
  have a52 : (Tryf.prog.built 165 [(1, .agg #[l0, l1, l2, l3, l4, l5]), (2, .agg (srcV s)), (3, trkV s)]).bind (·[52]?) = some (l1) := by kernel_rfl
  have a53 : (Tryf.prog.built 165 [(1, .agg #[l0, l1, l2, l3, l4, l5]), (2, .agg (srcV s)), (3, trkV s)]).bind (·[53]?) = some (l2) := by kernel_rfl
  have a54 : (Tryf.prog.built 165 [(1, .agg #[l0, l1, l2, l3, l4, l5]), (2, .agg (srcV s)), (3, trkV s)]).bind (·[54]?) = some (l3) := by kernel_rfl
  have a55 : (Tryf.prog.built 165 [(1, .agg #[l0, l1, l2, l3, l4, l5]), (2, .agg (srcV s)), (3, trkV s)]).bind (·[55]?) = some (l4) := by kernel_rfl
  have a56 : (Tryf.prog.built 165 [(1, .agg #[l0, l1, l2, l3, l4, l5]), (2, .agg (srcV s)), (3, trkV s)]).bind (·[56]?) = some (l5) := by kernel_rfl
  have a60 : (Tryf.prog.built 165 [(1, .agg #[l0, l1, l2, l3, l4, l5]), (2, .agg (srcV s)), (3, trkV s)]).bind (·[60]?) = some (.string s) := by kernel_rfl
  have a67 : (Tryf.prog.built 165 [(1, .agg #[l0, l1, l2, l3, l4, l5]), (2, .agg (srcV s)), (3, trkV s)]).bind (·[67]?) = some (.string s) := by kernel_rfl
  have a68 : (Tryf.prog.built 165 [(1, .agg #[l0, l1, l2, l3, l4, l5]), (2, .agg (srcV s)), (3, trkV s)]).bind (·[68]?) = some (.string ⟨#[]⟩) := by kernel_rfl
  have a69 : (Tryf.prog.built 165 [(1, .agg #[l0, l1, l2, l3, l4, l5]), (2, .agg (srcV s)), (3, trkV s)]).bind (·[69]?) = some (.string ⟨#[]⟩) := by kernel_rfl
  have a70 : (Tryf.prog.built 165 [(1, .agg #[l0, l1, l2, l3, l4, l5]), (2, .agg (srcV s)), (3, trkV s)]).bind (·[70]?) = some (.int .i32 0) := by kernel_rfl
  have a71 : (Tryf.prog.built 165 [(1, .agg #[l0, l1, l2, l3, l4, l5]), (2, .agg (srcV s)), (3, trkV s)]).bind (·[71]?) = some (.int .i32 0) := by kernel_rfl
  have a72 : (Tryf.prog.built 165 [(1, .agg #[l0, l1, l2, l3, l4, l5]), (2, .agg (srcV s)), (3, trkV s)]).bind (·[72]?) = some (.int .i32 0) := by kernel_rfl
  have a73 : (Tryf.prog.built 165 [(1, .agg #[l0, l1, l2, l3, l4, l5]), (2, .agg (srcV s)), (3, trkV s)]).bind (·[73]?) = some (.int .i32 0) := by kernel_rfl
  have a74 : (Tryf.prog.built 165 [(1, .agg #[l0, l1, l2, l3, l4, l5]), (2, .agg (srcV s)), (3, trkV s)]).bind (·[74]?) = some (.bool true) := by kernel_rfl
  have a75 : (Tryf.prog.built 165 [(1, .agg #[l0, l1, l2, l3, l4, l5]), (2, .agg (srcV s)), (3, trkV s)]).bind (·[75]?) = some (.bool false) := by kernel_rfl
  have a76 : (Tryf.prog.built 165 [(1, .agg #[l0, l1, l2, l3, l4, l5]), (2, .agg (srcV s)), (3, trkV s)]).bind (·[76]?) = some (.bool true) := by kernel_rfl
  rw [hA] at h2 a18 a23 a51 a52 a53 a54 a55 a56 a60 a67 a68 a69 a70 a71 a72 a73 a74 a75 a76
  exact ⟨A, hA, by simpa using h2, a18, a23, a51, a52, a53, a54, a55, a56, a60, a67, a68, a69, a70, a71, a72, a73, a74, a75, a76⟩
/-- What the parser holds besides the tracker. -/
structure Ps (K M H G : Nat) (s : ByteArray) (F0 : Nat → Value) : Prop where
  l0 : F0 51 = fAdd K M H G
  l1 : F0 52 = fHas M H
  l2 : F0 53 = fPeek M G
  l3 : F0 54 = fDone M G
  l4 : F0 55 = .int .i8 3
  l5 : F0 56 = .map none
  src : F0 60 = .string s
  ft : F0 23 = .int .u64 0
def NewQ (s : ByteArray) (w : World) (e : Ending) (w' : World) : Prop :=
  ∃ (P K M H G : Nat) (F0 : Nat → Value), e = .returned (.pointer (some ⟨P, 0, none⟩)) ∧ w.heap.size ≤ P ∧ Tk P F0 s 0 0 0 0 true false w' ∧ Ps K M H G s F0 ∧ Lg w.heap.size K M H G false 0 (.slice none 0 0) [] w' ∧ Below w.heap.size w w'
theorem srcKeep {S : Nat} {w1 W W' : World} {s : ByteArray} (h : W.rowIs S 47 10 (fun j => (srcV s).getD j undef) ∧ Below w1.heap.size w1 W) (hb : Below W.heap.size W W') : W'.rowIs S 47 10 (fun j => (srcV s).getD j undef) ∧ Below w1.heap.size w1 W' :=
  ⟨h.1.of_block (hb.block _ h.1.lt), h.2.trans (hb.mono h.2.size)⟩
theorem newP_fin {w w1 wx : World} {S K M H G : Nat} {B0 : Nat} {s : ByteArray} {A : Array Value} (hS : w.heap.size = S) (hb1 : Below S w w1) (hB : Below w1.heap.size w1 wx) (hz : A.size = 353) (hL : Lg B0 K M H G false 0 (.slice none 0 0) [] wx) (hB0 : w1.heap.size ≤ B0)
    (ha : A[18]? = some (.string ⟨#[]⟩) ∧ A[23]? = some (.int .u64 0) ∧ A[51]? = some (fAdd K M H G) ∧ A[52]? = some (fHas M H) ∧ A[53]? = some (fPeek M G) ∧ A[54]? = some (fDone M G) ∧ A[55]? = some (.int .i8 3) ∧ A[56]? = some (.map none) ∧ A[60]? = some (.string s) ∧ A[67]? = some (.string s) ∧ A[68]? = some (.string ⟨#[]⟩) ∧ A[69]? = some (.string ⟨#[]⟩) ∧ A[70]? = some (.int .i32 0) ∧ A[71]? = some (.int .i32 0) ∧ A[72]? = some (.int .i32 0) ∧ A[73]? = some (.int .i32 0) ∧ A[74]? = some (.bool true) ∧ A[75]? = some (.bool false) ∧ A[76]? = some (.bool true)) :
    NewQ s w (.returned (.pointer (some ⟨wx.heap.size, 0, none⟩))) (wx.alloc (.cells A 165)) := by
  subst hS
  have h1 := hb1.size
  have h2 := hB.size
  have hx : Below w.heap.size w wx := hb1.trans (hB.mono h1)
  obtain ⟨a18, a23, a51, a52, a53, a54, a55, a56, a60, a67, a68, a69, a70, a71, a72, a73, a74, a75, a76⟩ := ha
  have g : ∀ j v, A[j]? = some v → A.getD j undef = v := fun j v h => by simp [Array.getD_eq_getD_getElem?, h]
  have hr := World.rowIs_alloc wx A 165 (fun j => A.getD j undef) (fun i hi => by simp [Array.getD, hi])
  rw [hz] at hr
  have hLa := hL.below ((Below.refl wx.heap.size wx).alloc (Nat.le_refl _) (.cells A 165))
  refine ⟨wx.heap.size, K, M, H, G, fun j => A.getD j undef, rfl, by omega, ⟨fun j => A.getD j undef, hr, ⟨g _ _ a67, g _ _ a68, g _ _ a69, g _ _ a70, g _ _ a71, g _ _ a72, g _ _ a73, g _ _ a74, g _ _ a75, g _ _ a76, fun _ _ => rfl⟩⟩,
    ⟨g _ _ a51, g _ _ a52, g _ _ a53, g _ _ a54, g _ _ a55, g _ _ a56, g _ _ a60, g _ _ a23⟩, ⟨hLa.bK, hLa.bM, hLa.bH, hLa.bG, ⟨rfl, .inl ⟨rfl, rfl⟩⟩, ?_, ?_, ?_⟩, hx.alloc (by omega) _⟩
  · have := hLa.hM; omega
  · have := hLa.hH; omega
  · have := hLa.hG; omega
set_option maxRecDepth 100000 in
set_option maxHeartbeats 2000000 in
theorem newParser (s : ByteArray) (w : World) : Calls Tryf.prog 6 #[.string s] w (NewQ s w) := by
  have hpc := Lib.hid (fun K M H G : Nat => parser_cells s (fAdd K M H G) (fHas M H) (fPeek M G) (fDone M G) (.int .i8 3) (.map none))
  go_enter Tryf.func6, Tryf.ntmps6
  go_wp2_with fail
  have hR : (w.alloc (.cells #[.string ⟨#[]⟩, .string ⟨#[]⟩, .string ⟨#[]⟩, .string s, .string ⟨#[]⟩, .string ⟨#[]⟩, .string ⟨#[]⟩, .string ⟨#[]⟩, .int .u8 0, .int .u32 0] 47)).rowIs w.heap.size 47 10 (fun j => (srcV s).getD j undef) := World.rowIs_alloc w #[.string ⟨#[]⟩, .string ⟨#[]⟩, .string ⟨#[]⟩, .string s, .string ⟨#[]⟩, .string ⟨#[]⟩, .string ⟨#[]⟩, .string ⟨#[]⟩, .int .u8 0, .int .u32 0] 47 (fun j => (srcV s).getD j undef) (fun i hi => by
    match i, hi with
    | 0, _ | 1, _ | 2, _ | 3, _ | 4, _ | 5, _ | 6, _ | 7, _ | 8, _ | 9, _ => rfl)
  have hb1 : Below w.heap.size w (w.alloc (.cells #[.string ⟨#[]⟩, .string ⟨#[]⟩, .string ⟨#[]⟩, .string s, .string ⟨#[]⟩, .string ⟨#[]⟩, .string ⟨#[]⟩, .string ⟨#[]⟩, .int .u8 0, .int .u32 0] 47)) := (Below.refl _ _).alloc (Nat.le_refl _) _
  generalize (w.alloc (.cells #[.string ⟨#[]⟩, .string ⟨#[]⟩, .string ⟨#[]⟩, .string s, .string ⟨#[]⟩, .string ⟨#[]⟩, .string ⟨#[]⟩, .string ⟨#[]⟩, .int .u8 0, .int .u32 0] 47)) = w1 at hR hb1 ⊢
  have hSl : w.heap.size < w1.heap.size := hR.lt
  have hR' := Lib.hid hR
  have s0 : w1.cell? ⟨w.heap.size, 0, none⟩ = some (.string ⟨#[]⟩) := hR.cell (i := 0) (by omega)
  have s1 : w1.cell? ⟨w.heap.size, 1, none⟩ = some (.string ⟨#[]⟩) := hR.cell (i := 1) (by omega)
  have s2 : w1.cell? ⟨w.heap.size, 2, none⟩ = some (.string ⟨#[]⟩) := hR.cell (i := 2) (by omega)
  have s3 : w1.cell? ⟨w.heap.size, 3, none⟩ = some (.string s) := hR.cell (i := 3) (by omega)
  have s4 : w1.cell? ⟨w.heap.size, 4, none⟩ = some (.string ⟨#[]⟩) := hR.cell (i := 4) (by omega)
  have s5 : w1.cell? ⟨w.heap.size, 5, none⟩ = some (.string ⟨#[]⟩) := hR.cell (i := 5) (by omega)
  have s6 : w1.cell? ⟨w.heap.size, 6, none⟩ = some (.string ⟨#[]⟩) := hR.cell (i := 6) (by omega)
  have s7 : w1.cell? ⟨w.heap.size, 7, none⟩ = some (.string ⟨#[]⟩) := hR.cell (i := 7) (by omega)
  have s8 : w1.cell? ⟨w.heap.size, 8, none⟩ = some (.int .u8 0) := hR.cell (i := 8) (by omega)
  have s9 : w1.cell? ⟨w.heap.size, 9, none⟩ = some (.int .u32 0) := hR.cell (i := 9) (by omega)
  generalize hS : w.heap.size = S at *
  replace hS := Lib.hid hS
  refine wp_region_held_drew (S := fun w' => w'.rowIs S 47 10 (fun j => (srcV s).getD j undef) ∧ Below w1.heap.size w1 w') (by kernel_rfl) ⟨hR'.out.of_block rfl, (Below.refl _ _).drew⟩ (fun hH => ?_)
  clear hR s0 s1 s2 s3 s4 s5 s6 s7 s8 s9
  refine wpAnyH_ready (rs := [0, 1]) (by kernel_rfl) (by decide) ?_
  refine AllReadyH.cons rfl (fun K' hK => ?_) ?_
  · rw [if_pos (by kernel_rfl)]
    have hT := Lib.hid hH
    clear hH
    go_wp2_with (go_at_call 12; refine (newLog _).mono ?_; rintro e wl ⟨K, M, H, G, rfl, hLl, hbl⟩)
    obtain ⟨A, hA, hz, ha⟩ := hpc.out K M H G
    replace hA := Lib.hid hA
    replace ha := Lib.hid ha
    replace hLl := Lib.hid hLl
    have hB0 := Lib.hid hT.out.2.size
    refine hK.out _ _ (srcKeep hT.out hbl) (fun hH => ?_)
    clear hK hT hbl
    refine wpAnyH_ready (rs := [1, 2]) (by kernel_rfl) (by decide) ?_
    refine AllReadyH.cons rfl (fun K' hK => ?_) ?_
    · rw [if_pos (by kernel_rfl)]
      have z0 := hH.1.cell (i := 0) (by omega)
      have z1 := hH.1.cell (i := 1) (by omega)
      have z2 := hH.1.cell (i := 2) (by omega)
      have z3 := hH.1.cell (i := 3) (by omega)
      have z4 := hH.1.cell (i := 4) (by omega)
      have z5 := hH.1.cell (i := 5) (by omega)
      have z6 := hH.1.cell (i := 6) (by omega)
      have z7 := hH.1.cell (i := 7) (by omega)
      have z8 := hH.1.cell (i := 8) (by omega)
      have z9 := hH.1.cell (i := 9) (by omega)
      dsimp only [srcV, Array.getD] at z0 z1 z2 z3 z4 z5 z6 z7 z8 z9
      have hT := Lib.hid hH
      clear hH
      go_wp2_with fail
      refine hK.out _ _ hT.out (fun hH => ?_)
      clear hK hT z0 z1 z2 z3 z4 z5 z6 z7 z8 z9
      refine wpAnyH_ready (rs := [2]) (by kernel_rfl) (by decide) ?_
      refine AllReadyH.cons rfl (fun K' hK => ?_) AllReadyH.nil
      rw [if_pos (by kernel_rfl)]
      have hT := Lib.hid hH
      clear hH
      go_wp2_with (go_at_call 13; refine (track S _ s hT.out.1).mono ?_; rintro e wt ⟨rfl, hbt⟩)
      refine hK.out _ _ (srcKeep hT.out hbt) (fun hH => ?_)
      have hLt := Lib.hid (hLl.out.below hbt)
      clear hK hT hbt hLl
      refine wpAnyH_ready (rs := [3]) (by kernel_rfl) (by decide) ?_
      refine AllReadyH.cons rfl (fun K' hK => ?_) AllReadyH.nil
      rw [if_pos (by kernel_rfl)]
      refine oper_build2 165 _ rfl [(1, .agg (logC K M H G)), (2, .agg (srcV s)), (3, trkV s)] (by kernel_rfl) A hA.out ?_
      refine hK.out _ _ hH (fun _ => ?_)
      clear hK
      refine wpAnyH_ready (rs := [4]) (by kernel_rfl) (by decide) ?_
      refine AllReadyH.cons rfl (fun K' hK => ?_) AllReadyH.nil
      rw [if_pos (by kernel_rfl)]
      have hT := Lib.hid (And.intro hH.1 hH.2)
      clear hH
      go_wp2_with fail
      refine hK.out _ _ ⟨hT.out.1.alloc _, hT.out.2.alloc hT.out.2.size _⟩ (fun _ => ?_)
      clear hK
      refine wpAnyH_ready (rs := [5]) (by kernel_rfl) (by decide) ?_
      refine AllReadyH.cons rfl (fun K' hK => ?_) AllReadyH.nil
      rw [if_pos (by kernel_rfl)]
      go_wp2_with fail
      refine hK.out _ _ ⟨hT.out.1.alloc _, hT.out.2.alloc hT.out.2.size _⟩ (fun _ => ?_)
      clear hK
      refine wpAnyH_done (by kernel_rfl) ?_ _
      go_wp2_with fail
      go_ret
      exact newP_fin hS.out hb1 hT.out.2 hz hLt.out hB0.out ha.out
    refine AllReadyH.cons rfl (fun K' hK => ?_) AllReadyH.nil
    rw [if_pos (by kernel_rfl)]
    have hT := Lib.hid hH
    clear hH
    go_wp2_with (go_at_call 13; refine (track S _ s hT.out.1).mono ?_; rintro e wt ⟨rfl, hbt⟩)
    refine hK.out _ _ (srcKeep hT.out hbt) (fun hH => ?_)
    have hLt := Lib.hid (hLl.out.below hbt)
    clear hK hT hbt hLl
    refine wpAnyH_ready (rs := [1]) (by kernel_rfl) (by decide) ?_
    refine AllReadyH.cons rfl (fun K' hK => ?_) AllReadyH.nil
    rw [if_pos (by kernel_rfl)]
    have z0 := hH.1.cell (i := 0) (by omega)
    have z1 := hH.1.cell (i := 1) (by omega)
    have z2 := hH.1.cell (i := 2) (by omega)
    have z3 := hH.1.cell (i := 3) (by omega)
    have z4 := hH.1.cell (i := 4) (by omega)
    have z5 := hH.1.cell (i := 5) (by omega)
    have z6 := hH.1.cell (i := 6) (by omega)
    have z7 := hH.1.cell (i := 7) (by omega)
    have z8 := hH.1.cell (i := 8) (by omega)
    have z9 := hH.1.cell (i := 9) (by omega)
    dsimp only [srcV, Array.getD] at z0 z1 z2 z3 z4 z5 z6 z7 z8 z9
    have hT := Lib.hid hH
    clear hH
    go_wp2_with fail
    refine hK.out _ _ hT.out (fun hH => ?_)
    clear hK hT z0 z1 z2 z3 z4 z5 z6 z7 z8 z9
    refine wpAnyH_ready (rs := [3]) (by kernel_rfl) (by decide) ?_
    refine AllReadyH.cons rfl (fun K' hK => ?_) AllReadyH.nil
    rw [if_pos (by kernel_rfl)]
    refine oper_build2 165 _ rfl [(1, .agg (logC K M H G)), (2, .agg (srcV s)), (3, trkV s)] (by kernel_rfl) A hA.out ?_
    refine hK.out _ _ hH (fun _ => ?_)
    clear hK
    refine wpAnyH_ready (rs := [4]) (by kernel_rfl) (by decide) ?_
    refine AllReadyH.cons rfl (fun K' hK => ?_) AllReadyH.nil
    rw [if_pos (by kernel_rfl)]
    have hT := Lib.hid (And.intro hH.1 hH.2)
    clear hH
    go_wp2_with fail
    refine hK.out _ _ ⟨hT.out.1.alloc _, hT.out.2.alloc hT.out.2.size _⟩ (fun _ => ?_)
    clear hK
    refine wpAnyH_ready (rs := [5]) (by kernel_rfl) (by decide) ?_
    refine AllReadyH.cons rfl (fun K' hK => ?_) AllReadyH.nil
    rw [if_pos (by kernel_rfl)]
    go_wp2_with fail
    refine hK.out _ _ ⟨hT.out.1.alloc _, hT.out.2.alloc hT.out.2.size _⟩ (fun _ => ?_)
    clear hK
    refine wpAnyH_done (by kernel_rfl) ?_ _
    go_wp2_with fail
    go_ret
    exact newP_fin hS.out hb1 hT.out.2 hz hLt.out hB0.out ha.out
  refine AllReadyH.cons rfl (fun K' hK => ?_) AllReadyH.nil
  rw [if_pos (by kernel_rfl)]
  have z0 := hH.1.cell (i := 0) (by omega)
  have z1 := hH.1.cell (i := 1) (by omega)
  have z2 := hH.1.cell (i := 2) (by omega)
  have z3 := hH.1.cell (i := 3) (by omega)
  have z4 := hH.1.cell (i := 4) (by omega)
  have z5 := hH.1.cell (i := 5) (by omega)
  have z6 := hH.1.cell (i := 6) (by omega)
  have z7 := hH.1.cell (i := 7) (by omega)
  have z8 := hH.1.cell (i := 8) (by omega)
  have z9 := hH.1.cell (i := 9) (by omega)
  dsimp only [srcV, Array.getD] at z0 z1 z2 z3 z4 z5 z6 z7 z8 z9
  have hT := Lib.hid hH
  clear hH
  go_wp2_with fail
  refine hK.out _ _ hT.out (fun hH => ?_)
  clear hK hT z0 z1 z2 z3 z4 z5 z6 z7 z8 z9
  refine wpAnyH_ready (rs := [0]) (by kernel_rfl) (by decide) ?_
  refine AllReadyH.cons rfl (fun K' hK => ?_) AllReadyH.nil
  rw [if_pos (by kernel_rfl)]
  have hT := Lib.hid hH
  clear hH
  go_wp2_with (go_at_call 12; refine (newLog _).mono ?_; rintro e wl ⟨K, M, H, G, rfl, hLl, hbl⟩)
  obtain ⟨A, hA, hz, ha⟩ := hpc.out K M H G
  replace hA := Lib.hid hA
  replace ha := Lib.hid ha
  replace hLl := Lib.hid hLl
  have hB0 := Lib.hid hT.out.2.size
  refine hK.out _ _ (srcKeep hT.out hbl) (fun hH => ?_)
  clear hK hT hbl
  refine wpAnyH_ready (rs := [2]) (by kernel_rfl) (by decide) ?_
  refine AllReadyH.cons rfl (fun K' hK => ?_) AllReadyH.nil
  rw [if_pos (by kernel_rfl)]
  have hT := Lib.hid hH
  clear hH
  go_wp2_with (go_at_call 13; refine (track S _ s hT.out.1).mono ?_; rintro e wt ⟨rfl, hbt⟩)
  refine hK.out _ _ (srcKeep hT.out hbt) (fun hH => ?_)
  have hLt := Lib.hid (hLl.out.below hbt)
  clear hK hT hbt hLl
  refine wpAnyH_ready (rs := [3]) (by kernel_rfl) (by decide) ?_
  refine AllReadyH.cons rfl (fun K' hK => ?_) AllReadyH.nil
  rw [if_pos (by kernel_rfl)]
  refine oper_build2 165 _ rfl [(1, .agg (logC K M H G)), (2, .agg (srcV s)), (3, trkV s)] (by kernel_rfl) A hA.out ?_
  refine hK.out _ _ hH (fun _ => ?_)
  clear hK
  refine wpAnyH_ready (rs := [4]) (by kernel_rfl) (by decide) ?_
  refine AllReadyH.cons rfl (fun K' hK => ?_) AllReadyH.nil
  rw [if_pos (by kernel_rfl)]
  have hT := Lib.hid (And.intro hH.1 hH.2)
  clear hH
  go_wp2_with fail
  refine hK.out _ _ ⟨hT.out.1.alloc _, hT.out.2.alloc hT.out.2.size _⟩ (fun _ => ?_)
  clear hK
  refine wpAnyH_ready (rs := [5]) (by kernel_rfl) (by decide) ?_
  refine AllReadyH.cons rfl (fun K' hK => ?_) AllReadyH.nil
  rw [if_pos (by kernel_rfl)]
  go_wp2_with fail
  refine hK.out _ _ ⟨hT.out.1.alloc _, hT.out.2.alloc hT.out.2.size _⟩ (fun _ => ?_)
  clear hK
  refine wpAnyH_done (by kernel_rfl) ?_ _
  go_wp2_with fail
  go_ret
  exact newP_fin hS.out hb1 hT.out.2 hz hLt.out hB0.out ha.out
end Go.Proofs.YtcijcifhdakhoaaFmt.Ex
