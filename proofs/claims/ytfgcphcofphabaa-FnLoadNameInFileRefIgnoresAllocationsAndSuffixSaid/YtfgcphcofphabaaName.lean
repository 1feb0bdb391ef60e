/-
  The parser of FnLoadNameInFileRefIgnoresAllocationsAndSuffix: its contents and its list of allocated names; storeNameInRef, loadNameFromRef. Condition: at most 2^20 bytes, 2^16 names.
-/
import Derived.Test.YtfgcphcofphabaaStrs
import Derived.Test.YtfgcphcofphabaaBut
import Derived.Test.YtfgcphcofphabaaBuild2
import Derived.Lib.Hide
import Derived.Lib.BufferWrite
import Derived.Laws.Cover3
import Derived.WalkSpells
import Derived.RegionTactic
import Derived.ChangeAlike
import Derived.Deep.QuietTactic
import Derived.BigQuiet
import Derived.BigRegion
import Derived.Deep.RegionHeld3
import Derived.Deep.RegionLaw
import Derived.StillTailTactics
import Derived.Laws.MakeOwn
import Derived.IntWalk
import Derived.Laws.EntriesVeiled
namespace Go.Proofs.Ytfgcphcofphabaa.Name
open Go.RowKit Go.ChangeShapes Go.WideShapes Go.ChangeAt Go.Proofs.Ytfgcphcofphabaa.Ints

def cellsN (ss : List ByteArray) : List Value := ss.map .string
/-- The parser at block P: its contents and its own list of names. -/
def Prs (B : Nat) (w : World) (P : Nat) (s : ByteArray) (n : Nat) : Prop :=
  ∃ (F : Nat → Value) (v : Value) (xs : List Value), B ≤ P ∧ w.rowIs P 160 353 F ∧ F 60 = .string s ∧ F 103 = v ∧ w.ownsRow B 9 1 v n xs
theorem bcell {W w1 : World} (hb : Below W.heap.size W w1) : (∀ b o, b < W.heap.size → w1.cell? ⟨b, o, none⟩ = W.cell? ⟨b, o, none⟩) ∧ (∀ b o, b < W.heap.size → w1.frozen? ⟨b, o, none⟩ = W.frozen? ⟨b, o, none⟩) :=
  ⟨fun b o h => hb.cell (p := ⟨b, o, none⟩) h, fun b o h => hb.frozen (p := ⟨b, o, none⟩) h⟩
def Logs (w : World) (e : Ending) (w' : World) : Prop := ∃ f0 f1 f2 f3 x0 x1 x2 x3, e = .returned (.agg #[.func f0 #[] x0, .func f1 #[] x1, .func f2 #[] x2, .func f3 #[] x3, .int .i8 3, .map none]) ∧ Below w.heap.size w w'
set_option maxRecDepth 100000 in
theorem newLog (w : World) : Calls Try.prog 10 #[.int .u8 0, .map none] w (Logs w) := by
  go_enter Try.func10, Try.ntmps10
  go_wp2_with fail
  refine bodyPost_ret (v := .agg #[.func (.func 15) #[] #[.pointer (some ⟨w.heap.size, 0, none⟩), .pointer (some ⟨w.heap.size + 1 + 1 + 1, 0, none⟩), .pointer (some ⟨w.heap.size + 1 + 1 + 1 + 1, 0, none⟩), .pointer (some ⟨w.heap.size + 1 + 1, 0, none⟩)], .func (.func 18) #[] #[.pointer (some ⟨w.heap.size + 1 + 1 + 1, 0, none⟩), .pointer (some ⟨w.heap.size + 1 + 1 + 1 + 1, 0, none⟩)], .func (.func 19) #[] #[.pointer (some ⟨w.heap.size + 1 + 1 + 1, 0, none⟩), .pointer (some ⟨w.heap.size + 1 + 1, 0, none⟩)], .func (.func 20) #[] #[.pointer (some ⟨w.heap.size + 1 + 1 + 1, 0, none⟩), .pointer (some ⟨w.heap.size + 1 + 1, 0, none⟩)], .int .i8 3, .map none]) (by simp [results, Try.results10, go_sem]) rfl ⟨_, _, _, _, _, _, _, _, rfl, ?_⟩
  exact ((((((Below.refl _ _).alloc (Nat.le_refl _) _).alloc (by simp) _).alloc (by simp; omega) _).alloc (by simp; omega) _).alloc (by simp; omega) _)
def srcV (s : ByteArray) : Array Value := #[.string ⟨#[]⟩, .string ⟨#[]⟩, .string ⟨#[]⟩, .string s, .string ⟨#[]⟩, .string ⟨#[]⟩, .string ⟨#[]⟩, .string ⟨#[]⟩, .int .u8 0, .int .u32 0]
def trkV (s : ByteArray) : Value := .agg #[.string s, .string ⟨#[]⟩, .string ⟨#[]⟩, .int .i32 0, .int .i32 0, .int .i32 0, .int .i32 0, .bool true, .bool false, .bool true]
def Track (s : ByteArray) (w : World) (e : Ending) (w' : World) : Prop := e = .returned (trkV s) ∧ Below w.heap.size w w'
set_option maxRecDepth 100000 in
theorem track (S : Nat) (w : World) (s : ByteArray) (hS : w.rowIs S 42 10 (fun j => (srcV s).getD j undef)) : Calls Try.prog 11 #[.pointer (some ⟨S, 0, none⟩)] w (Track s w) := by
  have c0 : w.cell? ⟨S, 0, none⟩ = some (.string ⟨#[]⟩) := hS.cell (i := 0) (by omega)
  have c1 : w.cell? ⟨S, 1, none⟩ = some (.string ⟨#[]⟩) := hS.cell (i := 1) (by omega)
  have c2 : w.cell? ⟨S, 3, none⟩ = some (.string s) := hS.cell (i := 3) (by omega)
  have hl := hS.lt
  go_enter Try.func11, Try.ntmps11
  go_wp2_with fail
  go_region
  go_wp2_with fail
  exact bodyPost_ret (v := trkV s) (by simp [results, Try.results11, go_sem, trkV]) rfl ⟨rfl, ((Below.refl _ _).alloc (Nat.le_refl _) _).drew⟩
theorem oper_build2 {P : Program} {o : Oper} {a : Act} {w : World} {K : Act → World → Prop} {Q : Exit → Act → World → Prop} (t : TypeId) (parts : Array (Nat × Operand)) (ho : o.op = .build t parts)
    (l : List (Nat × Value)) (hl : (parts.map fun (i, x) => (i, a.eval x)).toList = l) (cells : Array Value) (hf : P.built t l = some cells) (h : K (a.put o.dst (.agg cells)) w) : o.wp P a w K Q := by
  subst hl
  refine wp_build t parts ho (by rw [hf]; rfl) ?_
  rw [hf]
  exact h
def logV (f0 f1 f2 f3 : Fn) (x0 x1 x2 x3 : Array Value) : Value := .agg #[.func f0 #[] x0, .func f1 #[] x1, .func f2 #[] x2, .func f3 #[] x3, .int .i8 3, .map none]
theorem parser_cells (f0 f1 f2 f3 : Fn) (x0 x1 x2 x3 : Array Value) (s : ByteArray) : ∃ A : Array Value, Try.prog.built 160 [(1, logV f0 f1 f2 f3 x0 x1 x2 x3), (2, .agg (srcV s)), (3, trkV s)] = some A ∧ A.size = 353 ∧ A[60]? = some (.string s) ∧ A[103]? = some (.slice none 0 0) := by
  have h1 : (Try.prog.built 160 [(1, logV f0 f1 f2 f3 x0 x1 x2 x3), (2, .agg (srcV s)), (3, trkV s)]).isSome = true := by kernel_rfl
  obtain ⟨A, hA⟩ := Option.isSome_iff_exists.1 h1
  have h2 : (Try.prog.built 160 [(1, logV f0 f1 f2 f3 x0 x1 x2 x3), (2, .agg (srcV s)), (3, trkV s)]).map (·.size) = some 353 := by kernel_rfl
  have h3 : (Try.prog.built 160 [(1, logV f0 f1 f2 f3 x0 x1 x2 x3), (2, .agg (srcV s)), (3, trkV s)]).bind (·[60]?) = some (.string s) := by kernel_rfl
  have h4 : (Try.prog.built 160 [(1, logV f0 f1 f2 f3 x0 x1 x2 x3), (2, .agg (srcV s)), (3, trkV s)]).bind (·[103]?) = some (.slice none 0 0) := by kernel_rfl
  rw [hA] at h2 h3 h4
  exact ⟨A, hA, by simpa using h2, h3, h4⟩
def NewP (s : ByteArray) (w : World) (e : Ending) (w' : World) : Prop := ∃ P, e = .returned (.pointer (some ⟨P, 0, none⟩)) ∧ w.heap.size ≤ P ∧ Prs w.heap.size w' P s 0 ∧ Below w.heap.size w w'
theorem srcKeep {S : Nat} {w1 W W' : World} {s : ByteArray} (h : W.rowIs S 42 10 (fun j => (srcV s).getD j undef) ∧ Below w1.heap.size w1 W) (hb : Below W.heap.size W W') : W'.rowIs S 42 10 (fun j => (srcV s).getD j undef) ∧ Below w1.heap.size w1 W' :=
  ⟨h.1.of_block (hb.block _ h.1.lt), h.2.trans (hb.mono h.2.size)⟩
theorem newP_fin {w w1 wx : World} {S : Nat} {s : ByteArray} {A : Array Value} (hS : w.heap.size = S) (hb1 : Below S w w1) (hB : Below w1.heap.size w1 wx) (hz : A.size = 353) (ha : A[60]? = some (.string s)) (hb : A[103]? = some (.slice none 0 0)) :
    NewP s w (.returned (.pointer (some ⟨wx.heap.size, 0, none⟩))) (wx.alloc (.cells A 160)) := by
  subst hS
  have h1 := hb1.size
  have h2 := hB.size
  have hx : Below w.heap.size w wx := hb1.trans (hB.mono h1)
  refine ⟨wx.heap.size, rfl, by omega, ⟨fun j => A.getD j undef, .slice none 0 0, [], by omega, ?_, by simp [Array.getD, hz, (Array.getElem?_eq_some_iff.1 ha).2], by simp [Array.getD, hz, (Array.getElem?_eq_some_iff.1 hb).2], rfl, .inl ⟨rfl, rfl⟩⟩, hx.alloc (by omega) _⟩
  have := World.rowIs_alloc wx A 160 (fun j => A.getD j undef) (fun i hi => by simp [Array.getD, hi])
  rwa [hz] at this
set_option maxRecDepth 100000 in
set_option maxHeartbeats 2000000 in
theorem newParser (s : ByteArray) (w : World) : Calls Try.prog 6 #[.string s] w (NewP s w) := by
  have hpc := Lib.hid (fun f0 f1 f2 f3 x0 x1 x2 x3 => parser_cells f0 f1 f2 f3 x0 x1 x2 x3 s)
  go_enter Try.func6, Try.ntmps6
  go_wp2_with fail
  have hR : (w.alloc (.cells #[.string ⟨#[]⟩, .string ⟨#[]⟩, .string ⟨#[]⟩, .string s, .string ⟨#[]⟩, .string ⟨#[]⟩, .string ⟨#[]⟩, .string ⟨#[]⟩, .int .u8 0, .int .u32 0] 42)).rowIs w.heap.size 42 10 (fun j => (srcV s).getD j undef) := World.rowIs_alloc w #[.string ⟨#[]⟩, .string ⟨#[]⟩, .string ⟨#[]⟩, .string s, .string ⟨#[]⟩, .string ⟨#[]⟩, .string ⟨#[]⟩, .string ⟨#[]⟩, .int .u8 0, .int .u32 0] 42 (fun j => (srcV s).getD j undef) (fun i hi => by
    match i, hi with
    | 0, _ | 1, _ | 2, _ | 3, _ | 4, _ | 5, _ | 6, _ | 7, _ | 8, _ | 9, _ => rfl)
  have hb1 : Below w.heap.size w (w.alloc (.cells #[.string ⟨#[]⟩, .string ⟨#[]⟩, .string ⟨#[]⟩, .string s, .string ⟨#[]⟩, .string ⟨#[]⟩, .string ⟨#[]⟩, .string ⟨#[]⟩, .int .u8 0, .int .u32 0] 42)) := (Below.refl _ _).alloc (Nat.le_refl _) _
  generalize (w.alloc (.cells #[.string ⟨#[]⟩, .string ⟨#[]⟩, .string ⟨#[]⟩, .string s, .string ⟨#[]⟩, .string ⟨#[]⟩, .string ⟨#[]⟩, .string ⟨#[]⟩, .int .u8 0, .int .u32 0] 42)) = w1 at hR hb1 ⊢
  have hSl : w.heap.size < w1.heap.size := hR.lt
  have hR' := Lib.hid hR
  have s0 : w1.cell? ⟨w.heap.size, 0, none⟩ = some (.string ⟨#[]⟩) := hR.cell (i := 0) (by omega)
  have s1 : w1.cell? ⟨w.heap.size, 1, none⟩ = some (.string ⟨#[]⟩) := hR.cell (i := 1) (by omega)
  have s2 : w1.cell? ⟨w.heap.size, 2, none⟩ = some (.string ⟨#[]⟩) := hR.cell (i := 2) (by omega)
  have s3 : w1.cell? ⟨w.heap.size, 3, none⟩ = some (.string s) := hR.cell (i := 3) (by omega)
  have s4 : w1.cell? ⟨w.heap.size, 4, none⟩ = some (.string ⟨#[]⟩) := hR.cell (i := 4) (by omega)
  have s5 : w1.cell? ⟨w.heap.size, 5, none⟩ = some (.string ⟨#[]⟩) := hR.cell (i := 5) (by omega)
  have s6 : w1.cell? ⟨w.heap.size, 6, none⟩ = some (.string ⟨#[]⟩) := hR.cell (i := 6) (by omega)
  have s7 : w1.cell? ⟨w.heap.size, 7, none⟩ = some (.string ⟨#[]⟩) := hR.cell (i := 7) (by omega)
  have s8 : w1.cell? ⟨w.heap.size, 8, none⟩ = some (.int .u8 0) := hR.cell (i := 8) (by omega)
  have s9 : w1.cell? ⟨w.heap.size, 9, none⟩ = some (.int .u32 0) := hR.cell (i := 9) (by omega)
  generalize hS : w.heap.size = S at *
  replace hS := Lib.hid hS
  refine wp_region_held_drew (S := fun w' => w'.rowIs S 42 10 (fun j => (srcV s).getD j undef) ∧ Below w1.heap.size w1 w') (by kernel_rfl) ⟨hR'.out.of_block rfl, (Below.refl _ _).drew⟩ (fun hH => ?_)
  clear hR s0 s1 s2 s3 s4 s5 s6 s7 s8 s9
  refine wpAnyH_ready (rs := [0, 1]) (by kernel_rfl) (by decide) ?_
  refine AllReadyH.cons rfl (fun K' hK => ?_) ?_
  · rw [if_pos (by kernel_rfl)]
    have hT := Lib.hid hH
    clear hH
    go_wp2_with (go_at_call 10; refine (newLog _).mono ?_; rintro e wl ⟨f0, f1, f2, f3, x0, x1, x2, x3, rfl, hbl⟩)
    obtain ⟨A, hA, hz, ha, hb⟩ := hpc.out f0 f1 f2 f3 x0 x1 x2 x3
    replace hA := Lib.hid hA
    refine hK.out _ _ (srcKeep hT.out hbl) (fun hH => ?_)
    clear hK hT hbl
    refine wpAnyH_ready (rs := [1, 2]) (by kernel_rfl) (by decide) ?_
    refine AllReadyH.cons rfl (fun K' hK => ?_) ?_
    · rw [if_pos (by kernel_rfl)]
      have z0 := hH.1.cell (i := 0) (by omega)
      have z1 := hH.1.cell (i := 1) (by omega)
      have z2 := hH.1.cell (i := 2) (by omega)
      have z3 := hH.1.cell (i := 3) (by omega)
      have z4 := hH.1.cell (i := 4) (by omega)
      have z5 := hH.1.cell (i := 5) (by omega)
      have z6 := hH.1.cell (i := 6) (by omega)
      have z7 := hH.1.cell (i := 7) (by omega)
      have z8 := hH.1.cell (i := 8) (by omega)
      have z9 := hH.1.cell (i := 9) (by omega)
      dsimp only [srcV, Array.getD] at z0 z1 z2 z3 z4 z5 z6 z7 z8 z9
      have hT := Lib.hid hH
      clear hH
      go_wp2_with fail
      refine hK.out _ _ hT.out (fun hH => ?_)
      clear hK hT z0 z1 z2 z3 z4 z5 z6 z7 z8 z9
      refine wpAnyH_ready (rs := [2]) (by kernel_rfl) (by decide) ?_
      refine AllReadyH.cons rfl (fun K' hK => ?_) AllReadyH.nil
      rw [if_pos (by kernel_rfl)]
      have hT := Lib.hid hH
      clear hH
      go_wp2_with (go_at_call 11; refine (track S _ s hT.out.1).mono ?_; rintro e wt ⟨rfl, hbt⟩)
      refine hK.out _ _ (srcKeep hT.out hbt) (fun hH => ?_)
      clear hK hT hbt
      refine wpAnyH_ready (rs := [3]) (by kernel_rfl) (by decide) ?_
      refine AllReadyH.cons rfl (fun K' hK => ?_) AllReadyH.nil
      rw [if_pos (by kernel_rfl)]
      refine oper_build2 160 _ rfl [(1, logV f0 f1 f2 f3 x0 x1 x2 x3), (2, .agg (srcV s)), (3, trkV s)] (by kernel_rfl) A hA.out ?_
      refine hK.out _ _ hH (fun _ => ?_)
      clear hK
      refine wpAnyH_ready (rs := [4]) (by kernel_rfl) (by decide) ?_
      refine AllReadyH.cons rfl (fun K' hK => ?_) AllReadyH.nil
      rw [if_pos (by kernel_rfl)]
      have hT := Lib.hid (And.intro hH.1 hH.2)
      clear hH
      go_wp2_with fail
      refine hK.out _ _ ⟨hT.out.1.alloc _, hT.out.2.alloc hT.out.2.size _⟩ (fun _ => ?_)
      clear hK
      refine wpAnyH_ready (rs := [5]) (by kernel_rfl) (by decide) ?_
      refine AllReadyH.cons rfl (fun K' hK => ?_) AllReadyH.nil
      rw [if_pos (by kernel_rfl)]
      go_wp2_with fail
      refine hK.out _ _ ⟨hT.out.1.alloc _, hT.out.2.alloc hT.out.2.size _⟩ (fun _ => ?_)
      clear hK
      refine wpAnyH_done (by kernel_rfl) ?_ _
      go_wp2_with fail
      go_ret
      exact newP_fin hS.out hb1 hT.out.2 hz ha hb
    refine AllReadyH.cons rfl (fun K' hK => ?_) AllReadyH.nil
    rw [if_pos (by kernel_rfl)]
    have hT := Lib.hid hH
    clear hH
    go_wp2_with (go_at_call 11; refine (track S _ s hT.out.1).mono ?_; rintro e wt ⟨rfl, hbt⟩)
    refine hK.out _ _ (srcKeep hT.out hbt) (fun hH => ?_)
    clear hK hT hbt
    refine wpAnyH_ready (rs := [1]) (by kernel_rfl) (by decide) ?_
    refine AllReadyH.cons rfl (fun K' hK => ?_) AllReadyH.nil
    rw [if_pos (by kernel_rfl)]
    have z0 := hH.1.cell (i := 0) (by omega)
    have z1 := hH.1.cell (i := 1) (by omega)
    have z2 := hH.1.cell (i := 2) (by omega)
    have z3 := hH.1.cell (i := 3) (by omega)
    have z4 := hH.1.cell (i := 4) (by omega)
    have z5 := hH.1.cell (i := 5) (by omega)
    have z6 := hH.1.cell (i := 6) (by omega)
    have z7 := hH.1.cell (i := 7) (by omega)
    have z8 := hH.1.cell (i := 8) (by omega)
    have z9 := hH.1.cell (i := 9) (by omega)
    dsimp only [srcV, Array.getD] at z0 z1 z2 z3 z4 z5 z6 z7 z8 z9
    have hT := Lib.hid hH
    clear hH
    go_wp2_with fail
    refine hK.out _ _ hT.out (fun hH => ?_)
    clear hK hT z0 z1 z2 z3 z4 z5 z6 z7 z8 z9
    refine wpAnyH_ready (rs := [3]) (by kernel_rfl) (by decide) ?_
    refine AllReadyH.cons rfl (fun K' hK => ?_) AllReadyH.nil
    rw [if_pos (by kernel_rfl)]
    refine oper_build2 160 _ rfl [(1, logV f0 f1 f2 f3 x0 x1 x2 x3), (2, .agg (srcV s)), (3, trkV s)] (by kernel_rfl) A hA.out ?_
    refine hK.out _ _ hH (fun _ => ?_)
    clear hK
    refine wpAnyH_ready (rs := [4]) (by kernel_rfl) (by decide) ?_
    refine AllReadyH.cons rfl (fun K' hK => ?_) AllReadyH.nil
    rw [if_pos (by kernel_rfl)]
    have hT := Lib.hid (And.intro hH.1 hH.2)
    clear hH
    go_wp2_with fail
    refine hK.out _ _ ⟨hT.out.1.alloc _, hT.out.2.alloc hT.out.2.size _⟩ (fun _ => ?_)
    clear hK
    refine wpAnyH_ready (rs := [5]) (by kernel_rfl) (by decide) ?_
    refine AllReadyH.cons rfl (fun K' hK => ?_) AllReadyH.nil
    rw [if_pos (by kernel_rfl)]
    go_wp2_with fail
    refine hK.out _ _ ⟨hT.out.1.alloc _, hT.out.2.alloc hT.out.2.size _⟩ (fun _ => ?_)
    clear hK
    refine wpAnyH_done (by kernel_rfl) ?_ _
    go_wp2_with fail
    go_ret
    exact newP_fin hS.out hb1 hT.out.2 hz ha hb
  refine AllReadyH.cons rfl (fun K' hK => ?_) AllReadyH.nil
  rw [if_pos (by kernel_rfl)]
  have z0 := hH.1.cell (i := 0) (by omega)
  have z1 := hH.1.cell (i := 1) (by omega)
  have z2 := hH.1.cell (i := 2) (by omega)
  have z3 := hH.1.cell (i := 3) (by omega)
  have z4 := hH.1.cell (i := 4) (by omega)
  have z5 := hH.1.cell (i := 5) (by omega)
  have z6 := hH.1.cell (i := 6) (by omega)
  have z7 := hH.1.cell (i := 7) (by omega)
  have z8 := hH.1.cell (i := 8) (by omega)
  have z9 := hH.1.cell (i := 9) (by omega)
  dsimp only [srcV, Array.getD] at z0 z1 z2 z3 z4 z5 z6 z7 z8 z9
  have hT := Lib.hid hH
  clear hH
  go_wp2_with fail
  refine hK.out _ _ hT.out (fun hH => ?_)
  clear hK hT z0 z1 z2 z3 z4 z5 z6 z7 z8 z9
  refine wpAnyH_ready (rs := [0]) (by kernel_rfl) (by decide) ?_
  refine AllReadyH.cons rfl (fun K' hK => ?_) AllReadyH.nil
  rw [if_pos (by kernel_rfl)]
  have hT := Lib.hid hH
  clear hH
  go_wp2_with (go_at_call 10; refine (newLog _).mono ?_; rintro e wl ⟨f0, f1, f2, f3, x0, x1, x2, x3, rfl, hbl⟩)
  obtain ⟨A, hA, hz, ha, hb⟩ := hpc.out f0 f1 f2 f3 x0 x1 x2 x3
  replace hA := Lib.hid hA
  refine hK.out _ _ (srcKeep hT.out hbl) (fun hH => ?_)
  clear hK hT hbl
  refine wpAnyH_ready (rs := [2]) (by kernel_rfl) (by decide) ?_
  refine AllReadyH.cons rfl (fun K' hK => ?_) AllReadyH.nil
  rw [if_pos (by kernel_rfl)]
  have hT := Lib.hid hH
  clear hH
  go_wp2_with (go_at_call 11; refine (track S _ s hT.out.1).mono ?_; rintro e wt ⟨rfl, hbt⟩)
  refine hK.out _ _ (srcKeep hT.out hbt) (fun hH => ?_)
  clear hK hT hbt
  refine wpAnyH_ready (rs := [3]) (by kernel_rfl) (by decide) ?_
  refine AllReadyH.cons rfl (fun K' hK => ?_) AllReadyH.nil
  rw [if_pos (by kernel_rfl)]
  refine oper_build2 160 _ rfl [(1, logV f0 f1 f2 f3 x0 x1 x2 x3), (2, .agg (srcV s)), (3, trkV s)] (by kernel_rfl) A hA.out ?_
  refine hK.out _ _ hH (fun _ => ?_)
  clear hK
  refine wpAnyH_ready (rs := [4]) (by kernel_rfl) (by decide) ?_
  refine AllReadyH.cons rfl (fun K' hK => ?_) AllReadyH.nil
  rw [if_pos (by kernel_rfl)]
  have hT := Lib.hid (And.intro hH.1 hH.2)
  clear hH
  go_wp2_with fail
  refine hK.out _ _ ⟨hT.out.1.alloc _, hT.out.2.alloc hT.out.2.size _⟩ (fun _ => ?_)
  clear hK
  refine wpAnyH_ready (rs := [5]) (by kernel_rfl) (by decide) ?_
  refine AllReadyH.cons rfl (fun K' hK => ?_) AllReadyH.nil
  rw [if_pos (by kernel_rfl)]
  go_wp2_with fail
  refine hK.out _ _ ⟨hT.out.1.alloc _, hT.out.2.alloc hT.out.2.size _⟩ (fun _ => ?_)
  clear hK
  refine wpAnyH_done (by kernel_rfl) ?_ _
  go_wp2_with fail
  go_ret
  exact newP_fin hS.out hb1 hT.out.2 hz ha hb
end Go.Proofs.Ytfgcphcofphabaa.Name
