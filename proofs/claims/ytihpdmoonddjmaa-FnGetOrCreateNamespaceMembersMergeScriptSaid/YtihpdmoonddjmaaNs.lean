/-
  getOrCreateExportedNamespaceMembers over a parser state whose maps are known: which map it hands back. No condition beyond the ones stated.
-/
import Derived.Test.YtihpdmoonddjmaaMapX
import Derived.Test.YtihpdmoonddjmaaUsing
import Derived.BigQuiet
import Derived.Deep.QuietTactic
import Derived.Laws.StructEq
import Derived.Deep.DeepCutAuto
namespace Go.Proofs.Ytihpdmoonddjmaa.Ns
open Go.RowKit Go.Proofs.Ytihpdmoonddjmaa.Ints Go.Proofs.Ytihpdmoonddjmaa.MapX

def memb : Value := .agg #[.int .u32 0, .int .u32 7, .int .i32 0]
def ref7 : Value := .agg #[.int .u32 0, .int .u32 7]
def one (k v : Value) : Obj := .map #[{ key := k, val := v, born := 0 }] 1
def nsMember (t : TypeId) (N : Nat) : Value := .agg #[.iface t (.pointer (some ⟨N, 0, none⟩)), .int .i32 0, .bool false]

/-- The first place to look: the map that the scope's own member leads to, if any. -/
def St1 (w : World) (M R : Nat) (nm : ByteArray) : Option Nat → Prop
  | some sib => w.heap[M]? = some (one (.string nm) memb) ∧ ∃ N, w.heap[R]? = some (one ref7 (.iface 129 (.pointer (some ⟨N, 0, none⟩)))) ∧ w.cell? ⟨N, 0, none⟩ = some (.map (some sib))
  | none => (∃ ot, ot ≠ nm ∧ w.heap[M]? = some (one (.string ot) memb)) ∨ (w.heap[M]? = some (one (.string nm) memb) ∧ (w.heap[R]? = some (.map #[] 0) ∨ ∃ N, w.heap[R]? = some (one ref7 (.iface 132 (.pointer (some ⟨N, 0, none⟩))))))
/-- The second place: the map that the enclosing namespace's entry leads to, if any. -/
def St2 (w : World) (B0 : Nat) (tv : Value) (nm : ByteArray) : Option Nat → Prop
  | some par => ∃ T E N, B0 ≤ E ∧ tv = .pointer (some ⟨T, 0, none⟩) ∧ w.cell? ⟨T, 0, none⟩ = some (.map (some E)) ∧ w.heap[E]? = some (one (.string nm) (nsMember 129 N)) ∧ w.cell? ⟨N, 0, none⟩ = some (.map (some par))
  | none => tv = .pointer none ∨ ∃ T E, B0 ≤ E ∧ tv = .pointer (some ⟨T, 0, none⟩) ∧ w.cell? ⟨T, 0, none⟩ = some (.map (some E)) ∧
      ((∃ ot v, ot ≠ nm ∧ w.heap[E]? = some (one (.string ot) v)) ∨ ∃ N, w.heap[E]? = some (one (.string nm) (nsMember 132 N)))

theorem lt_of_heap {w : World} {b : Nat} {o : Obj} (h : w.heap[b]? = some o) : b < w.heap.size := (Array.getElem?_eq_some_iff.1 h).1
theorem bH {w w' : World} {b : Nat} {o : Obj} (hb : Below w.heap.size w w') (h : w.heap[b]? = some o) : w'.heap[b]? = some o := (hb.block b (lt_of_heap h)).trans h
theorem bC {w w' : World} {p : Addr} {v : Value} (hb : Below w.heap.size w w') (h : w.cell? p = some v) : w'.cell? p = some v := (hb.cell (lt_of_cell h)).trans h

theorem beq_bytes (a b : ByteArray) : (a == b) = decide (a = b) := by
  obtain ⟨x⟩ := a
  obtain ⟨y⟩ := b
  show (x == y) = _
  rw [Bool.eq_iff_iff]
  simp
theorem ne_bytes {a b : ByteArray} (h : a ≠ b) : (a == b) = false := by rw [beq_bytes]; simpa using h
theorem eq_bytes (a : ByteArray) : (a == a) = true := by rw [beq_bytes]; simp
theorem lookM_hit {w : World} {M : Nat} {nm : ByteArray} (h : w.heap[M]? = some (one (.string nm) memb)) : (Instr.lookup 125 (.map (some M)) (.string nm) true).run Try.prog w = .ok (.tuple #[memb, .bool true]) w :=
  look_hit (ok := true) (i := 0) Try.underlying125 h (check_string _ _ Try.underlying9) (find_string Try.underlying9 (by simp [Instr.findNow, Instr.sameNow, eq_bytes]))
theorem lookM_miss {w : World} {M : Nat} {nm ot : ByteArray} (hne : ot ≠ nm) (h : w.heap[M]? = some (one (.string ot) memb)) : (Instr.lookup 125 (.map (some M)) (.string nm) true).run Try.prog w = .ok (.tuple #[.agg #[.int .u32 0, .int .u32 0, .int .i32 0], .bool false]) w :=
  look_miss (ok := true) (z := .agg #[.int .u32 0, .int .u32 0, .int .i32 0]) Try.underlying125 h (check_string _ _ Try.underlying9) (find_string Try.underlying9 (by simp [Instr.findNow, Instr.sameNow, ne_bytes (Ne.symm hne)])) (by kernel_rfl)
theorem lookR_hit {w : World} {R : Nat} {v : Value} (h : w.heap[R]? = some (one ref7 v)) : (Instr.lookup 128 (.map (some R)) ref7 true).run Try.prog w = .ok (.tuple #[v, .bool true]) w :=
  look_hit (ok := true) (i := 0) Try.underlying128 h (by kernel_rfl) (by kernel_rfl)
theorem lookR_miss {w : World} {R : Nat} (h : w.heap[R]? = some (.map #[] 0)) : (Instr.lookup 128 (.map (some R)) ref7 true).run Try.prog w = .ok (.tuple #[.nilIface, .bool false]) w :=
  look_miss (ok := true) (z := .nilIface) Try.underlying128 h (by kernel_rfl) (by kernel_rfl) (by kernel_rfl)
theorem lookE_hit {w : World} {E : Nat} {nm : ByteArray} {v : Value} (h : w.heap[E]? = some (one (.string nm) v)) : (Instr.lookup 24 (.map (some E)) (.string nm) true).run Try.prog w = .ok (.tuple #[v, .bool true]) w :=
  look_hit (ok := true) (i := 0) Try.underlying24 h (check_string _ _ Try.underlying9) (find_string Try.underlying9 (by simp [Instr.findNow, Instr.sameNow, eq_bytes]))
theorem lookE_miss {w : World} {E : Nat} {nm ot : ByteArray} {v : Value} (hne : ot ≠ nm) (h : w.heap[E]? = some (one (.string ot) v)) : (Instr.lookup 24 (.map (some E)) (.string nm) true).run Try.prog w = .ok (.tuple #[.agg #[.nilIface, .int .i32 0, .bool false], .bool false]) w :=
  look_miss (ok := true) (z := .agg #[.nilIface, .int .i32 0, .bool false]) Try.underlying24 h (check_string _ _ Try.underlying9) (find_string Try.underlying9 (by simp [Instr.findNow, Instr.sameNow, ne_bytes (Ne.symm hne)])) (by kernel_rfl)
theorem ta_ns (a : Addr) (w : World) : (Instr.typeAssert (.iface 129 (.pointer (some a))) 29 129 true).run Try.prog w = .ok (.tuple #[.pointer (some a), .bool true]) w := by kernel_rfl
theorem ta_prop (a : Addr) (w : World) : (Instr.typeAssert (.iface 132 (.pointer (some a))) 29 129 true).run Try.prog w = .ok (.tuple #[.pointer none, .bool false]) w := by kernel_rfl

def Gb (n : Nat) (w' : World) (b : Nat) : Option Nat → Prop
  | some s => b = s
  | none => n ≤ b ∧ w'.heap[b]? = some (.map #[] 0)
def Got (w : World) (r : Option Nat) (e : Ending) (w' : World) : Prop :=
  ∃ b, e = .returned (.map (some b)) ∧ Below w.heap.size w w' ∧ Gb w.heap.size w' b r
set_option maxRecDepth 100000 in
set_option maxHeartbeats 1000000 in
theorem get1 (P C M R sib : Nat) (tv : Value) (nm : ByteArray) (ex : Bool) (w : World) (c1 : w.cell? ⟨P, 104, none⟩ = some (.pointer (some ⟨C, 0, none⟩))) (c2 : w.cell? ⟨P, 158, none⟩ = some (.map (some R))) (c3 : w.cell? ⟨C, 3, none⟩ = some (.map (some M)))
    (h1 : St1 w M R nm (some sib)) : Calls Try.prog 37 #[.pointer (some ⟨P, 0, none⟩), .string nm, .bool ex] w (Got w (some sib)) := by
  obtain ⟨hM, N, hR, hN⟩ := h1
  have lM := lookM_hit hM
  unfold memb at lM
  have hP : P < w.heap.size := lt_of_cell c1
  have tn := ta_ns ⟨N, 0, none⟩
  go_enter Try.func37, Try.ntmps37
  go_wp2_with fail
  generalize hW : w.alloc (.cells #[.int .u32 0, .int .u32 7, .int .i32 0] 127) = W
  have B1 : Below w.heap.size w W := by subst hW; exact (Below.refl _ _).alloc (Nat.le_refl _) _
  have k0 : W.cell? ⟨w.heap.size, 0, none⟩ = some (.int .u32 0) := by subst hW; go_simp
  have k1 : W.cell? ⟨w.heap.size, 1, none⟩ = some (.int .u32 7) := by subst hW; go_simp
  clear hW
  have lR : ∀ n, (Instr.lookup 128 (.map (some R)) ref7 true).run Try.prog (W.drewN n) = .ok (.tuple #[.iface 129 (.pointer (some ⟨N, 0, none⟩)), .bool true]) (W.drewN n) := fun n => lookR_hit (w := W.drewN n) (show W.heap[R]? = _ from bH B1 hR)
  unfold ref7 at lR
  have k2 := bC B1 c2
  have k3 := bC B1 hN
  clear c1 c2 c3 hM hR hN lM
  go_quiet (fail)
  go_wp2_with fail
  go_ret
  exact ⟨_, rfl, below_drewN B1 _, rfl⟩
-- GENERATED
theorem new_after (V : World) (o o2 : Obj) : ((V.alloc o).alloc o2).heap[V.heap.size + 1]? = some o2 := by
  have h := (Go.MapKept.heap_alloc (V.alloc o) o2).1
  have e : (V.alloc o).heap.size = V.heap.size + 1 := by simp
  rw [e] at h
  exact h
set_option maxRecDepth 100000 in
set_option maxHeartbeats 1000000 in
theorem get2an {B0 : Nat} (P C M R : Nat) (tv : Value) (nm : ByteArray) (ex : Bool) (w : World) (c1 : w.cell? ⟨P, 104, none⟩ = some (.pointer (some ⟨C, 0, none⟩))) (c2 : w.cell? ⟨P, 158, none⟩ = some (.map (some R))) (c3 : w.cell? ⟨C, 3, none⟩ = some (.map (some M))) (c4 : w.cell? ⟨C, 0, none⟩ = some tv) (ot : ByteArray) (hno : ot ≠ nm) (hM : w.heap[M]? = some (one (.string ot) memb)) (h2 : ex = true → St2 w B0 tv nm none) : Calls Try.prog 37 #[.pointer (some ⟨P, 0, none⟩), .string nm, .bool ex] w (Got w none) := by
  have hP : P < w.heap.size := lt_of_cell c1
  have lM := lookM_miss hno hM
  go_enter Try.func37, Try.ntmps37
  go_upto_region 8 with fail
  clear lM
  generalize hV : w.alloc (.cells #[.int .u32 0, .int .u32 0, .int .i32 0] 127) = V
  have B : Below w.heap.size w V := by subst hV; exact (Below.refl _ _).alloc (Nat.le_refl _) _
  clear hV
  have v1 := bC B c1
  have v4 := bC B c4
  have hmm := @run_makeMap Try.prog
  cases ex with
  | false =>
    go_wp2_with fail
    go_ret
    exact ⟨_, rfl, B.alloc B.size _, B.size, (Go.MapKept.heap_alloc V _).1⟩
  | true =>
    rcases h2 rfl with rfl | ⟨T, E, _, rfl, hT, hE⟩
    · go_wp2_with fail
      go_ret
      exact ⟨_, rfl, B.alloc B.size _, B.size, (Go.MapKept.heap_alloc V _).1⟩
    · have vT := bC B hT
      have hTl : T < V.heap.size := lt_of_cell vT
      rcases hE with ⟨ot, x, hne, hE⟩ | ⟨N, hE⟩
      · have lE := lookE_miss hne (bH B hE)
        go_wp2_with fail
        go_ret
        refine ⟨_, rfl, (B.alloc B.size _).alloc (by have := B.size; simp; omega) _, ?_, ?_⟩
        · have := B.size; simp; omega
        · exact new_after V _ _
      · have lE := lookE_hit (bH B hE)
        unfold nsMember at lE
        have tp := ta_prop ⟨N, 0, none⟩
        go_wp2_with fail
        go_ret
        refine ⟨_, rfl, (B.alloc B.size _).alloc (by have := B.size; simp; omega) _, ?_, ?_⟩
        · have := B.size; simp; omega
        · exact new_after V _ _
set_option maxRecDepth 100000 in
set_option maxHeartbeats 1000000 in
theorem get2ap {B0 : Nat} (P C M R : Nat) (tv : Value) (nm : ByteArray) (par : Nat) (w : World) (c1 : w.cell? ⟨P, 104, none⟩ = some (.pointer (some ⟨C, 0, none⟩))) (c2 : w.cell? ⟨P, 158, none⟩ = some (.map (some R))) (c3 : w.cell? ⟨C, 3, none⟩ = some (.map (some M))) (c4 : w.cell? ⟨C, 0, none⟩ = some tv) (ot : ByteArray) (hno : ot ≠ nm) (hM : w.heap[M]? = some (one (.string ot) memb)) (h2 : St2 w B0 tv nm (some par)) : Calls Try.prog 37 #[.pointer (some ⟨P, 0, none⟩), .string nm, .bool true] w (Got w (some par)) := by
  have hP : P < w.heap.size := lt_of_cell c1
  have lM := lookM_miss hno hM
  go_enter Try.func37, Try.ntmps37
  go_upto_region 8 with fail
  clear lM
  generalize hV : w.alloc (.cells #[.int .u32 0, .int .u32 0, .int .i32 0] 127) = V
  have B : Below w.heap.size w V := by subst hV; exact (Below.refl _ _).alloc (Nat.le_refl _) _
  clear hV
  have v1 := bC B c1
  have v4 := bC B c4
  obtain ⟨T, E, N, _, rfl, hT, hE, hN⟩ := h2
  have vT := bC B hT
  have vN := bC B hN
  have hTl : T < V.heap.size := lt_of_cell vT
  have hNl : N < V.heap.size := lt_of_cell vN
  have lE := lookE_hit (bH B hE)
  unfold nsMember at lE
  have tn := ta_ns ⟨N, 0, none⟩
  go_wp2_with fail
  go_ret
  exact ⟨_, rfl, B.alloc B.size _, rfl⟩
set_option maxRecDepth 100000 in
set_option maxHeartbeats 1000000 in
theorem get2bn {B0 : Nat} (P C M R : Nat) (tv : Value) (nm : ByteArray) (ex : Bool) (w : World) (c1 : w.cell? ⟨P, 104, none⟩ = some (.pointer (some ⟨C, 0, none⟩))) (c2 : w.cell? ⟨P, 158, none⟩ = some (.map (some R))) (c3 : w.cell? ⟨C, 3, none⟩ = some (.map (some M))) (c4 : w.cell? ⟨C, 0, none⟩ = some tv) (hM : w.heap[M]? = some (one (.string nm) memb)) (hR : w.heap[R]? = some (.map #[] 0)) (h2 : ex = true → St2 w B0 tv nm none) : Calls Try.prog 37 #[.pointer (some ⟨P, 0, none⟩), .string nm, .bool ex] w (Got w none) := by
  have hP : P < w.heap.size := lt_of_cell c1
  have lM := lookM_hit hM
  unfold memb at lM
  go_enter Try.func37, Try.ntmps37
  go_wp2_with fail
  generalize hW : w.alloc (.cells #[.int .u32 0, .int .u32 7, .int .i32 0] 127) = W
  have B1 : Below w.heap.size w W := by subst hW; exact (Below.refl _ _).alloc (Nat.le_refl _) _
  have k0 : W.cell? ⟨w.heap.size, 0, none⟩ = some (.int .u32 0) := by subst hW; go_simp
  have k1 : W.cell? ⟨w.heap.size, 1, none⟩ = some (.int .u32 7) := by subst hW; go_simp
  clear hW
  have lR : ∀ n, (Instr.lookup 128 (.map (some R)) ref7 true).run Try.prog (W.drewN n) = .ok (.tuple #[.nilIface, .bool false]) (W.drewN n) := fun n => lookR_miss (w := W.drewN n) (show W.heap[R]? = _ from bH B1 hR)
  unfold ref7 at lR
  have k2 := bC B1 c2

  go_quiet (fail)
  clear lM lR k0 k1 k2
  generalize hV : W.drewN nq = V
  have B : Below w.heap.size w V := by subst hV; exact below_drewN B1 _
  clear hV B1
  go_upto_region 8 with fail
  have v1 := bC B c1
  have v4 := bC B c4
  have hmm := @run_makeMap Try.prog
  cases ex with
  | false =>
    go_wp2_with fail
    go_ret
    exact ⟨_, rfl, B.alloc B.size _, B.size, (Go.MapKept.heap_alloc V _).1⟩
  | true =>
    rcases h2 rfl with rfl | ⟨T, E, _, rfl, hT, hE⟩
    · go_wp2_with fail
      go_ret
      exact ⟨_, rfl, B.alloc B.size _, B.size, (Go.MapKept.heap_alloc V _).1⟩
    · have vT := bC B hT
      have hTl : T < V.heap.size := lt_of_cell vT
      rcases hE with ⟨ot, x, hne, hE⟩ | ⟨N, hE⟩
      · have lE := lookE_miss hne (bH B hE)
        go_wp2_with fail
        go_ret
        refine ⟨_, rfl, (B.alloc B.size _).alloc (by have := B.size; simp; omega) _, ?_, ?_⟩
        · have := B.size; simp; omega
        · exact new_after V _ _
      · have lE := lookE_hit (bH B hE)
        unfold nsMember at lE
        have tp := ta_prop ⟨N, 0, none⟩
        go_wp2_with fail
        go_ret
        refine ⟨_, rfl, (B.alloc B.size _).alloc (by have := B.size; simp; omega) _, ?_, ?_⟩
        · have := B.size; simp; omega
        · exact new_after V _ _
set_option maxRecDepth 100000 in
set_option maxHeartbeats 1000000 in
theorem get2bp {B0 : Nat} (P C M R : Nat) (tv : Value) (nm : ByteArray) (par : Nat) (w : World) (c1 : w.cell? ⟨P, 104, none⟩ = some (.pointer (some ⟨C, 0, none⟩))) (c2 : w.cell? ⟨P, 158, none⟩ = some (.map (some R))) (c3 : w.cell? ⟨C, 3, none⟩ = some (.map (some M))) (c4 : w.cell? ⟨C, 0, none⟩ = some tv) (hM : w.heap[M]? = some (one (.string nm) memb)) (hR : w.heap[R]? = some (.map #[] 0)) (h2 : St2 w B0 tv nm (some par)) : Calls Try.prog 37 #[.pointer (some ⟨P, 0, none⟩), .string nm, .bool true] w (Got w (some par)) := by
  have hP : P < w.heap.size := lt_of_cell c1
  have lM := lookM_hit hM
  unfold memb at lM
  go_enter Try.func37, Try.ntmps37
  go_wp2_with fail
  generalize hW : w.alloc (.cells #[.int .u32 0, .int .u32 7, .int .i32 0] 127) = W
  have B1 : Below w.heap.size w W := by subst hW; exact (Below.refl _ _).alloc (Nat.le_refl _) _
  have k0 : W.cell? ⟨w.heap.size, 0, none⟩ = some (.int .u32 0) := by subst hW; go_simp
  have k1 : W.cell? ⟨w.heap.size, 1, none⟩ = some (.int .u32 7) := by subst hW; go_simp
  clear hW
  have lR : ∀ n, (Instr.lookup 128 (.map (some R)) ref7 true).run Try.prog (W.drewN n) = .ok (.tuple #[.nilIface, .bool false]) (W.drewN n) := fun n => lookR_miss (w := W.drewN n) (show W.heap[R]? = _ from bH B1 hR)
  unfold ref7 at lR
  have k2 := bC B1 c2

  go_quiet (fail)
  clear lM lR k0 k1 k2
  generalize hV : W.drewN nq = V
  have B : Below w.heap.size w V := by subst hV; exact below_drewN B1 _
  clear hV B1
  go_upto_region 8 with fail
  have v1 := bC B c1
  have v4 := bC B c4
  obtain ⟨T, E, N, _, rfl, hT, hE, hN⟩ := h2
  have vT := bC B hT
  have vN := bC B hN
  have hTl : T < V.heap.size := lt_of_cell vT
  have hNl : N < V.heap.size := lt_of_cell vN
  have lE := lookE_hit (bH B hE)
  unfold nsMember at lE
  have tn := ta_ns ⟨N, 0, none⟩
  go_wp2_with fail
  go_ret
  exact ⟨_, rfl, B.alloc B.size _, rfl⟩
set_option maxRecDepth 100000 in
set_option maxHeartbeats 1000000 in
theorem get2cn {B0 : Nat} (P C M R : Nat) (tv : Value) (nm : ByteArray) (ex : Bool) (w : World) (c1 : w.cell? ⟨P, 104, none⟩ = some (.pointer (some ⟨C, 0, none⟩))) (c2 : w.cell? ⟨P, 158, none⟩ = some (.map (some R))) (c3 : w.cell? ⟨C, 3, none⟩ = some (.map (some M))) (c4 : w.cell? ⟨C, 0, none⟩ = some tv) (Np : Nat) (hM : w.heap[M]? = some (one (.string nm) memb)) (hR : w.heap[R]? = some (one ref7 (.iface 132 (.pointer (some ⟨Np, 0, none⟩))))) (h2 : ex = true → St2 w B0 tv nm none) : Calls Try.prog 37 #[.pointer (some ⟨P, 0, none⟩), .string nm, .bool ex] w (Got w none) := by
  have hP : P < w.heap.size := lt_of_cell c1
  have lM := lookM_hit hM
  unfold memb at lM
  go_enter Try.func37, Try.ntmps37
  go_wp2_with fail
  generalize hW : w.alloc (.cells #[.int .u32 0, .int .u32 7, .int .i32 0] 127) = W
  have B1 : Below w.heap.size w W := by subst hW; exact (Below.refl _ _).alloc (Nat.le_refl _) _
  have k0 : W.cell? ⟨w.heap.size, 0, none⟩ = some (.int .u32 0) := by subst hW; go_simp
  have k1 : W.cell? ⟨w.heap.size, 1, none⟩ = some (.int .u32 7) := by subst hW; go_simp
  clear hW
  have lR : ∀ n, (Instr.lookup 128 (.map (some R)) ref7 true).run Try.prog (W.drewN n) = .ok (.tuple #[.iface 132 (.pointer (some ⟨Np, 0, none⟩)), .bool true]) (W.drewN n) := fun n => lookR_hit (w := W.drewN n) (show W.heap[R]? = _ from bH B1 hR)
  unfold ref7 at lR
  have k2 := bC B1 c2
  have tpp := ta_prop ⟨Np, 0, none⟩
  go_quiet (fail)
  clear lM lR k0 k1 k2
  generalize hV : W.drewN nq = V
  have B : Below w.heap.size w V := by subst hV; exact below_drewN B1 _
  clear hV B1
  go_upto_region 8 with fail
  have v1 := bC B c1
  have v4 := bC B c4
  have hmm := @run_makeMap Try.prog
  cases ex with
  | false =>
    go_wp2_with fail
    go_ret
    exact ⟨_, rfl, B.alloc B.size _, B.size, (Go.MapKept.heap_alloc V _).1⟩
  | true =>
    rcases h2 rfl with rfl | ⟨T, E, _, rfl, hT, hE⟩
    · go_wp2_with fail
      go_ret
      exact ⟨_, rfl, B.alloc B.size _, B.size, (Go.MapKept.heap_alloc V _).1⟩
    · have vT := bC B hT
      have hTl : T < V.heap.size := lt_of_cell vT
      rcases hE with ⟨ot, x, hne, hE⟩ | ⟨N, hE⟩
      · have lE := lookE_miss hne (bH B hE)
        go_wp2_with fail
        go_ret
        refine ⟨_, rfl, (B.alloc B.size _).alloc (by have := B.size; simp; omega) _, ?_, ?_⟩
        · have := B.size; simp; omega
        · exact new_after V _ _
      · have lE := lookE_hit (bH B hE)
        unfold nsMember at lE
        have tp := ta_prop ⟨N, 0, none⟩
        go_wp2_with fail
        go_ret
        refine ⟨_, rfl, (B.alloc B.size _).alloc (by have := B.size; simp; omega) _, ?_, ?_⟩
        · have := B.size; simp; omega
        · exact new_after V _ _
set_option maxRecDepth 100000 in
set_option maxHeartbeats 1000000 in
theorem get2cp {B0 : Nat} (P C M R : Nat) (tv : Value) (nm : ByteArray) (par : Nat) (w : World) (c1 : w.cell? ⟨P, 104, none⟩ = some (.pointer (some ⟨C, 0, none⟩))) (c2 : w.cell? ⟨P, 158, none⟩ = some (.map (some R))) (c3 : w.cell? ⟨C, 3, none⟩ = some (.map (some M))) (c4 : w.cell? ⟨C, 0, none⟩ = some tv) (Np : Nat) (hM : w.heap[M]? = some (one (.string nm) memb)) (hR : w.heap[R]? = some (one ref7 (.iface 132 (.pointer (some ⟨Np, 0, none⟩))))) (h2 : St2 w B0 tv nm (some par)) : Calls Try.prog 37 #[.pointer (some ⟨P, 0, none⟩), .string nm, .bool true] w (Got w (some par)) := by
  have hP : P < w.heap.size := lt_of_cell c1
  have lM := lookM_hit hM
  unfold memb at lM
  go_enter Try.func37, Try.ntmps37
  go_wp2_with fail
  generalize hW : w.alloc (.cells #[.int .u32 0, .int .u32 7, .int .i32 0] 127) = W
  have B1 : Below w.heap.size w W := by subst hW; exact (Below.refl _ _).alloc (Nat.le_refl _) _
  have k0 : W.cell? ⟨w.heap.size, 0, none⟩ = some (.int .u32 0) := by subst hW; go_simp
  have k1 : W.cell? ⟨w.heap.size, 1, none⟩ = some (.int .u32 7) := by subst hW; go_simp
  clear hW
  have lR : ∀ n, (Instr.lookup 128 (.map (some R)) ref7 true).run Try.prog (W.drewN n) = .ok (.tuple #[.iface 132 (.pointer (some ⟨Np, 0, none⟩)), .bool true]) (W.drewN n) := fun n => lookR_hit (w := W.drewN n) (show W.heap[R]? = _ from bH B1 hR)
  unfold ref7 at lR
  have k2 := bC B1 c2
  have tpp := ta_prop ⟨Np, 0, none⟩
  go_quiet (fail)
  clear lM lR k0 k1 k2
  generalize hV : W.drewN nq = V
  have B : Below w.heap.size w V := by subst hV; exact below_drewN B1 _
  clear hV B1
  go_upto_region 8 with fail
  have v1 := bC B c1
  have v4 := bC B c4
  obtain ⟨T, E, N, _, rfl, hT, hE, hN⟩ := h2
  have vT := bC B hT
  have vN := bC B hN
  have hTl : T < V.heap.size := lt_of_cell vT
  have hNl : N < V.heap.size := lt_of_cell vN
  have lE := lookE_hit (bH B hE)
  unfold nsMember at lE
  have tn := ta_ns ⟨N, 0, none⟩
  go_wp2_with fail
  go_ret
  exact ⟨_, rfl, B.alloc B.size _, rfl⟩
def pick (ex : Bool) (s1 s2 : Option Nat) : Option Nat := match s1 with | some s => some s | none => if ex then s2 else none
theorem get {B0 : Nat} (P C M R : Nat) (tv : Value) (nm : ByteArray) (ex : Bool) (s1 s2 : Option Nat) (w : World) (c1 : w.cell? ⟨P, 104, none⟩ = some (.pointer (some ⟨C, 0, none⟩))) (c2 : w.cell? ⟨P, 158, none⟩ = some (.map (some R))) (c3 : w.cell? ⟨C, 3, none⟩ = some (.map (some M))) (c4 : w.cell? ⟨C, 0, none⟩ = some tv) (h1 : St1 w M R nm s1) (h2 : St2 w B0 tv nm s2) : Calls Try.prog 37 #[.pointer (some ⟨P, 0, none⟩), .string nm, .bool ex] w (Got w (pick ex s1 s2)) := by
  cases s1 with
  | some sib => exact get1 P C M R sib tv nm ex w c1 c2 c3 h1
  | none =>
    cases s2 with
    | none =>
      have e : pick ex none none = none := by cases ex <;> rfl
      rw [e]
      rcases h1 with ⟨ot, hne, hM⟩ | ⟨hM, hR | ⟨N, hR⟩⟩
      · exact get2an P C M R tv nm ex w c1 c2 c3 c4 ot hne hM (fun _ => h2)
      · exact get2bn P C M R tv nm ex w c1 c2 c3 c4 hM hR (fun _ => h2)
      · exact get2cn P C M R tv nm ex w c1 c2 c3 c4 N hM hR (fun _ => h2)
    | some par =>
      cases ex with
      | false =>
        rcases h1 with ⟨ot, hne, hM⟩ | ⟨hM, hR | ⟨N, hR⟩⟩
        · exact get2an (B0 := B0) P C M R tv nm false w c1 c2 c3 c4 ot hne hM (fun h => by cases h)
        · exact get2bn (B0 := B0) P C M R tv nm false w c1 c2 c3 c4 hM hR (fun h => by cases h)
        · exact get2cn (B0 := B0) P C M R tv nm false w c1 c2 c3 c4 N hM hR (fun h => by cases h)
      | true =>
        rcases h1 with ⟨ot, hne, hM⟩ | ⟨hM, hR | ⟨N, hR⟩⟩
        · exact get2ap P C M R tv nm par w c1 c2 c3 c4 ot hne hM h2
        · exact get2bp P C M R tv nm par w c1 c2 c3 c4 hM hR h2
        · exact get2cp P C M R tv nm par w c1 c2 c3 c4 N hM hR h2
theorem zzGet {B0 : Nat} (P C M R : Nat) (tv : Value) (nm : ByteArray) (ex : Bool) (s1 s2 : Option Nat) (w : World) (c1 : w.cell? ⟨P, 104, none⟩ = some (.pointer (some ⟨C, 0, none⟩))) (c2 : w.cell? ⟨P, 158, none⟩ = some (.map (some R))) (c3 : w.cell? ⟨C, 3, none⟩ = some (.map (some M))) (c4 : w.cell? ⟨C, 0, none⟩ = some tv) (h1 : St1 w M R nm s1) (h2 : St2 w B0 tv nm s2) : Calls Try.prog 10 #[.pointer (some ⟨P, 0, none⟩), .string nm, .bool ex] w (Got w (pick ex s1 s2)) := by
  have H := Lib.hid (get P C M R tv nm ex s1 s2 w c1 c2 c3 c4 h1 h2)
  clear c1 c2 c3 c4 h1 h2
  go_enter Try.func10, Try.ntmps10
  go_wp2_with fail
  go_at_call 37
  refine H.out.mono ?_
  rintro e w1 ⟨b, rfl, B1, hb⟩
  replace hb := Lib.hid hb
  go_wp2_with fail
  go_ret
  exact ⟨b, rfl, B1, hb.out⟩
end Go.Proofs.Ytihpdmoonddjmaa.Ns
