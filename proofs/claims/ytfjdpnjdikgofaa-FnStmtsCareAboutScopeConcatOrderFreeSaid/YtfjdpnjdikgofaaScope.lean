/-
  The statements that FnStmtsCareAboutScopeConcatOrderFree builds, and what stmtCaresAboutScope answers of each. Condition: at most 131072 statements.
-/
import Derived.Test.YtfjdpnjdikgofaaRowsI
import Derived.Lib.Hide
import Derived.Laws.Cover3
import Derived.WalkLawsBesides
import Derived.WalkSpells
import Derived.Laws.MakeOwn
import Derived.Outline
namespace Go.Proofs.Ytfjdpnjdikgofaa.Scope
open Go.RowKit Go.Proofs.Ytfjdpnjdikgofaa.Ints

theorem ta_ptr {P : Program} {T e : TypeId} (hT : P.underlying T = some (.pointer e)) (hz : ∀ w : World, (zeroValue T).run P w = .ok (.pointer none) w) (x t : TypeId) (v : Value) (w : World) :
    (Instr.typeAssert (.iface t v) x T true).run P w = .ok (if t = T then .tuple #[v, .bool true] else .tuple #[.pointer none, .bool false]) w := by
  by_cases h : t = T
  · simp [Instr.typeAssert, run_underlying hT, h]
  · simp [Instr.typeAssert, run_underlying hT, h, hz]
theorem ta_nil {P : Program} {T e : TypeId} (hT : P.underlying T = some (.pointer e)) (hz : ∀ w : World, (zeroValue T).run P w = .ok (.pointer none) w) (x : TypeId) (w : World) :
    (Instr.typeAssert .nilIface x T true).run P w = .ok (.tuple #[.pointer none, .bool false]) w := by
  simp [Instr.typeAssert, run_underlying hT, hz]
theorem ta_SBlock (t : TypeId) (v : Value) (w : World) : (Instr.typeAssert (.iface t v) 31 270 true).run Try.prog w = .ok (if t = 270 then .tuple #[v, .bool true] else .tuple #[.pointer none, .bool false]) w :=
  ta_ptr Try.underlying270 (fun _ => by kernel_rfl) _ _ _ _
theorem tn_SBlock (w : World) : (Instr.typeAssert .nilIface 31 270 true).run Try.prog w = .ok (.tuple #[.pointer none, .bool false]) w :=
  ta_nil Try.underlying270 (fun _ => by kernel_rfl) _ _
theorem ta_SEmpty (t : TypeId) (v : Value) (w : World) : (Instr.typeAssert (.iface t v) 31 276 true).run Try.prog w = .ok (if t = 276 then .tuple #[v, .bool true] else .tuple #[.pointer none, .bool false]) w :=
  ta_ptr Try.underlying276 (fun _ => by kernel_rfl) _ _ _ _
theorem tn_SEmpty (w : World) : (Instr.typeAssert .nilIface 31 276 true).run Try.prog w = .ok (.tuple #[.pointer none, .bool false]) w :=
  ta_nil Try.underlying276 (fun _ => by kernel_rfl) _ _
theorem ta_SDebugger (t : TypeId) (v : Value) (w : World) : (Instr.typeAssert (.iface t v) 31 289 true).run Try.prog w = .ok (if t = 289 then .tuple #[v, .bool true] else .tuple #[.pointer none, .bool false]) w :=
  ta_ptr Try.underlying289 (fun _ => by kernel_rfl) _ _ _ _
theorem tn_SDebugger (w : World) : (Instr.typeAssert .nilIface 31 289 true).run Try.prog w = .ok (.tuple #[.pointer none, .bool false]) w :=
  ta_nil Try.underlying289 (fun _ => by kernel_rfl) _ _
theorem ta_SExpr (t : TypeId) (v : Value) (w : World) : (Instr.typeAssert (.iface t v) 31 282 true).run Try.prog w = .ok (if t = 282 then .tuple #[v, .bool true] else .tuple #[.pointer none, .bool false]) w :=
  ta_ptr Try.underlying282 (fun _ => by kernel_rfl) _ _ _ _
theorem tn_SExpr (w : World) : (Instr.typeAssert .nilIface 31 282 true).run Try.prog w = .ok (.tuple #[.pointer none, .bool false]) w :=
  ta_nil Try.underlying282 (fun _ => by kernel_rfl) _ _
theorem ta_SIf (t : TypeId) (v : Value) (w : World) : (Instr.typeAssert (.iface t v) 31 291 true).run Try.prog w = .ok (if t = 291 then .tuple #[v, .bool true] else .tuple #[.pointer none, .bool false]) w :=
  ta_ptr Try.underlying291 (fun _ => by kernel_rfl) _ _ _ _
theorem tn_SIf (w : World) : (Instr.typeAssert .nilIface 31 291 true).run Try.prog w = .ok (.tuple #[.pointer none, .bool false]) w :=
  ta_nil Try.underlying291 (fun _ => by kernel_rfl) _ _
theorem ta_SFor (t : TypeId) (v : Value) (w : World) : (Instr.typeAssert (.iface t v) 31 294 true).run Try.prog w = .ok (if t = 294 then .tuple #[v, .bool true] else .tuple #[.pointer none, .bool false]) w :=
  ta_ptr Try.underlying294 (fun _ => by kernel_rfl) _ _ _ _
theorem tn_SFor (w : World) : (Instr.typeAssert .nilIface 31 294 true).run Try.prog w = .ok (.tuple #[.pointer none, .bool false]) w :=
  ta_nil Try.underlying294 (fun _ => by kernel_rfl) _ _
theorem ta_SForIn (t : TypeId) (v : Value) (w : World) : (Instr.typeAssert (.iface t v) 31 297 true).run Try.prog w = .ok (if t = 297 then .tuple #[v, .bool true] else .tuple #[.pointer none, .bool false]) w :=
  ta_ptr Try.underlying297 (fun _ => by kernel_rfl) _ _ _ _
theorem tn_SForIn (w : World) : (Instr.typeAssert .nilIface 31 297 true).run Try.prog w = .ok (.tuple #[.pointer none, .bool false]) w :=
  ta_nil Try.underlying297 (fun _ => by kernel_rfl) _ _
theorem ta_SForOf (t : TypeId) (v : Value) (w : World) : (Instr.typeAssert (.iface t v) 31 300 true).run Try.prog w = .ok (if t = 300 then .tuple #[v, .bool true] else .tuple #[.pointer none, .bool false]) w :=
  ta_ptr Try.underlying300 (fun _ => by kernel_rfl) _ _ _ _
theorem tn_SForOf (w : World) : (Instr.typeAssert .nilIface 31 300 true).run Try.prog w = .ok (.tuple #[.pointer none, .bool false]) w :=
  ta_nil Try.underlying300 (fun _ => by kernel_rfl) _ _
theorem ta_SDoWhile (t : TypeId) (v : Value) (w : World) : (Instr.typeAssert (.iface t v) 31 303 true).run Try.prog w = .ok (if t = 303 then .tuple #[v, .bool true] else .tuple #[.pointer none, .bool false]) w :=
  ta_ptr Try.underlying303 (fun _ => by kernel_rfl) _ _ _ _
theorem tn_SDoWhile (w : World) : (Instr.typeAssert .nilIface 31 303 true).run Try.prog w = .ok (.tuple #[.pointer none, .bool false]) w :=
  ta_nil Try.underlying303 (fun _ => by kernel_rfl) _ _
theorem ta_SWhile (t : TypeId) (v : Value) (w : World) : (Instr.typeAssert (.iface t v) 31 306 true).run Try.prog w = .ok (if t = 306 then .tuple #[v, .bool true] else .tuple #[.pointer none, .bool false]) w :=
  ta_ptr Try.underlying306 (fun _ => by kernel_rfl) _ _ _ _
theorem tn_SWhile (w : World) : (Instr.typeAssert .nilIface 31 306 true).run Try.prog w = .ok (.tuple #[.pointer none, .bool false]) w :=
  ta_nil Try.underlying306 (fun _ => by kernel_rfl) _ _
theorem ta_SWith (t : TypeId) (v : Value) (w : World) : (Instr.typeAssert (.iface t v) 31 309 true).run Try.prog w = .ok (if t = 309 then .tuple #[v, .bool true] else .tuple #[.pointer none, .bool false]) w :=
  ta_ptr Try.underlying309 (fun _ => by kernel_rfl) _ _ _ _
theorem tn_SWith (w : World) : (Instr.typeAssert .nilIface 31 309 true).run Try.prog w = .ok (.tuple #[.pointer none, .bool false]) w :=
  ta_nil Try.underlying309 (fun _ => by kernel_rfl) _ _
theorem ta_STry (t : TypeId) (v : Value) (w : World) : (Instr.typeAssert (.iface t v) 31 312 true).run Try.prog w = .ok (if t = 312 then .tuple #[v, .bool true] else .tuple #[.pointer none, .bool false]) w :=
  ta_ptr Try.underlying312 (fun _ => by kernel_rfl) _ _ _ _
theorem tn_STry (w : World) : (Instr.typeAssert .nilIface 31 312 true).run Try.prog w = .ok (.tuple #[.pointer none, .bool false]) w :=
  ta_nil Try.underlying312 (fun _ => by kernel_rfl) _ _
theorem ta_SSwitch (t : TypeId) (v : Value) (w : World) : (Instr.typeAssert (.iface t v) 31 317 true).run Try.prog w = .ok (if t = 317 then .tuple #[v, .bool true] else .tuple #[.pointer none, .bool false]) w :=
  ta_ptr Try.underlying317 (fun _ => by kernel_rfl) _ _ _ _
theorem tn_SSwitch (w : World) : (Instr.typeAssert .nilIface 31 317 true).run Try.prog w = .ok (.tuple #[.pointer none, .bool false]) w :=
  ta_nil Try.underlying317 (fun _ => by kernel_rfl) _ _
theorem ta_SReturn (t : TypeId) (v : Value) (w : World) : (Instr.typeAssert (.iface t v) 31 273 true).run Try.prog w = .ok (if t = 273 then .tuple #[v, .bool true] else .tuple #[.pointer none, .bool false]) w :=
  ta_ptr Try.underlying273 (fun _ => by kernel_rfl) _ _ _ _
theorem tn_SReturn (w : World) : (Instr.typeAssert .nilIface 31 273 true).run Try.prog w = .ok (.tuple #[.pointer none, .bool false]) w :=
  ta_nil Try.underlying273 (fun _ => by kernel_rfl) _ _
theorem ta_SThrow (t : TypeId) (v : Value) (w : World) : (Instr.typeAssert (.iface t v) 31 321 true).run Try.prog w = .ok (if t = 321 then .tuple #[v, .bool true] else .tuple #[.pointer none, .bool false]) w :=
  ta_ptr Try.underlying321 (fun _ => by kernel_rfl) _ _ _ _
theorem tn_SThrow (w : World) : (Instr.typeAssert .nilIface 31 321 true).run Try.prog w = .ok (.tuple #[.pointer none, .bool false]) w :=
  ta_nil Try.underlying321 (fun _ => by kernel_rfl) _ _
theorem ta_SBreak (t : TypeId) (v : Value) (w : World) : (Instr.typeAssert (.iface t v) 31 324 true).run Try.prog w = .ok (if t = 324 then .tuple #[v, .bool true] else .tuple #[.pointer none, .bool false]) w :=
  ta_ptr Try.underlying324 (fun _ => by kernel_rfl) _ _ _ _
theorem tn_SBreak (w : World) : (Instr.typeAssert .nilIface 31 324 true).run Try.prog w = .ok (.tuple #[.pointer none, .bool false]) w :=
  ta_nil Try.underlying324 (fun _ => by kernel_rfl) _ _
theorem ta_SContinue (t : TypeId) (v : Value) (w : World) : (Instr.typeAssert (.iface t v) 31 328 true).run Try.prog w = .ok (if t = 328 then .tuple #[v, .bool true] else .tuple #[.pointer none, .bool false]) w :=
  ta_ptr Try.underlying328 (fun _ => by kernel_rfl) _ _ _ _
theorem tn_SContinue (w : World) : (Instr.typeAssert .nilIface 31 328 true).run Try.prog w = .ok (.tuple #[.pointer none, .bool false]) w :=
  ta_nil Try.underlying328 (fun _ => by kernel_rfl) _ _
theorem ta_SDirective (t : TypeId) (v : Value) (w : World) : (Instr.typeAssert (.iface t v) 31 330 true).run Try.prog w = .ok (if t = 330 then .tuple #[v, .bool true] else .tuple #[.pointer none, .bool false]) w :=
  ta_ptr Try.underlying330 (fun _ => by kernel_rfl) _ _ _ _
theorem tn_SDirective (w : World) : (Instr.typeAssert .nilIface 31 330 true).run Try.prog w = .ok (.tuple #[.pointer none, .bool false]) w :=
  ta_nil Try.underlying330 (fun _ => by kernel_rfl) _ _
theorem ta_SLabel (t : TypeId) (v : Value) (w : World) : (Instr.typeAssert (.iface t v) 31 333 true).run Try.prog w = .ok (if t = 333 then .tuple #[v, .bool true] else .tuple #[.pointer none, .bool false]) w :=
  ta_ptr Try.underlying333 (fun _ => by kernel_rfl) _ _ _ _
theorem tn_SLabel (w : World) : (Instr.typeAssert .nilIface 31 333 true).run Try.prog w = .ok (.tuple #[.pointer none, .bool false]) w :=
  ta_nil Try.underlying333 (fun _ => by kernel_rfl) _ _
theorem ta_SLocal (t : TypeId) (v : Value) (w : World) : (Instr.typeAssert (.iface t v) 31 336 true).run Try.prog w = .ok (if t = 336 then .tuple #[v, .bool true] else .tuple #[.pointer none, .bool false]) w :=
  ta_ptr Try.underlying336 (fun _ => by kernel_rfl) _ _ _ _
theorem tn_SLocal (w : World) : (Instr.typeAssert .nilIface 31 336 true).run Try.prog w = .ok (.tuple #[.pointer none, .bool false]) w :=
  ta_nil Try.underlying336 (fun _ => by kernel_rfl) _ _
def styp (c : Int) : TypeId := if c = 0 then 270 else if c = 1 then 276 else if c = 2 then 289 else if c = 3 then 282 else if c = 4 then 291 else if c = 5 then 294 else if c = 6 then 297 else if c = 7 then 300 else if c = 8 then 303 else if c = 9 then 306 else if c = 10 then 309 else if c = 11 then 312 else if c = 12 then 317 else if c = 13 then 273 else if c = 14 then 321 else if c = 15 then 324 else if c = 16 then 328 else if c = 17 then 330 else if c = 18 then 333 else if c = 19 then 336 else if c = 20 then 336 else if c = 21 then 336 else if c = 22 then 340 else if c = 23 then 348 else 352
/-- What a statement's cell holds for a kind; b: the row's block. -/
def StmtIs (w : World) (b : Nat) (c : Int) (v : Value) : Prop :=
  (c = 25 ∧ v = .nilIface) ∨ (0 ≤ c ∧ c ≤ 24 ∧ (c < 19 ∨ 21 < c) ∧ ∃ B, v = .iface (styp c) (.pointer (some ⟨B, 0, none⟩))) ∨
  (19 ≤ c ∧ c ≤ 21 ∧ ∃ B, b < B ∧ v = .iface 336 (.pointer (some ⟨B, 0, none⟩)) ∧ w.cell? ⟨B, 1, none⟩ = some (.int .u8 (c - 19)))
def Made (c loc : Int) (w : World) (e : Ending) (w' : World) : Prop := ∃ v, e = .returned (.agg #[v, .int .i32 loc]) ∧ (∀ b, b < w.heap.size → StmtIs w' b c v) ∧ Below w.heap.size w w'
set_option maxRecDepth 100000 in
set_option maxHeartbeats 1000000 in
theorem make0 (loc : Int) (w : World) : Calls Try.prog 52 #[.int .i64 0, .int .i32 loc, .bool false] w (Made 0 loc w) := by
  go_enter Try.func52, Try.ntmps52
  go_wp2
  exact bodyPost_ret (v := .agg #[.iface 270 (.pointer (some ⟨w.heap.size + 2, 0, none⟩)), .int .i32 loc]) (by simp [results, Try.results52, go_sem]) rfl ⟨_, rfl, fun b hb => .inr (.inl ⟨by omega, by omega, by omega, _, rfl⟩), (((Below.refl _ _).alloc (Nat.le_refl _) _).alloc (by simp) _).alloc (by simp; omega) _⟩
set_option maxRecDepth 100000 in
set_option maxHeartbeats 1000000 in
theorem make1 (loc : Int) (w : World) : Calls Try.prog 52 #[.int .i64 1, .int .i32 loc, .bool false] w (Made 1 loc w) := by
  go_enter Try.func52, Try.ntmps52
  go_wp2
  exact bodyPost_ret (v := .agg #[.iface 276 (.pointer (some ⟨w.heap.size + 2, 0, none⟩)), .int .i32 loc]) (by simp [results, Try.results52, go_sem]) rfl ⟨_, rfl, fun b hb => .inr (.inl ⟨by omega, by omega, by omega, _, rfl⟩), (((Below.refl _ _).alloc (Nat.le_refl _) _).alloc (by simp) _).alloc (by simp; omega) _⟩
set_option maxRecDepth 100000 in
set_option maxHeartbeats 1000000 in
theorem make2 (loc : Int) (w : World) : Calls Try.prog 52 #[.int .i64 2, .int .i32 loc, .bool false] w (Made 2 loc w) := by
  go_enter Try.func52, Try.ntmps52
  go_wp2
  exact bodyPost_ret (v := .agg #[.iface 289 (.pointer (some ⟨w.heap.size + 2, 0, none⟩)), .int .i32 loc]) (by simp [results, Try.results52, go_sem]) rfl ⟨_, rfl, fun b hb => .inr (.inl ⟨by omega, by omega, by omega, _, rfl⟩), (((Below.refl _ _).alloc (Nat.le_refl _) _).alloc (by simp) _).alloc (by simp; omega) _⟩
set_option maxRecDepth 100000 in
set_option maxHeartbeats 1000000 in
theorem make3 (loc : Int) (w : World) : Calls Try.prog 52 #[.int .i64 3, .int .i32 loc, .bool false] w (Made 3 loc w) := by
  go_enter Try.func52, Try.ntmps52
  go_wp2
  exact bodyPost_ret (v := .agg #[.iface 282 (.pointer (some ⟨w.heap.size + 2, 0, none⟩)), .int .i32 loc]) (by simp [results, Try.results52, go_sem]) rfl ⟨_, rfl, fun b hb => .inr (.inl ⟨by omega, by omega, by omega, _, rfl⟩), (((Below.refl _ _).alloc (Nat.le_refl _) _).alloc (by simp) _).alloc (by simp; omega) _⟩
set_option maxRecDepth 100000 in
set_option maxHeartbeats 1000000 in
theorem make4 (loc : Int) (w : World) : Calls Try.prog 52 #[.int .i64 4, .int .i32 loc, .bool false] w (Made 4 loc w) := by
  go_enter Try.func52, Try.ntmps52
  go_wp2
  exact bodyPost_ret (v := .agg #[.iface 291 (.pointer (some ⟨w.heap.size + 2, 0, none⟩)), .int .i32 loc]) (by simp [results, Try.results52, go_sem]) rfl ⟨_, rfl, fun b hb => .inr (.inl ⟨by omega, by omega, by omega, _, rfl⟩), (((Below.refl _ _).alloc (Nat.le_refl _) _).alloc (by simp) _).alloc (by simp; omega) _⟩
set_option maxRecDepth 100000 in
set_option maxHeartbeats 1000000 in
theorem make5 (loc : Int) (w : World) : Calls Try.prog 52 #[.int .i64 5, .int .i32 loc, .bool false] w (Made 5 loc w) := by
  go_enter Try.func52, Try.ntmps52
  go_wp2
  exact bodyPost_ret (v := .agg #[.iface 294 (.pointer (some ⟨w.heap.size + 2, 0, none⟩)), .int .i32 loc]) (by simp [results, Try.results52, go_sem]) rfl ⟨_, rfl, fun b hb => .inr (.inl ⟨by omega, by omega, by omega, _, rfl⟩), (((Below.refl _ _).alloc (Nat.le_refl _) _).alloc (by simp) _).alloc (by simp; omega) _⟩
set_option maxRecDepth 100000 in
set_option maxHeartbeats 1000000 in
theorem make6 (loc : Int) (w : World) : Calls Try.prog 52 #[.int .i64 6, .int .i32 loc, .bool false] w (Made 6 loc w) := by
  go_enter Try.func52, Try.ntmps52
  go_wp2
  exact bodyPost_ret (v := .agg #[.iface 297 (.pointer (some ⟨w.heap.size + 2, 0, none⟩)), .int .i32 loc]) (by simp [results, Try.results52, go_sem]) rfl ⟨_, rfl, fun b hb => .inr (.inl ⟨by omega, by omega, by omega, _, rfl⟩), (((Below.refl _ _).alloc (Nat.le_refl _) _).alloc (by simp) _).alloc (by simp; omega) _⟩
set_option maxRecDepth 100000 in
set_option maxHeartbeats 1000000 in
theorem make7 (loc : Int) (w : World) : Calls Try.prog 52 #[.int .i64 7, .int .i32 loc, .bool false] w (Made 7 loc w) := by
  go_enter Try.func52, Try.ntmps52
  go_wp2
  exact bodyPost_ret (v := .agg #[.iface 300 (.pointer (some ⟨w.heap.size + 2, 0, none⟩)), .int .i32 loc]) (by simp [results, Try.results52, go_sem]) rfl ⟨_, rfl, fun b hb => .inr (.inl ⟨by omega, by omega, by omega, _, rfl⟩), (((Below.refl _ _).alloc (Nat.le_refl _) _).alloc (by simp) _).alloc (by simp; omega) _⟩
set_option maxRecDepth 100000 in
set_option maxHeartbeats 1000000 in
theorem make8 (loc : Int) (w : World) : Calls Try.prog 52 #[.int .i64 8, .int .i32 loc, .bool false] w (Made 8 loc w) := by
  go_enter Try.func52, Try.ntmps52
  go_wp2
  exact bodyPost_ret (v := .agg #[.iface 303 (.pointer (some ⟨w.heap.size + 2, 0, none⟩)), .int .i32 loc]) (by simp [results, Try.results52, go_sem]) rfl ⟨_, rfl, fun b hb => .inr (.inl ⟨by omega, by omega, by omega, _, rfl⟩), (((Below.refl _ _).alloc (Nat.le_refl _) _).alloc (by simp) _).alloc (by simp; omega) _⟩
set_option maxRecDepth 100000 in
set_option maxHeartbeats 1000000 in
theorem make9 (loc : Int) (w : World) : Calls Try.prog 52 #[.int .i64 9, .int .i32 loc, .bool false] w (Made 9 loc w) := by
  go_enter Try.func52, Try.ntmps52
  go_wp2
  exact bodyPost_ret (v := .agg #[.iface 306 (.pointer (some ⟨w.heap.size + 2, 0, none⟩)), .int .i32 loc]) (by simp [results, Try.results52, go_sem]) rfl ⟨_, rfl, fun b hb => .inr (.inl ⟨by omega, by omega, by omega, _, rfl⟩), (((Below.refl _ _).alloc (Nat.le_refl _) _).alloc (by simp) _).alloc (by simp; omega) _⟩
set_option maxRecDepth 100000 in
set_option maxHeartbeats 1000000 in
theorem make10 (loc : Int) (w : World) : Calls Try.prog 52 #[.int .i64 10, .int .i32 loc, .bool false] w (Made 10 loc w) := by
  go_enter Try.func52, Try.ntmps52
  go_wp2
  exact bodyPost_ret (v := .agg #[.iface 309 (.pointer (some ⟨w.heap.size + 2, 0, none⟩)), .int .i32 loc]) (by simp [results, Try.results52, go_sem]) rfl ⟨_, rfl, fun b hb => .inr (.inl ⟨by omega, by omega, by omega, _, rfl⟩), (((Below.refl _ _).alloc (Nat.le_refl _) _).alloc (by simp) _).alloc (by simp; omega) _⟩
set_option maxRecDepth 100000 in
set_option maxHeartbeats 1000000 in
theorem make11 (loc : Int) (w : World) : Calls Try.prog 52 #[.int .i64 11, .int .i32 loc, .bool false] w (Made 11 loc w) := by
  go_enter Try.func52, Try.ntmps52
  go_wp2
  exact bodyPost_ret (v := .agg #[.iface 312 (.pointer (some ⟨w.heap.size + 2, 0, none⟩)), .int .i32 loc]) (by simp [results, Try.results52, go_sem]) rfl ⟨_, rfl, fun b hb => .inr (.inl ⟨by omega, by omega, by omega, _, rfl⟩), (((Below.refl _ _).alloc (Nat.le_refl _) _).alloc (by simp) _).alloc (by simp; omega) _⟩
set_option maxRecDepth 100000 in
set_option maxHeartbeats 1000000 in
theorem make12 (loc : Int) (w : World) : Calls Try.prog 52 #[.int .i64 12, .int .i32 loc, .bool false] w (Made 12 loc w) := by
  go_enter Try.func52, Try.ntmps52
  go_wp2
  exact bodyPost_ret (v := .agg #[.iface 317 (.pointer (some ⟨w.heap.size + 2, 0, none⟩)), .int .i32 loc]) (by simp [results, Try.results52, go_sem]) rfl ⟨_, rfl, fun b hb => .inr (.inl ⟨by omega, by omega, by omega, _, rfl⟩), (((Below.refl _ _).alloc (Nat.le_refl _) _).alloc (by simp) _).alloc (by simp; omega) _⟩
set_option maxRecDepth 100000 in
set_option maxHeartbeats 1000000 in
theorem make13 (loc : Int) (w : World) : Calls Try.prog 52 #[.int .i64 13, .int .i32 loc, .bool false] w (Made 13 loc w) := by
  go_enter Try.func52, Try.ntmps52
  go_wp2
  exact bodyPost_ret (v := .agg #[.iface 273 (.pointer (some ⟨w.heap.size + 2, 0, none⟩)), .int .i32 loc]) (by simp [results, Try.results52, go_sem]) rfl ⟨_, rfl, fun b hb => .inr (.inl ⟨by omega, by omega, by omega, _, rfl⟩), (((Below.refl _ _).alloc (Nat.le_refl _) _).alloc (by simp) _).alloc (by simp; omega) _⟩
set_option maxRecDepth 100000 in
set_option maxHeartbeats 1000000 in
theorem make14 (loc : Int) (w : World) : Calls Try.prog 52 #[.int .i64 14, .int .i32 loc, .bool false] w (Made 14 loc w) := by
  go_enter Try.func52, Try.ntmps52
  go_wp2
  exact bodyPost_ret (v := .agg #[.iface 321 (.pointer (some ⟨w.heap.size + 2, 0, none⟩)), .int .i32 loc]) (by simp [results, Try.results52, go_sem]) rfl ⟨_, rfl, fun b hb => .inr (.inl ⟨by omega, by omega, by omega, _, rfl⟩), (((Below.refl _ _).alloc (Nat.le_refl _) _).alloc (by simp) _).alloc (by simp; omega) _⟩
set_option maxRecDepth 100000 in
set_option maxHeartbeats 1000000 in
theorem make15 (loc : Int) (w : World) : Calls Try.prog 52 #[.int .i64 15, .int .i32 loc, .bool false] w (Made 15 loc w) := by
  go_enter Try.func52, Try.ntmps52
  go_wp2
  exact bodyPost_ret (v := .agg #[.iface 324 (.pointer (some ⟨w.heap.size + 2, 0, none⟩)), .int .i32 loc]) (by simp [results, Try.results52, go_sem]) rfl ⟨_, rfl, fun b hb => .inr (.inl ⟨by omega, by omega, by omega, _, rfl⟩), (((Below.refl _ _).alloc (Nat.le_refl _) _).alloc (by simp) _).alloc (by simp; omega) _⟩
set_option maxRecDepth 100000 in
set_option maxHeartbeats 1000000 in
theorem make16 (loc : Int) (w : World) : Calls Try.prog 52 #[.int .i64 16, .int .i32 loc, .bool false] w (Made 16 loc w) := by
  go_enter Try.func52, Try.ntmps52
  go_wp2
  exact bodyPost_ret (v := .agg #[.iface 328 (.pointer (some ⟨w.heap.size + 2, 0, none⟩)), .int .i32 loc]) (by simp [results, Try.results52, go_sem]) rfl ⟨_, rfl, fun b hb => .inr (.inl ⟨by omega, by omega, by omega, _, rfl⟩), (((Below.refl _ _).alloc (Nat.le_refl _) _).alloc (by simp) _).alloc (by simp; omega) _⟩
set_option maxRecDepth 100000 in
set_option maxHeartbeats 1000000 in
theorem make17 (loc : Int) (w : World) : Calls Try.prog 52 #[.int .i64 17, .int .i32 loc, .bool false] w (Made 17 loc w) := by
  go_enter Try.func52, Try.ntmps52
  go_wp2
  exact bodyPost_ret (v := .agg #[.iface 330 (.pointer (some ⟨w.heap.size + 2, 0, none⟩)), .int .i32 loc]) (by simp [results, Try.results52, go_sem]) rfl ⟨_, rfl, fun b hb => .inr (.inl ⟨by omega, by omega, by omega, _, rfl⟩), (((Below.refl _ _).alloc (Nat.le_refl _) _).alloc (by simp) _).alloc (by simp; omega) _⟩
set_option maxRecDepth 100000 in
set_option maxHeartbeats 1000000 in
theorem make18 (loc : Int) (w : World) : Calls Try.prog 52 #[.int .i64 18, .int .i32 loc, .bool false] w (Made 18 loc w) := by
  go_enter Try.func52, Try.ntmps52
  go_wp2
  exact bodyPost_ret (v := .agg #[.iface 333 (.pointer (some ⟨w.heap.size + 2, 0, none⟩)), .int .i32 loc]) (by simp [results, Try.results52, go_sem]) rfl ⟨_, rfl, fun b hb => .inr (.inl ⟨by omega, by omega, by omega, _, rfl⟩), (((Below.refl _ _).alloc (Nat.le_refl _) _).alloc (by simp) _).alloc (by simp; omega) _⟩
set_option maxRecDepth 100000 in
set_option maxHeartbeats 1000000 in
theorem make19 (loc : Int) (w : World) : Calls Try.prog 52 #[.int .i64 19, .int .i32 loc, .bool false] w (Made 19 loc w) := by
  go_enter Try.func52, Try.ntmps52
  go_wp2
  exact bodyPost_ret (v := .agg #[.iface 336 (.pointer (some ⟨w.heap.size + 2, 0, none⟩)), .int .i32 loc]) (by simp [results, Try.results52, go_sem]) rfl ⟨_, rfl, fun b hb => .inr (.inr ⟨by omega, by omega, _, by omega, rfl, by go_simp⟩), (((Below.refl _ _).alloc (Nat.le_refl _) _).alloc (by simp) _).alloc (by simp; omega) _⟩
set_option maxRecDepth 100000 in
set_option maxHeartbeats 1000000 in
theorem make20 (loc : Int) (w : World) : Calls Try.prog 52 #[.int .i64 20, .int .i32 loc, .bool false] w (Made 20 loc w) := by
  go_enter Try.func52, Try.ntmps52
  go_wp2
  exact bodyPost_ret (v := .agg #[.iface 336 (.pointer (some ⟨w.heap.size + 2, 0, none⟩)), .int .i32 loc]) (by simp [results, Try.results52, go_sem]) rfl ⟨_, rfl, fun b hb => .inr (.inr ⟨by omega, by omega, _, by omega, rfl, by go_simp⟩), (((Below.refl _ _).alloc (Nat.le_refl _) _).alloc (by simp) _).alloc (by simp; omega) _⟩
set_option maxRecDepth 100000 in
set_option maxHeartbeats 1000000 in
theorem make21 (loc : Int) (w : World) : Calls Try.prog 52 #[.int .i64 21, .int .i32 loc, .bool false] w (Made 21 loc w) := by
  go_enter Try.func52, Try.ntmps52
  go_wp2
  exact bodyPost_ret (v := .agg #[.iface 336 (.pointer (some ⟨w.heap.size + 2, 0, none⟩)), .int .i32 loc]) (by simp [results, Try.results52, go_sem]) rfl ⟨_, rfl, fun b hb => .inr (.inr ⟨by omega, by omega, _, by omega, rfl, by go_simp⟩), (((Below.refl _ _).alloc (Nat.le_refl _) _).alloc (by simp) _).alloc (by simp; omega) _⟩
set_option maxRecDepth 100000 in
set_option maxHeartbeats 1000000 in
theorem make22 (loc : Int) (w : World) : Calls Try.prog 52 #[.int .i64 22, .int .i32 loc, .bool false] w (Made 22 loc w) := by
  go_enter Try.func52, Try.ntmps52
  go_wp2
  exact bodyPost_ret (v := .agg #[.iface 340 (.pointer (some ⟨w.heap.size + 2, 0, none⟩)), .int .i32 loc]) (by simp [results, Try.results52, go_sem]) rfl ⟨_, rfl, fun b hb => .inr (.inl ⟨by omega, by omega, by omega, _, rfl⟩), (((Below.refl _ _).alloc (Nat.le_refl _) _).alloc (by simp) _).alloc (by simp; omega) _⟩
set_option maxRecDepth 100000 in
set_option maxHeartbeats 1000000 in
theorem make23 (loc : Int) (w : World) : Calls Try.prog 52 #[.int .i64 23, .int .i32 loc, .bool false] w (Made 23 loc w) := by
  go_enter Try.func52, Try.ntmps52
  go_wp2
  exact bodyPost_ret (v := .agg #[.iface 348 (.pointer (some ⟨w.heap.size + 2, 0, none⟩)), .int .i32 loc]) (by simp [results, Try.results52, go_sem]) rfl ⟨_, rfl, fun b hb => .inr (.inl ⟨by omega, by omega, by omega, _, rfl⟩), (((Below.refl _ _).alloc (Nat.le_refl _) _).alloc (by simp) _).alloc (by simp; omega) _⟩
set_option maxRecDepth 100000 in
set_option maxHeartbeats 1000000 in
theorem make24 (loc : Int) (w : World) : Calls Try.prog 52 #[.int .i64 24, .int .i32 loc, .bool false] w (Made 24 loc w) := by
  go_enter Try.func52, Try.ntmps52
  go_wp2
  exact bodyPost_ret (v := .agg #[.iface 352 (.pointer (some ⟨w.heap.size + 2, 0, none⟩)), .int .i32 loc]) (by simp [results, Try.results52, go_sem]) rfl ⟨_, rfl, fun b hb => .inr (.inl ⟨by omega, by omega, by omega, _, rfl⟩), (((Below.refl _ _).alloc (Nat.le_refl _) _).alloc (by simp) _).alloc (by simp; omega) _⟩
set_option maxRecDepth 100000 in
set_option maxHeartbeats 1000000 in
theorem make25 (loc : Int) (w : World) : Calls Try.prog 52 #[.int .i64 25, .int .i32 loc, .bool false] w (Made 25 loc w) := by
  go_enter Try.func52, Try.ntmps52
  go_wp2
  exact bodyPost_ret (v := .agg #[.nilIface, .int .i32 loc]) (by simp [results, Try.results52, go_sem]) rfl ⟨_, rfl, fun b hb => .inl ⟨rfl, rfl⟩, ((Below.refl _ _).alloc (Nat.le_refl _) _).alloc (by simp) _⟩
theorem make (c loc : Int) (h0 : 0 ≤ c) (h1 : c ≤ 25) (w : World) : Calls Try.prog 52 #[.int .i64 c, .int .i32 loc, .bool false] w (Made c loc w) := by
  have h : c = 0 ∨ c = 1 ∨ c = 2 ∨ c = 3 ∨ c = 4 ∨ c = 5 ∨ c = 6 ∨ c = 7 ∨ c = 8 ∨ c = 9 ∨ c = 10 ∨ c = 11 ∨ c = 12 ∨ c = 13 ∨ c = 14 ∨ c = 15 ∨ c = 16 ∨ c = 17 ∨ c = 18 ∨ c = 19 ∨ c = 20 ∨ c = 21 ∨ c = 22 ∨ c = 23 ∨ c = 24 ∨ c = 25 := by omega
  rcases h with rfl | rfl | rfl | rfl | rfl | rfl | rfl | rfl | rfl | rfl | rfl | rfl | rfl | rfl | rfl | rfl | rfl | rfl | rfl | rfl | rfl | rfl | rfl | rfl | rfl | rfl
  · exact make0 loc w
  · exact make1 loc w
  · exact make2 loc w
  · exact make3 loc w
  · exact make4 loc w
  · exact make5 loc w
  · exact make6 loc w
  · exact make7 loc w
  · exact make8 loc w
  · exact make9 loc w
  · exact make10 loc w
  · exact make11 loc w
  · exact make12 loc w
  · exact make13 loc w
  · exact make14 loc w
  · exact make15 loc w
  · exact make16 loc w
  · exact make17 loc w
  · exact make18 loc w
  · exact make19 loc w
  · exact make20 loc w
  · exact make21 loc w
  · exact make22 loc w
  · exact make23 loc w
  · exact make24 loc w
  · exact make25 loc w
set_option maxRecDepth 100000 in
set_option maxHeartbeats 1000000 in
theorem care0 (a : Addr) (loc : Int) (w : World) : Calls Try.prog 64 #[.agg #[.iface 270 (.pointer (some a)), .int .i32 loc]] w fun e w' => e = .returned (.bool false) ∧ Below w.heap.size w w' := by
  have h0 := ta_SBlock
  have h1 := ta_SEmpty
  have h2 := ta_SDebugger
  have h3 := ta_SExpr
  have h4 := ta_SIf
  have h5 := ta_SFor
  have h6 := ta_SForIn
  have h7 := ta_SForOf
  have h8 := ta_SDoWhile
  have h9 := ta_SWhile
  have h10 := ta_SWith
  have h11 := ta_STry
  have h12 := ta_SSwitch
  have h13 := ta_SReturn
  have h14 := ta_SThrow
  have h15 := ta_SBreak
  have h16 := ta_SContinue
  have h17 := ta_SDirective
  have h18 := ta_SLabel
  have h19 := ta_SLocal
  go_enter Try.func64, Try.ntmps64
  go_wp2
  go_ret
  exact ⟨rfl, (Below.refl _ _).alloc (Nat.le_refl _) _⟩
set_option maxRecDepth 100000 in
set_option maxHeartbeats 1000000 in
theorem care1 (a : Addr) (loc : Int) (w : World) : Calls Try.prog 64 #[.agg #[.iface 276 (.pointer (some a)), .int .i32 loc]] w fun e w' => e = .returned (.bool false) ∧ Below w.heap.size w w' := by
  have h0 := ta_SBlock
  have h1 := ta_SEmpty
  have h2 := ta_SDebugger
  have h3 := ta_SExpr
  have h4 := ta_SIf
  have h5 := ta_SFor
  have h6 := ta_SForIn
  have h7 := ta_SForOf
  have h8 := ta_SDoWhile
  have h9 := ta_SWhile
  have h10 := ta_SWith
  have h11 := ta_STry
  have h12 := ta_SSwitch
  have h13 := ta_SReturn
  have h14 := ta_SThrow
  have h15 := ta_SBreak
  have h16 := ta_SContinue
  have h17 := ta_SDirective
  have h18 := ta_SLabel
  have h19 := ta_SLocal
  go_enter Try.func64, Try.ntmps64
  go_wp2
  go_ret
  exact ⟨rfl, (Below.refl _ _).alloc (Nat.le_refl _) _⟩
set_option maxRecDepth 100000 in
set_option maxHeartbeats 1000000 in
theorem care2 (a : Addr) (loc : Int) (w : World) : Calls Try.prog 64 #[.agg #[.iface 289 (.pointer (some a)), .int .i32 loc]] w fun e w' => e = .returned (.bool false) ∧ Below w.heap.size w w' := by
  have h0 := ta_SBlock
  have h1 := ta_SEmpty
  have h2 := ta_SDebugger
  have h3 := ta_SExpr
  have h4 := ta_SIf
  have h5 := ta_SFor
  have h6 := ta_SForIn
  have h7 := ta_SForOf
  have h8 := ta_SDoWhile
  have h9 := ta_SWhile
  have h10 := ta_SWith
  have h11 := ta_STry
  have h12 := ta_SSwitch
  have h13 := ta_SReturn
  have h14 := ta_SThrow
  have h15 := ta_SBreak
  have h16 := ta_SContinue
  have h17 := ta_SDirective
  have h18 := ta_SLabel
  have h19 := ta_SLocal
  go_enter Try.func64, Try.ntmps64
  go_wp2
  go_ret
  exact ⟨rfl, (Below.refl _ _).alloc (Nat.le_refl _) _⟩
set_option maxRecDepth 100000 in
set_option maxHeartbeats 1000000 in
theorem care3 (a : Addr) (loc : Int) (w : World) : Calls Try.prog 64 #[.agg #[.iface 282 (.pointer (some a)), .int .i32 loc]] w fun e w' => e = .returned (.bool false) ∧ Below w.heap.size w w' := by
  have h0 := ta_SBlock
  have h1 := ta_SEmpty
  have h2 := ta_SDebugger
  have h3 := ta_SExpr
  have h4 := ta_SIf
  have h5 := ta_SFor
  have h6 := ta_SForIn
  have h7 := ta_SForOf
  have h8 := ta_SDoWhile
  have h9 := ta_SWhile
  have h10 := ta_SWith
  have h11 := ta_STry
  have h12 := ta_SSwitch
  have h13 := ta_SReturn
  have h14 := ta_SThrow
  have h15 := ta_SBreak
  have h16 := ta_SContinue
  have h17 := ta_SDirective
  have h18 := ta_SLabel
  have h19 := ta_SLocal
  go_enter Try.func64, Try.ntmps64
  go_wp2
  go_ret
  exact ⟨rfl, (Below.refl _ _).alloc (Nat.le_refl _) _⟩
set_option maxRecDepth 100000 in
set_option maxHeartbeats 1000000 in
theorem care4 (a : Addr) (loc : Int) (w : World) : Calls Try.prog 64 #[.agg #[.iface 291 (.pointer (some a)), .int .i32 loc]] w fun e w' => e = .returned (.bool false) ∧ Below w.heap.size w w' := by
  have h0 := ta_SBlock
  have h1 := ta_SEmpty
  have h2 := ta_SDebugger
  have h3 := ta_SExpr
  have h4 := ta_SIf
  have h5 := ta_SFor
  have h6 := ta_SForIn
  have h7 := ta_SForOf
  have h8 := ta_SDoWhile
  have h9 := ta_SWhile
  have h10 := ta_SWith
  have h11 := ta_STry
  have h12 := ta_SSwitch
  have h13 := ta_SReturn
  have h14 := ta_SThrow
  have h15 := ta_SBreak
  have h16 := ta_SContinue
  have h17 := ta_SDirective
  have h18 := ta_SLabel
  have h19 := ta_SLocal
  go_enter Try.func64, Try.ntmps64
  go_wp2
  go_ret
  exact ⟨rfl, (Below.refl _ _).alloc (Nat.le_refl _) _⟩
set_option maxRecDepth 100000 in
set_option maxHeartbeats 1000000 in
theorem care5 (a : Addr) (loc : Int) (w : World) : Calls Try.prog 64 #[.agg #[.iface 294 (.pointer (some a)), .int .i32 loc]] w fun e w' => e = .returned (.bool false) ∧ Below w.heap.size w w' := by
  have h0 := ta_SBlock
  have h1 := ta_SEmpty
  have h2 := ta_SDebugger
  have h3 := ta_SExpr
  have h4 := ta_SIf
  have h5 := ta_SFor
  have h6 := ta_SForIn
  have h7 := ta_SForOf
  have h8 := ta_SDoWhile
  have h9 := ta_SWhile
  have h10 := ta_SWith
  have h11 := ta_STry
  have h12 := ta_SSwitch
  have h13 := ta_SReturn
  have h14 := ta_SThrow
  have h15 := ta_SBreak
  have h16 := ta_SContinue
  have h17 := ta_SDirective
  have h18 := ta_SLabel
  have h19 := ta_SLocal
  go_enter Try.func64, Try.ntmps64
  go_wp2
  go_ret
  exact ⟨rfl, (Below.refl _ _).alloc (Nat.le_refl _) _⟩
set_option maxRecDepth 100000 in
set_option maxHeartbeats 1000000 in
theorem care6 (a : Addr) (loc : Int) (w : World) : Calls Try.prog 64 #[.agg #[.iface 297 (.pointer (some a)), .int .i32 loc]] w fun e w' => e = .returned (.bool false) ∧ Below w.heap.size w w' := by
  have h0 := ta_SBlock
  have h1 := ta_SEmpty
  have h2 := ta_SDebugger
  have h3 := ta_SExpr
  have h4 := ta_SIf
  have h5 := ta_SFor
  have h6 := ta_SForIn
  have h7 := ta_SForOf
  have h8 := ta_SDoWhile
  have h9 := ta_SWhile
  have h10 := ta_SWith
  have h11 := ta_STry
  have h12 := ta_SSwitch
  have h13 := ta_SReturn
  have h14 := ta_SThrow
  have h15 := ta_SBreak
  have h16 := ta_SContinue
  have h17 := ta_SDirective
  have h18 := ta_SLabel
  have h19 := ta_SLocal
  go_enter Try.func64, Try.ntmps64
  go_wp2
  go_ret
  exact ⟨rfl, (Below.refl _ _).alloc (Nat.le_refl _) _⟩
set_option maxRecDepth 100000 in
set_option maxHeartbeats 1000000 in
theorem care7 (a : Addr) (loc : Int) (w : World) : Calls Try.prog 64 #[.agg #[.iface 300 (.pointer (some a)), .int .i32 loc]] w fun e w' => e = .returned (.bool false) ∧ Below w.heap.size w w' := by
  have h0 := ta_SBlock
  have h1 := ta_SEmpty
  have h2 := ta_SDebugger
  have h3 := ta_SExpr
  have h4 := ta_SIf
  have h5 := ta_SFor
  have h6 := ta_SForIn
  have h7 := ta_SForOf
  have h8 := ta_SDoWhile
  have h9 := ta_SWhile
  have h10 := ta_SWith
  have h11 := ta_STry
  have h12 := ta_SSwitch
  have h13 := ta_SReturn
  have h14 := ta_SThrow
  have h15 := ta_SBreak
  have h16 := ta_SContinue
  have h17 := ta_SDirective
  have h18 := ta_SLabel
  have h19 := ta_SLocal
  go_enter Try.func64, Try.ntmps64
  go_wp2
  go_ret
  exact ⟨rfl, (Below.refl _ _).alloc (Nat.le_refl _) _⟩
set_option maxRecDepth 100000 in
set_option maxHeartbeats 1000000 in
theorem care8 (a : Addr) (loc : Int) (w : World) : Calls Try.prog 64 #[.agg #[.iface 303 (.pointer (some a)), .int .i32 loc]] w fun e w' => e = .returned (.bool false) ∧ Below w.heap.size w w' := by
  have h0 := ta_SBlock
  have h1 := ta_SEmpty
  have h2 := ta_SDebugger
  have h3 := ta_SExpr
  have h4 := ta_SIf
  have h5 := ta_SFor
  have h6 := ta_SForIn
  have h7 := ta_SForOf
  have h8 := ta_SDoWhile
  have h9 := ta_SWhile
  have h10 := ta_SWith
  have h11 := ta_STry
  have h12 := ta_SSwitch
  have h13 := ta_SReturn
  have h14 := ta_SThrow
  have h15 := ta_SBreak
  have h16 := ta_SContinue
  have h17 := ta_SDirective
  have h18 := ta_SLabel
  have h19 := ta_SLocal
  go_enter Try.func64, Try.ntmps64
  go_wp2
  go_ret
  exact ⟨rfl, (Below.refl _ _).alloc (Nat.le_refl _) _⟩
set_option maxRecDepth 100000 in
set_option maxHeartbeats 1000000 in
theorem care9 (a : Addr) (loc : Int) (w : World) : Calls Try.prog 64 #[.agg #[.iface 306 (.pointer (some a)), .int .i32 loc]] w fun e w' => e = .returned (.bool false) ∧ Below w.heap.size w w' := by
  have h0 := ta_SBlock
  have h1 := ta_SEmpty
  have h2 := ta_SDebugger
  have h3 := ta_SExpr
  have h4 := ta_SIf
  have h5 := ta_SFor
  have h6 := ta_SForIn
  have h7 := ta_SForOf
  have h8 := ta_SDoWhile
  have h9 := ta_SWhile
  have h10 := ta_SWith
  have h11 := ta_STry
  have h12 := ta_SSwitch
  have h13 := ta_SReturn
  have h14 := ta_SThrow
  have h15 := ta_SBreak
  have h16 := ta_SContinue
  have h17 := ta_SDirective
  have h18 := ta_SLabel
  have h19 := ta_SLocal
  go_enter Try.func64, Try.ntmps64
  go_wp2
  go_ret
  exact ⟨rfl, (Below.refl _ _).alloc (Nat.le_refl _) _⟩
set_option maxRecDepth 100000 in
set_option maxHeartbeats 1000000 in
theorem care10 (a : Addr) (loc : Int) (w : World) : Calls Try.prog 64 #[.agg #[.iface 309 (.pointer (some a)), .int .i32 loc]] w fun e w' => e = .returned (.bool false) ∧ Below w.heap.size w w' := by
  have h0 := ta_SBlock
  have h1 := ta_SEmpty
  have h2 := ta_SDebugger
  have h3 := ta_SExpr
  have h4 := ta_SIf
  have h5 := ta_SFor
  have h6 := ta_SForIn
  have h7 := ta_SForOf
  have h8 := ta_SDoWhile
  have h9 := ta_SWhile
  have h10 := ta_SWith
  have h11 := ta_STry
  have h12 := ta_SSwitch
  have h13 := ta_SReturn
  have h14 := ta_SThrow
  have h15 := ta_SBreak
  have h16 := ta_SContinue
  have h17 := ta_SDirective
  have h18 := ta_SLabel
  have h19 := ta_SLocal
  go_enter Try.func64, Try.ntmps64
  go_wp2
  go_ret
  exact ⟨rfl, (Below.refl _ _).alloc (Nat.le_refl _) _⟩
set_option maxRecDepth 100000 in
set_option maxHeartbeats 1000000 in
theorem care11 (a : Addr) (loc : Int) (w : World) : Calls Try.prog 64 #[.agg #[.iface 312 (.pointer (some a)), .int .i32 loc]] w fun e w' => e = .returned (.bool false) ∧ Below w.heap.size w w' := by
  have h0 := ta_SBlock
  have h1 := ta_SEmpty
  have h2 := ta_SDebugger
  have h3 := ta_SExpr
  have h4 := ta_SIf
  have h5 := ta_SFor
  have h6 := ta_SForIn
  have h7 := ta_SForOf
  have h8 := ta_SDoWhile
  have h9 := ta_SWhile
  have h10 := ta_SWith
  have h11 := ta_STry
  have h12 := ta_SSwitch
  have h13 := ta_SReturn
  have h14 := ta_SThrow
  have h15 := ta_SBreak
  have h16 := ta_SContinue
  have h17 := ta_SDirective
  have h18 := ta_SLabel
  have h19 := ta_SLocal
  go_enter Try.func64, Try.ntmps64
  go_wp2
  go_ret
  exact ⟨rfl, (Below.refl _ _).alloc (Nat.le_refl _) _⟩
set_option maxRecDepth 100000 in
set_option maxHeartbeats 1000000 in
theorem care12 (a : Addr) (loc : Int) (w : World) : Calls Try.prog 64 #[.agg #[.iface 317 (.pointer (some a)), .int .i32 loc]] w fun e w' => e = .returned (.bool false) ∧ Below w.heap.size w w' := by
  have h0 := ta_SBlock
  have h1 := ta_SEmpty
  have h2 := ta_SDebugger
  have h3 := ta_SExpr
  have h4 := ta_SIf
  have h5 := ta_SFor
  have h6 := ta_SForIn
  have h7 := ta_SForOf
  have h8 := ta_SDoWhile
  have h9 := ta_SWhile
  have h10 := ta_SWith
  have h11 := ta_STry
  have h12 := ta_SSwitch
  have h13 := ta_SReturn
  have h14 := ta_SThrow
  have h15 := ta_SBreak
  have h16 := ta_SContinue
  have h17 := ta_SDirective
  have h18 := ta_SLabel
  have h19 := ta_SLocal
  go_enter Try.func64, Try.ntmps64
  go_wp2
  go_ret
  exact ⟨rfl, (Below.refl _ _).alloc (Nat.le_refl _) _⟩
set_option maxRecDepth 100000 in
set_option maxHeartbeats 1000000 in
theorem care13 (a : Addr) (loc : Int) (w : World) : Calls Try.prog 64 #[.agg #[.iface 273 (.pointer (some a)), .int .i32 loc]] w fun e w' => e = .returned (.bool false) ∧ Below w.heap.size w w' := by
  have h0 := ta_SBlock
  have h1 := ta_SEmpty
  have h2 := ta_SDebugger
  have h3 := ta_SExpr
  have h4 := ta_SIf
  have h5 := ta_SFor
  have h6 := ta_SForIn
  have h7 := ta_SForOf
  have h8 := ta_SDoWhile
  have h9 := ta_SWhile
  have h10 := ta_SWith
  have h11 := ta_STry
  have h12 := ta_SSwitch
  have h13 := ta_SReturn
  have h14 := ta_SThrow
  have h15 := ta_SBreak
  have h16 := ta_SContinue
  have h17 := ta_SDirective
  have h18 := ta_SLabel
  have h19 := ta_SLocal
  go_enter Try.func64, Try.ntmps64
  go_wp2
  go_ret
  exact ⟨rfl, (Below.refl _ _).alloc (Nat.le_refl _) _⟩
set_option maxRecDepth 100000 in
set_option maxHeartbeats 1000000 in
theorem care14 (a : Addr) (loc : Int) (w : World) : Calls Try.prog 64 #[.agg #[.iface 321 (.pointer (some a)), .int .i32 loc]] w fun e w' => e = .returned (.bool false) ∧ Below w.heap.size w w' := by
  have h0 := ta_SBlock
  have h1 := ta_SEmpty
  have h2 := ta_SDebugger
  have h3 := ta_SExpr
  have h4 := ta_SIf
  have h5 := ta_SFor
  have h6 := ta_SForIn
  have h7 := ta_SForOf
  have h8 := ta_SDoWhile
  have h9 := ta_SWhile
  have h10 := ta_SWith
  have h11 := ta_STry
  have h12 := ta_SSwitch
  have h13 := ta_SReturn
  have h14 := ta_SThrow
  have h15 := ta_SBreak
  have h16 := ta_SContinue
  have h17 := ta_SDirective
  have h18 := ta_SLabel
  have h19 := ta_SLocal
  go_enter Try.func64, Try.ntmps64
  go_wp2
  go_ret
  exact ⟨rfl, (Below.refl _ _).alloc (Nat.le_refl _) _⟩
set_option maxRecDepth 100000 in
set_option maxHeartbeats 1000000 in
theorem care15 (a : Addr) (loc : Int) (w : World) : Calls Try.prog 64 #[.agg #[.iface 324 (.pointer (some a)), .int .i32 loc]] w fun e w' => e = .returned (.bool false) ∧ Below w.heap.size w w' := by
  have h0 := ta_SBlock
  have h1 := ta_SEmpty
  have h2 := ta_SDebugger
  have h3 := ta_SExpr
  have h4 := ta_SIf
  have h5 := ta_SFor
  have h6 := ta_SForIn
  have h7 := ta_SForOf
  have h8 := ta_SDoWhile
  have h9 := ta_SWhile
  have h10 := ta_SWith
  have h11 := ta_STry
  have h12 := ta_SSwitch
  have h13 := ta_SReturn
  have h14 := ta_SThrow
  have h15 := ta_SBreak
  have h16 := ta_SContinue
  have h17 := ta_SDirective
  have h18 := ta_SLabel
  have h19 := ta_SLocal
  go_enter Try.func64, Try.ntmps64
  go_wp2
  go_ret
  exact ⟨rfl, (Below.refl _ _).alloc (Nat.le_refl _) _⟩
set_option maxRecDepth 100000 in
set_option maxHeartbeats 1000000 in
theorem care16 (a : Addr) (loc : Int) (w : World) : Calls Try.prog 64 #[.agg #[.iface 328 (.pointer (some a)), .int .i32 loc]] w fun e w' => e = .returned (.bool false) ∧ Below w.heap.size w w' := by
  have h0 := ta_SBlock
  have h1 := ta_SEmpty
  have h2 := ta_SDebugger
  have h3 := ta_SExpr
  have h4 := ta_SIf
  have h5 := ta_SFor
  have h6 := ta_SForIn
  have h7 := ta_SForOf
  have h8 := ta_SDoWhile
  have h9 := ta_SWhile
  have h10 := ta_SWith
  have h11 := ta_STry
  have h12 := ta_SSwitch
  have h13 := ta_SReturn
  have h14 := ta_SThrow
  have h15 := ta_SBreak
  have h16 := ta_SContinue
  have h17 := ta_SDirective
  have h18 := ta_SLabel
  have h19 := ta_SLocal
  go_enter Try.func64, Try.ntmps64
  go_wp2
  go_ret
  exact ⟨rfl, (Below.refl _ _).alloc (Nat.le_refl _) _⟩
set_option maxRecDepth 100000 in
set_option maxHeartbeats 1000000 in
theorem care17 (a : Addr) (loc : Int) (w : World) : Calls Try.prog 64 #[.agg #[.iface 330 (.pointer (some a)), .int .i32 loc]] w fun e w' => e = .returned (.bool false) ∧ Below w.heap.size w w' := by
  have h0 := ta_SBlock
  have h1 := ta_SEmpty
  have h2 := ta_SDebugger
  have h3 := ta_SExpr
  have h4 := ta_SIf
  have h5 := ta_SFor
  have h6 := ta_SForIn
  have h7 := ta_SForOf
  have h8 := ta_SDoWhile
  have h9 := ta_SWhile
  have h10 := ta_SWith
  have h11 := ta_STry
  have h12 := ta_SSwitch
  have h13 := ta_SReturn
  have h14 := ta_SThrow
  have h15 := ta_SBreak
  have h16 := ta_SContinue
  have h17 := ta_SDirective
  have h18 := ta_SLabel
  have h19 := ta_SLocal
  go_enter Try.func64, Try.ntmps64
  go_wp2
  go_ret
  exact ⟨rfl, (Below.refl _ _).alloc (Nat.le_refl _) _⟩
set_option maxRecDepth 100000 in
set_option maxHeartbeats 1000000 in
theorem care18 (a : Addr) (loc : Int) (w : World) : Calls Try.prog 64 #[.agg #[.iface 333 (.pointer (some a)), .int .i32 loc]] w fun e w' => e = .returned (.bool false) ∧ Below w.heap.size w w' := by
  have h0 := ta_SBlock
  have h1 := ta_SEmpty
  have h2 := ta_SDebugger
  have h3 := ta_SExpr
  have h4 := ta_SIf
  have h5 := ta_SFor
  have h6 := ta_SForIn
  have h7 := ta_SForOf
  have h8 := ta_SDoWhile
  have h9 := ta_SWhile
  have h10 := ta_SWith
  have h11 := ta_STry
  have h12 := ta_SSwitch
  have h13 := ta_SReturn
  have h14 := ta_SThrow
  have h15 := ta_SBreak
  have h16 := ta_SContinue
  have h17 := ta_SDirective
  have h18 := ta_SLabel
  have h19 := ta_SLocal
  go_enter Try.func64, Try.ntmps64
  go_wp2
  go_ret
  exact ⟨rfl, (Below.refl _ _).alloc (Nat.le_refl _) _⟩
set_option maxRecDepth 100000 in
set_option maxHeartbeats 1000000 in
theorem care19 (B : Nat) (loc : Int) (w : World) (hc : w.cell? ⟨B, 1, none⟩ = some (.int .u8 0)) : Calls Try.prog 64 #[.agg #[.iface 336 (.pointer (some ⟨B, 0, none⟩)), .int .i32 loc]] w fun e w' => e = .returned (.bool false) ∧ Below w.heap.size w w' := by
  have h0 := ta_SBlock
  have h1 := ta_SEmpty
  have h2 := ta_SDebugger
  have h3 := ta_SExpr
  have h4 := ta_SIf
  have h5 := ta_SFor
  have h6 := ta_SForIn
  have h7 := ta_SForOf
  have h8 := ta_SDoWhile
  have h9 := ta_SWhile
  have h10 := ta_SWith
  have h11 := ta_STry
  have h12 := ta_SSwitch
  have h13 := ta_SReturn
  have h14 := ta_SThrow
  have h15 := ta_SBreak
  have h16 := ta_SContinue
  have h17 := ta_SDirective
  have h18 := ta_SLabel
  have h19 := ta_SLocal
  have hb : B < w.heap.size := lt_of_cell hc
  go_enter Try.func64, Try.ntmps64
  go_wp2
  go_ret
  exact ⟨rfl, (Below.refl _ _).alloc (Nat.le_refl _) _⟩
set_option maxRecDepth 100000 in
set_option maxHeartbeats 1000000 in
theorem care20 (B : Nat) (loc : Int) (w : World) (hc : w.cell? ⟨B, 1, none⟩ = some (.int .u8 1)) : Calls Try.prog 64 #[.agg #[.iface 336 (.pointer (some ⟨B, 0, none⟩)), .int .i32 loc]] w fun e w' => e = .returned (.bool true) ∧ Below w.heap.size w w' := by
  have h0 := ta_SBlock
  have h1 := ta_SEmpty
  have h2 := ta_SDebugger
  have h3 := ta_SExpr
  have h4 := ta_SIf
  have h5 := ta_SFor
  have h6 := ta_SForIn
  have h7 := ta_SForOf
  have h8 := ta_SDoWhile
  have h9 := ta_SWhile
  have h10 := ta_SWith
  have h11 := ta_STry
  have h12 := ta_SSwitch
  have h13 := ta_SReturn
  have h14 := ta_SThrow
  have h15 := ta_SBreak
  have h16 := ta_SContinue
  have h17 := ta_SDirective
  have h18 := ta_SLabel
  have h19 := ta_SLocal
  have hb : B < w.heap.size := lt_of_cell hc
  go_enter Try.func64, Try.ntmps64
  go_wp2
  go_ret
  exact ⟨rfl, (Below.refl _ _).alloc (Nat.le_refl _) _⟩
set_option maxRecDepth 100000 in
set_option maxHeartbeats 1000000 in
theorem care21 (B : Nat) (loc : Int) (w : World) (hc : w.cell? ⟨B, 1, none⟩ = some (.int .u8 2)) : Calls Try.prog 64 #[.agg #[.iface 336 (.pointer (some ⟨B, 0, none⟩)), .int .i32 loc]] w fun e w' => e = .returned (.bool true) ∧ Below w.heap.size w w' := by
  have h0 := ta_SBlock
  have h1 := ta_SEmpty
  have h2 := ta_SDebugger
  have h3 := ta_SExpr
  have h4 := ta_SIf
  have h5 := ta_SFor
  have h6 := ta_SForIn
  have h7 := ta_SForOf
  have h8 := ta_SDoWhile
  have h9 := ta_SWhile
  have h10 := ta_SWith
  have h11 := ta_STry
  have h12 := ta_SSwitch
  have h13 := ta_SReturn
  have h14 := ta_SThrow
  have h15 := ta_SBreak
  have h16 := ta_SContinue
  have h17 := ta_SDirective
  have h18 := ta_SLabel
  have h19 := ta_SLocal
  have hb : B < w.heap.size := lt_of_cell hc
  go_enter Try.func64, Try.ntmps64
  go_wp2
  go_ret
  exact ⟨rfl, (Below.refl _ _).alloc (Nat.le_refl _) _⟩
set_option maxRecDepth 100000 in
set_option maxHeartbeats 1000000 in
theorem care22 (a : Addr) (loc : Int) (w : World) : Calls Try.prog 64 #[.agg #[.iface 340 (.pointer (some a)), .int .i32 loc]] w fun e w' => e = .returned (.bool true) ∧ Below w.heap.size w w' := by
  have h0 := ta_SBlock
  have h1 := ta_SEmpty
  have h2 := ta_SDebugger
  have h3 := ta_SExpr
  have h4 := ta_SIf
  have h5 := ta_SFor
  have h6 := ta_SForIn
  have h7 := ta_SForOf
  have h8 := ta_SDoWhile
  have h9 := ta_SWhile
  have h10 := ta_SWith
  have h11 := ta_STry
  have h12 := ta_SSwitch
  have h13 := ta_SReturn
  have h14 := ta_SThrow
  have h15 := ta_SBreak
  have h16 := ta_SContinue
  have h17 := ta_SDirective
  have h18 := ta_SLabel
  have h19 := ta_SLocal
  go_enter Try.func64, Try.ntmps64
  go_wp2
  go_ret
  exact ⟨rfl, (Below.refl _ _).alloc (Nat.le_refl _) _⟩
set_option maxRecDepth 100000 in
set_option maxHeartbeats 1000000 in
theorem care23 (a : Addr) (loc : Int) (w : World) : Calls Try.prog 64 #[.agg #[.iface 348 (.pointer (some a)), .int .i32 loc]] w fun e w' => e = .returned (.bool true) ∧ Below w.heap.size w w' := by
  have h0 := ta_SBlock
  have h1 := ta_SEmpty
  have h2 := ta_SDebugger
  have h3 := ta_SExpr
  have h4 := ta_SIf
  have h5 := ta_SFor
  have h6 := ta_SForIn
  have h7 := ta_SForOf
  have h8 := ta_SDoWhile
  have h9 := ta_SWhile
  have h10 := ta_SWith
  have h11 := ta_STry
  have h12 := ta_SSwitch
  have h13 := ta_SReturn
  have h14 := ta_SThrow
  have h15 := ta_SBreak
  have h16 := ta_SContinue
  have h17 := ta_SDirective
  have h18 := ta_SLabel
  have h19 := ta_SLocal
  go_enter Try.func64, Try.ntmps64
  go_wp2
  go_ret
  exact ⟨rfl, (Below.refl _ _).alloc (Nat.le_refl _) _⟩
set_option maxRecDepth 100000 in
set_option maxHeartbeats 1000000 in
theorem care24 (a : Addr) (loc : Int) (w : World) : Calls Try.prog 64 #[.agg #[.iface 352 (.pointer (some a)), .int .i32 loc]] w fun e w' => e = .returned (.bool true) ∧ Below w.heap.size w w' := by
  have h0 := ta_SBlock
  have h1 := ta_SEmpty
  have h2 := ta_SDebugger
  have h3 := ta_SExpr
  have h4 := ta_SIf
  have h5 := ta_SFor
  have h6 := ta_SForIn
  have h7 := ta_SForOf
  have h8 := ta_SDoWhile
  have h9 := ta_SWhile
  have h10 := ta_SWith
  have h11 := ta_STry
  have h12 := ta_SSwitch
  have h13 := ta_SReturn
  have h14 := ta_SThrow
  have h15 := ta_SBreak
  have h16 := ta_SContinue
  have h17 := ta_SDirective
  have h18 := ta_SLabel
  have h19 := ta_SLocal
  go_enter Try.func64, Try.ntmps64
  go_wp2
  go_ret
  exact ⟨rfl, (Below.refl _ _).alloc (Nat.le_refl _) _⟩
set_option maxRecDepth 100000 in
set_option maxHeartbeats 1000000 in
theorem care25 (loc : Int) (w : World) : Calls Try.prog 64 #[.agg #[.nilIface, .int .i32 loc]] w fun e w' => e = .returned (.bool true) ∧ Below w.heap.size w w' := by
  have h0 := tn_SBlock
  have h1 := tn_SEmpty
  have h2 := tn_SDebugger
  have h3 := tn_SExpr
  have h4 := tn_SIf
  have h5 := tn_SFor
  have h6 := tn_SForIn
  have h7 := tn_SForOf
  have h8 := tn_SDoWhile
  have h9 := tn_SWhile
  have h10 := tn_SWith
  have h11 := tn_STry
  have h12 := tn_SSwitch
  have h13 := tn_SReturn
  have h14 := tn_SThrow
  have h15 := tn_SBreak
  have h16 := tn_SContinue
  have h17 := tn_SDirective
  have h18 := tn_SLabel
  have h19 := tn_SLocal
  go_enter Try.func64, Try.ntmps64
  go_wp2
  go_ret
  exact ⟨rfl, (Below.refl _ _).alloc (Nat.le_refl _) _⟩
theorem care (b : Nat) (c loc : Int) (v : Value) (w : World) (h : StmtIs w b c v) : Calls Try.prog 64 #[.agg #[v, .int .i32 loc]] w fun e w' => e = .returned (.bool (decide (20 ≤ c))) ∧ Below w.heap.size w w' := by
  rcases h with ⟨rfl, rfl⟩ | ⟨h0, h1, h2, B, rfl⟩ | ⟨h0, h1, B, _, rfl, hc⟩
  · exact care25 loc w
  · have h : c = 0 ∨ c = 1 ∨ c = 2 ∨ c = 3 ∨ c = 4 ∨ c = 5 ∨ c = 6 ∨ c = 7 ∨ c = 8 ∨ c = 9 ∨ c = 10 ∨ c = 11 ∨ c = 12 ∨ c = 13 ∨ c = 14 ∨ c = 15 ∨ c = 16 ∨ c = 17 ∨ c = 18 ∨ c = 22 ∨ c = 23 ∨ c = 24 := by omega
    rcases h with rfl | rfl | rfl | rfl | rfl | rfl | rfl | rfl | rfl | rfl | rfl | rfl | rfl | rfl | rfl | rfl | rfl | rfl | rfl | rfl | rfl | rfl
    · exact care0 _ loc w
    · exact care1 _ loc w
    · exact care2 _ loc w
    · exact care3 _ loc w
    · exact care4 _ loc w
    · exact care5 _ loc w
    · exact care6 _ loc w
    · exact care7 _ loc w
    · exact care8 _ loc w
    · exact care9 _ loc w
    · exact care10 _ loc w
    · exact care11 _ loc w
    · exact care12 _ loc w
    · exact care13 _ loc w
    · exact care14 _ loc w
    · exact care15 _ loc w
    · exact care16 _ loc w
    · exact care17 _ loc w
    · exact care18 _ loc w
    · exact care22 _ loc w
    · exact care23 _ loc w
    · exact care24 _ loc w
  · have h : c = 19 ∨ c = 20 ∨ c = 21 := by omega
    rcases h with rfl | rfl | rfl
    · exact care19 B loc w hc
    · exact care20 B loc w hc
    · exact care21 B loc w hc
end Go.Proofs.Ytfjdpnjdikgofaa.Scope
