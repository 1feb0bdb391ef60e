/-
  The cells of a config and of the options made of it; OptionsFromConfig. No condition.
-/
import Derived.Test.YtimmcjjkfhambaaCfg
import Derived.Test.YtimmcjjkfhambaaBuild2
import Derived.Test.YtimmcjjkfhambaaLex
import Derived.Great.BuildSlice
import Derived.Laws.Tables
import Derived.Laws.Rows
import Derived.Deep.CutRange
import Derived.Deep.DeepCutAuto
namespace Go.Proofs.Ytimmcjjkfhambaa.Cfg
open Go.RowKit Go.ChangeShapes Go.WideShapes Go.ChangeAt Go.Proofs.Ytimmcjjkfhambaa.Ints

def cfgV (x : Nat → Bool) (env : ByteArray) (fe ov ms : Int) (m r : Option Addr) (o : Option Addr) (n : Nat) : Array Value := #[.pointer none, .int .i32 0, .int .i32 0, .int .u8 0, .pointer none, .pointer none, .pointer m, .pointer r, .pointer none, .nilFunc, .string env, .slice o n n, .slice none 0 0, .slice none 0 0, .slice none 0 0, .slice none 0 0, .map none, .slice none 0 0, .map none, .slice none 0 0, .bool false, .map none, .string ⟨#[]⟩, .string ⟨#[]⟩, .string ⟨#[]⟩, .string ⟨#[]⟩, .string ⟨#[]⟩, .slice none 0 0, .string ⟨#[]⟩, .string ⟨#[]⟩, .map none, .string ⟨#[]⟩, .slice none 0 0, .slice none 0 0, .slice none 0 0, .string ⟨#[]⟩, .string ⟨#[]⟩, .string ⟨#[]⟩, .string ⟨#[]⟩, .slice none 0 0, .slice none 0 0, .slice none 0 0, .slice none 0 0, .string ⟨#[]⟩, .pointer none, .nilIface, .slice none 0 0, .int .u32 0, .nilIface, .slice none 0 0, .int .u32 0, .bool false, .bool false, .bool false, .string ⟨#[]⟩, .bool false, .bool false, .int .i64 0, .map none, .int .u64 fe, .int .u16 0, .int .u64 ov, .int .u64 ms, .int .u16 0, .int .u16 0, .int .u8 0, .int .u8 0, .int .u8 0, .int .u8 0, .int .u8 0, .int .u8 0, .bool false, .bool false, .int .u8 0, .bool false, .bool (x 4), .bool (x 3), .bool (x 2), .bool false, .bool false, .bool false, .bool false, .int .u8 0, .int .u8 0, .int .u8 0, .int .u8 0, .int .u8 0, .bool false, .int .u8 0, .bool (x 5), .bool (x 6), .bool (x 0), .bool (x 1), .bool (x 7), .bool (x 8), .bool (x 9), .bool (x 10), .int .u8 0, .int .u8 0, .bool false, .int .u8 0, .bool false]
def embV (x : Nat → Bool) (env : ByteArray) (fe ov ms : Int) : Array Value := #[.string env, .pointer none, .int .i32 0, .int .i32 0, .int .u8 0, .int .u64 fe, .int .u64 ov, .int .u64 ms, .int .u8 0, .int .u8 0, .int .u8 0, .int .u8 0, .int .u8 0, .int .u8 0, .bool false, .bool false, .int .u8 0, .int .u8 0, .int .u8 0, .int .u8 0, .int .u8 0, .bool (x 0), .bool (x 1), .bool (x 2), .bool (x 3), .bool (x 4), .bool (x 5), .bool (x 6), .bool (x 7), .bool (x 8), .bool (x 9), .bool (x 10), .bool false]
def optV (x : Nat → Bool) (env : ByteArray) (fe ov ms : Int) (m r : Option Addr) (o : Option Addr) (n : Nat) : Array Value := #[.slice none 0 0, .nilIface, .slice none 0 0, .int .u32 0, .nilIface, .slice none 0 0, .int .u32 0, .bool false, .bool false, .bool false, .string ⟨#[]⟩, .bool false, .bool false, .pointer none, .pointer m, .pointer r, .slice o n n, .pointer none, .string env, .pointer none, .int .i32 0, .int .i32 0, .int .u8 0, .int .u64 fe, .int .u64 ov, .int .u64 ms, .int .u8 0, .int .u8 0, .int .u8 0, .int .u8 0, .int .u8 0, .int .u8 0, .bool false, .bool false, .int .u8 0, .int .u8 0, .int .u8 0, .int .u8 0, .int .u8 0, .bool (x 0), .bool (x 1), .bool (x 2), .bool (x 3), .bool (x 4), .bool (x 5), .bool (x 6), .bool (x 7), .bool (x 8), .bool (x 9), .bool (x 10), .bool false]
def optZ : Array Value := #[.slice none 0 0, .nilIface, .slice none 0 0, .int .u32 0, .nilIface, .slice none 0 0, .int .u32 0, .bool false, .bool false, .bool false, .string ⟨#[]⟩, .bool false, .bool false, .pointer none, .pointer none, .pointer none, .slice none 0 0, .pointer none, .string ⟨#[]⟩, .pointer none, .int .i32 0, .int .i32 0, .int .u8 0, .int .u64 0, .int .u64 0, .int .u64 0, .int .u8 0, .int .u8 0, .int .u8 0, .int .u8 0, .int .u8 0, .int .u8 0, .bool false, .bool false, .int .u8 0, .int .u8 0, .int .u8 0, .int .u8 0, .int .u8 0, .bool false, .bool false, .bool false, .bool false, .bool false, .bool false, .bool false, .bool false, .bool false, .bool false, .bool false, .bool false]
theorem cell_at {w : World} {C k : Nat} {cs : Array Value} {t : TypeId} {v : Value} (h : w.heap[C]? = some (.cells cs t (0, 0))) (hk : cs[k]? = some v) : w.cell? ⟨C, k, none⟩ = some v := (cell_of_row w C k cs t (0, 0) h).trans hk
theorem lt_row {w : World} {C : Nat} {ob : Obj} (h : w.heap[C]? = some ob) : C < w.heap.size := (Array.getElem?_eq_some_iff.1 h).1
theorem built65 (x : Nat → Bool) (env : ByteArray) (fe ov ms : Int) (m r : Option Addr) (o : Option Addr) (n : Nat) : Try.prog.built 65 [(2, .int .u64 fe), (3, .int .u64 ov), (4, .int .u64 ms), (0, .string env), (5, .agg #[.int .u8 0, .int .u8 0, .int .u8 0, .int .u8 0, .int .u8 0, .int .u8 0, .bool false, .bool false]), (6, .int .u8 0), (7, .int .u8 0), (8, .int .u8 0), (1, .agg #[.pointer none, .int .i32 0, .int .i32 0, .int .u8 0]), (11, .bool (x 0)), (12, .bool (x 1)), (13, .bool (x 2)), (14, .bool (x 3)), (15, .bool (x 4)), (16, .bool (x 5)), (17, .bool (x 6)), (18, .bool (x 7)), (19, .bool (x 8)), (20, .bool (x 9)), (21, .bool (x 10)), (9, .int .u8 0), (10, .int .u8 0)] = some (embV x env fe ov ms) := by kernel_rfl
theorem built67 (x : Nat → Bool) (env : ByteArray) (fe ov ms : Int) (m r : Option Addr) (o : Option Addr) (n : Nat) : Try.prog.built 67 [(0, .slice none 0 0), (1, .agg #[.nilIface, .slice none 0 0, .int .u32 0, .nilIface, .slice none 0 0, .int .u32 0, .bool false, .bool false, .bool false, .string ⟨#[]⟩, .bool false, .bool false]), (6, .pointer none), (2, .pointer none), (3, .pointer m), (4, .pointer r), (5, .slice o n n), (7, .agg (embV x env fe ov ms))] = some (optV x env fe ov ms m r o n) := by kernel_rfl
theorem infoO : (Try.prog.info? 67).map (·.size) = some 51 := by kernel_rfl
theorem infoE : (Try.prog.info? 65).map (·.size) = some 33 := by kernel_rfl
theorem infoC : (Try.prog.info? 92).map (·.size) = some 102 := by kernel_rfl
theorem oneO (x : Nat → Bool) (env : ByteArray) (fe ov ms : Int) (m r : Option Addr) (o : Option Addr) (n : Nat) : (optV x env fe ov ms m r o n).all (·.oneCell') = true := by kernel_rfl
theorem oneC (x : Nat → Bool) (env : ByteArray) (fe ov ms : Int) (m r : Option Addr) (o : Option Addr) (n : Nat) : (cfgV x env fe ov ms m r o n).all (·.oneCell') = true := by kernel_rfl
theorem still_build {P : Program} {ops : Array Oper} {w : World} {Q : Act → Prop} {a : Act} {o : Oper} {rest : List Oper} (hg : o.guard = none) (t : TypeId) (parts : Array (Nat × Operand)) (ho : o.op = .build t parts)
    (l : List (Nat × Value)) (hl : (parts.map fun (i, x) => (i, a.eval x)).toList = l) (cells : Array Value) (hf : P.built t l = some cells) (h : wpStill P ops w Q rest (a.put o.dst (.agg cells))) : wpStill P ops w Q (o :: rest) a := by
  subst hl
  unfold wpStill
  rw [if_pos (by simp [Region.wanted, hg])]
  unfold Oper.still execOp
  simp only [ho, Sem.run_bind, run_build w t _ cells hf, Result.andThen_ok]
  exact ⟨rfl, h⟩
theorem setRow_at {w : World} {N : Nat} {cs : Array Value} {t : TypeId} {fr : Nat × Nat} (h : w.heap[N]? = some (.cells cs t fr)) (ds : Array Value) : (w.setRow N ds).heap[N]? = some (.cells ds t fr) := by
  simp only [World.setRow, Array.getElem?_modify, if_true, h, Option.map_some]
theorem below_setRow {B N : Nat} {w v : World} (h : Below B w v) (hN : B ≤ N) (ds : Array Value) : Below B w (v.setRow N ds) := by
  refine ⟨h.os, h.tape, h.output, by simpa [World.setRow] using h.size, fun k hk => ?_⟩
  rw [← h.block k hk]
  simp only [World.setRow, Array.getElem?_modify]
  rw [if_neg (by omega)]
def Opts (w : World) (e : Ending) (w' : World) (x : Nat → Bool) (env : ByteArray) (fe ov ms : Int) (m r : Option Addr) (o : Option Addr) (n : Nat) : Prop := e = .returned (.agg (optV x env fe ov ms m r o n)) ∧ Below w.heap.size w w'
set_option maxRecDepth 100000 in
set_option maxHeartbeats 4000000 in
theorem opts (C : Nat) (x : Nat → Bool) (env : ByteArray) (fe ov ms : Int) (m r : Option Addr) (o : Option Addr) (n : Nat) (w : World) (h : w.heap[C]? = some (.cells (cfgV x env fe ov ms m r o n) 92 (0, 0))) :
    Calls Try.prog 12 #[.pointer (some ⟨C, 0, none⟩)] w fun e w' => Opts w e w' x env fe ov ms m r o n := by
  have hl := lt_row h
  have hb65 := built65 x env fe ov ms m r o n
  have hb67 := built67 x env fe ov ms m r o n
  replace hb65 := Lib.hid hb65
  replace hb67 := Lib.hid hb67
  replace h := Lib.hid h
  go_enter Try.func12, Try.ntmps12
  go_upto_region 1 with fail
  have hn : (w.alloc (.cells optZ 67 (0, 0))).heap[w.heap.size]? = some (.cells optZ 67 (0, 0)) := heap_alloc_new _ _
  have hb : Below w.heap.size w (w.alloc (.cells optZ 67 (0, 0))) := (Below.refl _ _).alloc (Nat.le_refl _) _
  have ho : (w.alloc (.cells optZ 67 (0, 0))).heap[C]? = some (.cells (cfgV x env fe ov ms m r o n) 92 (0, 0)) := (hb.block _ hl).trans h.out
  unfold optZ at hn hb ho
  generalize (w.alloc _) = w1 at hn hb ho ⊢
  generalize hN : w.heap.size = N at *
  replace hN := Lib.hid hN
  replace hn := Lib.hid hn
  replace hb := Lib.hid hb
  clear hl h
  have g0 : w1.cell? ⟨C, 0, none⟩ = some (.pointer none) := cell_at ho rfl
  have g1 : w1.cell? ⟨C, 1, none⟩ = some (.int .i32 0) := cell_at ho rfl
  have g2 : w1.cell? ⟨C, 2, none⟩ = some (.int .i32 0) := cell_at ho rfl
  have g3 : w1.cell? ⟨C, 3, none⟩ = some (.int .u8 0) := cell_at ho rfl
  have g4 : w1.cell? ⟨C, 4, none⟩ = some (.pointer none) := cell_at ho rfl
  have g5 : w1.cell? ⟨C, 5, none⟩ = some (.pointer none) := cell_at ho rfl
  have g6 : w1.cell? ⟨C, 6, none⟩ = some (.pointer m) := cell_at ho rfl
  have g7 : w1.cell? ⟨C, 7, none⟩ = some (.pointer r) := cell_at ho rfl
  have g10 : w1.cell? ⟨C, 10, none⟩ = some (.string env) := cell_at ho rfl
  have g11 : w1.cell? ⟨C, 11, none⟩ = some (.slice o n n) := cell_at ho rfl
  have g34 : w1.cell? ⟨C, 34, none⟩ = some (.slice none 0 0) := cell_at ho rfl
  have g45 : w1.cell? ⟨C, 45, none⟩ = some (.nilIface) := cell_at ho rfl
  have g46 : w1.cell? ⟨C, 46, none⟩ = some (.slice none 0 0) := cell_at ho rfl
  have g47 : w1.cell? ⟨C, 47, none⟩ = some (.int .u32 0) := cell_at ho rfl
  have g48 : w1.cell? ⟨C, 48, none⟩ = some (.nilIface) := cell_at ho rfl
  have g49 : w1.cell? ⟨C, 49, none⟩ = some (.slice none 0 0) := cell_at ho rfl
  have g50 : w1.cell? ⟨C, 50, none⟩ = some (.int .u32 0) := cell_at ho rfl
  have g51 : w1.cell? ⟨C, 51, none⟩ = some (.bool false) := cell_at ho rfl
  have g52 : w1.cell? ⟨C, 52, none⟩ = some (.bool false) := cell_at ho rfl
  have g53 : w1.cell? ⟨C, 53, none⟩ = some (.bool false) := cell_at ho rfl
  have g54 : w1.cell? ⟨C, 54, none⟩ = some (.string ⟨#[]⟩) := cell_at ho rfl
  have g55 : w1.cell? ⟨C, 55, none⟩ = some (.bool false) := cell_at ho rfl
  have g56 : w1.cell? ⟨C, 56, none⟩ = some (.bool false) := cell_at ho rfl
  have g59 : w1.cell? ⟨C, 59, none⟩ = some (.int .u64 fe) := cell_at ho rfl
  have g61 : w1.cell? ⟨C, 61, none⟩ = some (.int .u64 ov) := cell_at ho rfl
  have g62 : w1.cell? ⟨C, 62, none⟩ = some (.int .u64 ms) := cell_at ho rfl
  have g65 : w1.cell? ⟨C, 65, none⟩ = some (.int .u8 0) := cell_at ho rfl
  have g66 : w1.cell? ⟨C, 66, none⟩ = some (.int .u8 0) := cell_at ho rfl
  have g67 : w1.cell? ⟨C, 67, none⟩ = some (.int .u8 0) := cell_at ho rfl
  have g68 : w1.cell? ⟨C, 68, none⟩ = some (.int .u8 0) := cell_at ho rfl
  have g69 : w1.cell? ⟨C, 69, none⟩ = some (.int .u8 0) := cell_at ho rfl
  have g70 : w1.cell? ⟨C, 70, none⟩ = some (.int .u8 0) := cell_at ho rfl
  have g71 : w1.cell? ⟨C, 71, none⟩ = some (.bool false) := cell_at ho rfl
  have g72 : w1.cell? ⟨C, 72, none⟩ = some (.bool false) := cell_at ho rfl
  have g73 : w1.cell? ⟨C, 73, none⟩ = some (.int .u8 0) := cell_at ho rfl
  have g75 : w1.cell? ⟨C, 75, none⟩ = some (.bool (x 4)) := cell_at ho rfl
  have g76 : w1.cell? ⟨C, 76, none⟩ = some (.bool (x 3)) := cell_at ho rfl
  have g77 : w1.cell? ⟨C, 77, none⟩ = some (.bool (x 2)) := cell_at ho rfl
  have g83 : w1.cell? ⟨C, 83, none⟩ = some (.int .u8 0) := cell_at ho rfl
  have g84 : w1.cell? ⟨C, 84, none⟩ = some (.int .u8 0) := cell_at ho rfl
  have g89 : w1.cell? ⟨C, 89, none⟩ = some (.bool (x 5)) := cell_at ho rfl
  have g90 : w1.cell? ⟨C, 90, none⟩ = some (.bool (x 6)) := cell_at ho rfl
  have g91 : w1.cell? ⟨C, 91, none⟩ = some (.bool (x 0)) := cell_at ho rfl
  have g92 : w1.cell? ⟨C, 92, none⟩ = some (.bool (x 1)) := cell_at ho rfl
  have g93 : w1.cell? ⟨C, 93, none⟩ = some (.bool (x 7)) := cell_at ho rfl
  have g94 : w1.cell? ⟨C, 94, none⟩ = some (.bool (x 8)) := cell_at ho rfl
  have g95 : w1.cell? ⟨C, 95, none⟩ = some (.bool (x 9)) := cell_at ho rfl
  have g96 : w1.cell? ⟨C, 96, none⟩ = some (.bool (x 10)) := cell_at ho rfl
  have g97 : w1.cell? ⟨C, 97, none⟩ = some (.int .u8 0) := cell_at ho rfl
  have g98 : w1.cell? ⟨C, 98, none⟩ = some (.int .u8 0) := cell_at ho rfl
  replace ho := Lib.hid ho
  simp only [List.append_eq, List.cons_append, List.nil_append]
  refine wp_region_still_tail 118 (by kernel_rfl) (Lex.lex_of_fast _ _ (by kernel_rfl)) ?_
  simp only [List.take_succ_cons, List.take_zero, List.drop_succ_cons, List.drop_zero]
  repeat still_step
  refine still_build rfl 65 _ rfl _ (by kernel_rfl) _ hb65.out ?_
  refine still_build rfl 67 _ rfl _ (by kernel_rfl) _ hb67.out ?_
  refine wpStill_nil ?_
  change wpList _ _ _ _ _ w1.drew
  have hn2 := Lib.hid (show w1.drew.heap[N]? = some (.cells optZ 67 (0, 0)) from hn.out)
  have hb2 := Lib.hid hb.out.drew
  clear hn hb
  generalize w1.drew = w2 at *
  refine wpList_store_row rfl 67 (.tmp 2) (.tmp 120) rfl N (optV x env fe ov ms m r o n) rfl (by kernel_rfl) 67 _ hn2.out (by kernel_rfl) (by kernel_rfl) (by kernel_rfl) ?_
  have hn3 : (w2.setRow N (optV x env fe ov ms m r o n)).heap[N]? = some (.cells (optV x env fe ov ms m r o n) 67 (0, 0)) := setRow_at hn2.out _
  have hb3 : Below N w (w2.setRow N (optV x env fe ov ms m r o n)) := below_setRow hb2.out (Nat.le_refl _) _
  generalize w2.setRow N (optV x env fe ov ms m r o n) = w3 at *
  go_wp2_with fail
  refine bodyPost_ret (v := .agg (optV x env fe ov ms m r o n)) (results_cell_row rfl _ _ N 67 (optV x env fe ov ms m r o n) (0, 0) _ (by kernel_rfl) hn3 (by rw [Try.underlying67]) rfl (by kernel_rfl)) rfl ⟨rfl, ?_⟩
  rw [hN.out]
  exact hb3
end Go.Proofs.Ytimmcjjkfhambaa.Cfg
