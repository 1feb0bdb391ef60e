/-
  Contracts of the functions that FnExtractPrivateIndexRoundTrip calls: the nodes that are built, the parser that is built, what extractPrivateIndex answers. No condition beyond the ones stated.
-/
import Derived.Test.YtihpdmoonddjmaaRowsI
import Derived.Lib.Hide
import Derived.Laws.Cover3
import Derived.WalkLawsBesides
import Derived.WalkSpells
import Derived.Laws.BitsAllLaws
import Derived.Great.BuildSlice
import Derived.Laws.MakeOwn
import Derived.MapKept
import Derived.BigQuiet
import Derived.Deep.QuietTactic
import Derived.Deep.RegionHeld3
import Derived.Deep.DrawnRows
import Derived.RegionTactic
import Derived.StillTailTactics
import Derived.Outline
namespace Go.Proofs.Ytihpdmoonddjmaa.Priv
open Go.RowKit Go.Proofs.Ytihpdmoonddjmaa.Ints

def Refd (i : Int) (w : World) (e : Ending) (w' : World) : Prop := e = .returned (.agg #[.int .u32 0, .int .u32 i]) ∧ Below w.heap.size w w'
theorem ref (i : Int) (w : World) : Calls Try.prog 13 #[.int .u32 i] w (Refd i w) := by
  go_enter Try.func13, Try.ntmps13
  go_wp2
  exact bodyPost_ret (v := .agg #[.int .u32 0, .int .u32 i]) (by simp [results, Try.results13, go_sem]) rfl ⟨rfl, ((Below.refl _ _).alloc (Nat.le_refl _) _)⟩

def Node (T : TypeId) (loc s i : Int) (w : World) (e : Ending) (w' : World) : Prop :=
  ∃ B, w.heap.size ≤ B ∧ e = .returned (.agg #[.iface T (.pointer (some ⟨B, 0, none⟩)), .int .i32 loc]) ∧ w'.cell? ⟨B, 0, none⟩ = some (.int .u32 s) ∧ w'.cell? ⟨B, 1, none⟩ = some (.int .u32 i) ∧ Below w.heap.size w w'
theorem identExpr (loc s i : Int) (w : World) : Calls Try.prog 15 #[.int .i32 loc, .agg #[.int .u32 s, .int .u32 i]] w (Node 64 loc s i w) := by
  go_enter Try.func15, Try.ntmps15
  go_wp2
  refine bodyPost_ret (v := .agg #[.iface 64 (.pointer (some ⟨w.heap.size + 2, 0, none⟩)), .int .i32 loc]) (by simp [results, Try.results15, go_sem]) rfl ⟨w.heap.size + 2, by omega, rfl, by go_simp, by go_simp, ?_⟩
  exact (((Below.refl _ _).alloc (Nat.le_refl _) _).alloc (by simp) _).alloc (by simp; omega) _

def PrivNode (loc s i : Int) (w : World) (e : Ending) (w' : World) : Prop :=
  ∃ B, w.heap.size ≤ B ∧ e = .returned (.tuple #[.agg #[.iface 40 (.pointer (some ⟨B, 0, none⟩)), .int .i32 loc], .pointer (some ⟨B, 0, none⟩)]) ∧ w'.cell? ⟨B, 0, none⟩ = some (.int .u32 s) ∧ w'.cell? ⟨B, 1, none⟩ = some (.int .u32 i) ∧ Below w.heap.size w w'
theorem privateExpr (loc s i : Int) (w : World) : Calls Try.prog 12 #[.int .i32 loc, .agg #[.int .u32 s, .int .u32 i]] w (PrivNode loc s i w) := by
  go_enter Try.func12, Try.ntmps12
  go_wp2
  refine bodyPost_ret (v := .tuple #[.agg #[.iface 40 (.pointer (some ⟨w.heap.size + 2, 0, none⟩)), .int .i32 loc], .pointer (some ⟨w.heap.size + 2, 0, none⟩)]) (by simp [results, Try.results12, go_sem]) rfl ⟨w.heap.size + 2, by omega, rfl, by go_simp, by go_simp, ?_⟩
  exact (((Below.refl _ _).alloc (Nat.le_refl _) _).alloc (by simp) _).alloc (by simp; omega) _
def Pof (loc : Int) (a : Option Addr) (w : World) (e : Ending) (w' : World) : Prop := e = .returned (.agg #[.iface 40 (.pointer a), .int .i32 loc]) ∧ Below w.heap.size w w'
theorem privateOf (loc : Int) (a : Option Addr) (w : World) : Calls Try.prog 18 #[.int .i32 loc, .pointer a] w (Pof loc a w) := by
  go_enter Try.func18, Try.ntmps18
  go_wp2
  exact bodyPost_ret (v := .agg #[.iface 40 (.pointer a), .int .i32 loc]) (by simp [results, Try.results18, go_sem]) rfl ⟨rfl, (Below.refl _ _).alloc (Nat.le_refl _) _⟩

def Index (loc : Int) (x1 x2 y1 y2 : Value) (w : World) (e : Ending) (w' : World) : Prop :=
  ∃ B, w.heap.size ≤ B ∧ e = .returned (.agg #[.iface 157 (.pointer (some ⟨B, 0, none⟩)), .int .i32 loc]) ∧ w'.cell? ⟨B, 0, none⟩ = some x1 ∧ w'.cell? ⟨B, 1, none⟩ = some x2 ∧ w'.cell? ⟨B, 2, none⟩ = some y1 ∧ w'.cell? ⟨B, 3, none⟩ = some y2 ∧ Below w.heap.size w w'
theorem indexExpr (loc a b : Int) (T U : TypeId) (p q : Option Addr) (w : World) : Calls Try.prog 14 #[.int .i32 loc, .agg #[.iface T (.pointer p), .int .i32 a], .agg #[.iface U (.pointer q), .int .i32 b]] w (Index loc (.iface T (.pointer p)) (.int .i32 a) (.iface U (.pointer q)) (.int .i32 b) w) := by
  go_enter Try.func14, Try.ntmps14
  go_wp2
  refine bodyPost_ret (v := .agg #[.iface 157 (.pointer (some ⟨w.heap.size + 3, 0, none⟩)), .int .i32 loc]) (by simp [results, Try.results14, go_sem]) rfl ⟨w.heap.size + 3, by omega, rfl, by go_simp, by go_simp, by go_simp, by go_simp, ?_⟩
  exact ((((Below.refl _ _).alloc (Nat.le_refl _) _).alloc (by simp) _).alloc (by simp; omega) _).alloc (by simp; omega) _

theorem ta_ident (a : Addr) (w : World) : (Instr.typeAssert (.iface 64 (.pointer (some a))) 37 64 true).run Try.prog w = .ok (.tuple #[.pointer (some a), .bool true]) w := by kernel_rfl
theorem ta_index (a : Addr) (w : World) : (Instr.typeAssert (.iface 157 (.pointer (some a))) 37 157 true).run Try.prog w = .ok (.tuple #[.pointer (some a), .bool true]) w := by kernel_rfl
theorem ta_priv (a : Addr) (w : World) : (Instr.typeAssert (.iface 40 (.pointer (some a))) 37 40 true).run Try.prog w = .ok (.tuple #[.pointer (some a), .bool true]) w := by kernel_rfl

def Read (s i : Int) (w : World) (e : Ending) (w' : World) : Prop := e = .returned (.tuple #[.agg #[.int .u32 s, .int .u32 i], .bool true]) ∧ Below w.heap.size w w'
theorem readIdent (B : Nat) (loc s i : Int) (w : World) (c0 : w.cell? ⟨B, 0, none⟩ = some (.int .u32 s)) (c1 : w.cell? ⟨B, 1, none⟩ = some (.int .u32 i)) :
    Calls Try.prog 41 #[.agg #[.iface 64 (.pointer (some ⟨B, 0, none⟩)), .int .i32 loc]] w (Read s i w) := by
  have hb := lt_of_cell c0
  have ta := ta_ident ⟨B, 0, none⟩
  go_enter Try.func41, Try.ntmps41
  go_wp2
  exact bodyPost_ret (v := .tuple #[.agg #[.int .u32 s, .int .u32 i], .bool true]) (by simp [results, Try.results41, go_sem]) rfl ⟨rfl, ((Below.refl _ _).alloc (Nat.le_refl _) _).alloc (by simp) _⟩

theorem eq_ref (w : World) : (binOp .eql 45 (.agg #[.int .u32 0, .int .u32 3]) (.agg #[.int .u32 0, .int .u32 3])).run Try.prog w = .ok (.bool true) w := by kernel_rfl
theorem keep3 {w W w1 : World} {a b c : Addr} {x y z : Value} (h : W.cell? a = some x ∧ W.cell? b = some y ∧ W.cell? c = some z ∧ Below w.heap.size w W) (hb : Below W.heap.size W w1) :
    w1.cell? a = some x ∧ w1.cell? b = some y ∧ w1.cell? c = some z ∧ Below w.heap.size w w1 := by
  obtain ⟨h1, h2, h3, h4⟩ := h
  exact ⟨(hb.cell (lt_of_cell h1)).trans h1, (hb.cell (lt_of_cell h2)).trans h2, (hb.cell (lt_of_cell h3)).trans h3, h4.trans (hb.mono h4.size)⟩
def Tru (w : World) (e : Ending) (w' : World) : Prop := e = .returned (.bool true) ∧ Below w.heap.size w w'
set_option maxHeartbeats 1000000 in
theorem identAt (B : Nat) (loc : Int) (w : World) (c0 : w.cell? ⟨B, 0, none⟩ = some (.int .u32 0)) (c1 : w.cell? ⟨B, 1, none⟩ = some (.int .u32 3)) :
    Calls Try.prog 17 #[.agg #[.iface 64 (.pointer (some ⟨B, 0, none⟩)), .int .i32 loc], .int .i32 loc, .int .u32 3] w (Tru w) := by
  have hb := lt_of_cell c0
  go_enter Try.func17, Try.ntmps17
  go_wp2_with fail
  go_at_call 41
  refine (readIdent B loc 0 3 _ (by go_simp) (by go_simp)).mono ?_
  rintro e w1 ⟨rfl, B1⟩
  have k1 : w1.cell? ⟨w.heap.size, 1, none⟩ = some (.int .i32 loc) := (B1.cell (by simp)).trans (by go_simp)
  have hs := B1.size
  have B2 := ((Below.refl w.heap.size w).alloc (Nat.le_refl _) (.cells #[.iface 64 (.pointer (some ⟨B, 0, none⟩)), .int .i32 loc] 39)).trans (B1.mono (by simp))
  clear B1 c0 c1
  simp at hs
  go_wp2_with fail
  generalize hW : w1.alloc (.cells #[.int .u32 0, .int .u32 3] 45) = W
  have g1 : W.cell? ⟨w.heap.size, 1, none⟩ = some (.int .i32 loc) := by subst hW; exact (World.cell?_alloc_lt w1 _ _ (by show w.heap.size < w1.heap.size; omega)).trans k1
  have g2 : W.cell? ⟨w1.heap.size, 0, none⟩ = some (.int .u32 0) := by subst hW; go_simp
  have g3 : W.cell? ⟨w1.heap.size, 1, none⟩ = some (.int .u32 3) := by subst hW; go_simp
  have B3 : Below w.heap.size w W := by subst hW; exact B2.alloc B2.size _
  have hS := And.intro g1 (And.intro g2 (And.intro g3 B3))
  clear hW B3 B2 k1
  have he := eq_ref
  go_region_held3 (fun w' => w'.cell? ⟨w.heap.size, 1, none⟩ = some (.int .i32 loc) ∧ w'.cell? ⟨w1.heap.size, 0, none⟩ = some (.int .u32 0) ∧ w'.cell? ⟨w1.heap.size, 1, none⟩ = some (.int .u32 3) ∧ Below w.heap.size w w')
    (first | exact hS | exact keep3 (by assumption) (by first | assumption | exact (Below.refl _ _).drew | exact below_drewN (Below.refl _ _) _))
    (first | (go_at_call 13; refine (ref _ _).mono ?_; rintro e w4 ⟨rfl, hb4⟩))
  have hE := (keep3 (keep3 hS (Below.refl _ _).drew) hb4).2.2.2
  clear hS hb4
  rename_i hH
  clear hH
  go_wp2_with fail
  go_ret
  exact ⟨rfl, hE⟩
end Go.Proofs.Ytihpdmoonddjmaa.Priv
