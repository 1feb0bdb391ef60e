/-
  The chain of conditional expressions: zzLocAt_b3, zzShift_b3. Condition: at most 4096 nodes.
-/
import Derived.Test.YtgiehlcmmikgmaaRowsI
import Derived.Test.YtgiehlcmmikgmaaBuild2
import Derived.Lib.Hide
import Derived.Laws.Cover3
import Derived.WalkLawsBesides
import Derived.WalkSpells
import Derived.Laws.MakeOwn
import Derived.RegionTactic
import Derived.ChangeAlike
import Derived.Deep.QuietTactic
import Derived.BigQuiet
import Derived.BigRegion
import Derived.Deep.RegionHeld3
import Derived.StillTailTactics
import Derived.IntWalk
namespace Go.Proofs.Ytgiehlcmmikgmaa.Tr
open Go.RowKit Go.ChangeShapes Go.WideShapes Go.ChangeAt Go.Proofs.Ytgiehlcmmikgmaa.Ints

/-- The k-th location. -/
def lc (m : Nat) (g : Nat → Int) (k : Nat) : Int := if m = 0 then k else g (k % m) / 8
theorem lc_rng {m : Nat} {g : Nat → Int} (hg : ∀ i, i < m → -2147483648 ≤ g i ∧ g i ≤ 2147483647) (k : Nat) (hk : k ≤ 65536) : -268435456 ≤ lc m g k ∧ lc m g k ≤ 268435456 := by
  unfold lc
  split
  · omega
  · have := hg (k % m) (Nat.mod_lt _ (by omega)); omega
theorem loc0 (o : Option Addr) (cap k : Nat) (g : Nat → Int) (w : World) (hk : k ≤ 65536) : Calls Try.prog 23 #[.slice o 0 cap, .int .i64 k] w fun e w' => e = .returned (.int .i32 (lc 0 g k)) ∧ w = w' := by
  have hc : IntKind.i32.wrap (k : Int) = (k : Int) := by simp [IntKind.wrap, IntKind.bits, IntKind.signed]; omega
  go_enter Try.func23, Try.ntmps23
  go_wp2_with fail
  go_ret
  exact ⟨rfl, rfl⟩
theorem loc1 (b off m cap k : Nat) (g : Nat → Int) (w : World) (hm : 0 < m) (hm2 : m ≤ maxLen) (hk : k ≤ 65536) (hc : ∀ i, i < m → w.cell? ⟨b, off + i, none⟩ = some (.int .i32 (g i))) : Calls Try.prog 23 #[.slice (some ⟨b, off, none⟩) m cap, .int .i64 k] w fun e w' => e = .returned (.int .i32 (lc m g k)) ∧ w = w' := by
  have h1 := hc (k % m) (Nat.mod_lt _ hm)
  have hlt : k % m < m := Nat.mod_lt _ hm
  have hne : ¬ m = 0 := by omega
  unfold maxLen at hm2
  clear hc
  go_enter Try.func23, Try.ntmps23
  go_wp2_with fail
  go_ret
  exact ⟨by unfold lc; rw [if_neg hne]; rfl, rfl⟩
theorem loc (o : Option Addr) (m cap k : Nat) (g : Nat → Int) (w : World) (hI : IntsAt .i32 w o m g) (hm2 : m ≤ maxLen) (hk : k ≤ 65536) : Calls Try.prog 23 #[.slice o m cap, .int .i64 k] w fun e w' => e = .returned (.int .i32 (lc m g k)) ∧ w = w' := by
  rcases Nat.eq_zero_or_pos m with h | h
  · subst h; exact loc0 o cap k g w hk
  · rcases hI with h0 | ⟨b, off, rfl, _, hc⟩
    · omega
    · exact loc1 b off m cap k g w h hm2 hk hc
theorem shift (t : TypeId) (p : Value) (l : Int) (hl : -536870912 ≤ l ∧ l ≤ 536870912) (w : World) : Calls Try.prog 13 #[.agg #[.iface t p, .int .i32 l]] w fun e w' => e = .returned (.agg #[.iface t p, .int .i32 (l + 1048576)]) ∧ Below w.heap.size w w' := by
  have hc : IntKind.i32.wrap (l + 1048576) = l + 1048576 := by simp [IntKind.wrap, IntKind.bits, IntKind.signed]; omega
  go_enter Try.func13, Try.ntmps13
  go_wp2_with fail
  exact bodyPost_ret (v := .agg #[.iface t p, .int .i32 (l + 1048576)]) (by simp [results, Try.results13, go_sem]) rfl ⟨rfl, ((Below.refl _ _).alloc (Nat.le_refl _) _).alloc (by simp) _⟩
/-- A chain: its nodes' blocks, the tests, the other branches, the last leaf, the sides, the locations. -/
structure Chn where
  n : Nat
  I : Nat → Nat
  T : Nat → Value
  O : Nat → Nat
  Z : Nat
  sd : Nat → Bool
  lc : Nat → Int
namespace Chn
variable (c : Chn)
def startV (i : Nat) : Value := if i < c.n then .iface 94 (.pointer (some ⟨c.I i, 0, none⟩)) else .iface 90 (.pointer (some ⟨c.Z, 0, none⟩))
def nextL (i : Nat) (s : Int) : Int := if i + 1 < c.n then c.lc (3 * (i + 1) + 2) else c.lc (3 * c.n) + s
def othV (i : Nat) : Value := .iface 90 (.pointer (some ⟨c.O i, 0, none⟩))
def othL (i : Nat) (s : Int) : Int := c.lc (3 * i + 1) + s
def nodeF (a : Value) (al : Int) (y : Value) (yl : Int) (z : Value) (zl : Int) : Nat → Value := fun j => (#[a, .int .i32 al, y, .int .i32 yl, z, .int .i32 zl] : Array Value).getD j undef
def cells (i : Nat) (s : Int) : Nat → Value :=
  if c.sd i then nodeF (c.T i) (c.lc (3 * i)) (c.startV (i + 1)) (c.nextL i s) (c.othV i) (c.othL i s) else nodeF (c.T i) (c.lc (3 * i)) (c.othV i) (c.othL i s) (c.startV (i + 1)) (c.nextL i s)
def Node (w : World) (i : Nat) (s : Int) : Prop := w.rowIs (c.I i) 99 6 (c.cells i s)
/-- Only the nodes from i on, and new blocks, have turned. -/
structure Ch (i : Nat) (w w' : World) : Prop where
  os : w'.os = w.os
  tape : w'.tape = w.tape
  output : w'.output = w.output
  size : w.heap.size ≤ w'.heap.size
  block : ∀ b, b < w.heap.size → (∀ j, i ≤ j → j < c.n → b ≠ c.I j) → w'.heap[b]? = w.heap[b]?
variable {c} {i i' : Nat} {w w' w1 : World}
theorem Ch.below (h : Below w.heap.size w w') : c.Ch i w w' := ⟨h.os, h.tape, h.output, h.size, fun b hb _ => h.block b hb⟩
theorem Ch.trans (h : c.Ch i w w') (k : c.Ch i w' w1) : c.Ch i w w1 :=
  ⟨k.os.trans h.os, k.tape.trans h.tape, k.output.trans h.output, Nat.le_trans h.size k.size, fun b hb hn => (k.block b (Nat.lt_of_lt_of_le hb h.size) hn).trans (h.block b hb hn)⟩
theorem Ch.mono (h : c.Ch i' w w') (hi : i ≤ i') : c.Ch i w w' := ⟨h.os, h.tape, h.output, h.size, fun b hb hn => h.block b hb (fun j h1 h2 => hn j (Nat.le_trans hi h1) h2)⟩
theorem Ch.set (hi : i < c.n) (k : Nat) (v : Value) : c.Ch i w (w.setCell ⟨c.I i, k, none⟩ v) :=
  ⟨rfl, rfl, rfl, by simp, fun b _ hn => Go.Deep.blk_setCell_other _ _ _ _ (hn i (Nat.le_refl _) hi)⟩
theorem Ch.setNew (h : c.Ch i w w') {R : Nat} (hR : w.heap.size ≤ R) (k : Nat) (v : Value) : c.Ch i w (w'.setCell ⟨R, k, none⟩ v) :=
  ⟨h.os, h.tape, h.output, by simpa using h.size, fun b hb hn => (Go.Deep.blk_setCell_other _ _ _ _ (by show b ≠ R; omega)).trans (h.block b hb hn)⟩
end Chn
theorem ta_EIf (t : TypeId) (v : Value) (w : World) : (Instr.typeAssert (.iface t v) 39 94 true).run Try.prog w = .ok (if t = 94 then .tuple #[v, .bool true] else .tuple #[.pointer none, .bool false]) w :=
  ta_ptr Try.underlying94 (fun _ => by kernel_rfl) _ _ _ _
set_option maxRecDepth 100000 in
theorem leaf (B : Nat) (l : Int) (hl : -536870912 ≤ l ∧ l ≤ 536870912) (w : World) :
    Calls Try.prog 24 #[.pointer none, .agg #[.iface 90 (.pointer (some ⟨B, 0, none⟩)), .int .i32 l], .func (.func 13) #[] #[]] w
      fun e w' => e = .returned (.agg #[.iface 90 (.pointer (some ⟨B, 0, none⟩)), .int .i32 (l + 1048576)]) ∧ Below w.heap.size w w' := by
  have a1 := ta_EIf 90 (.pointer (some ⟨B, 0, none⟩))
  rw [if_neg (by decide)] at a1
  go_enter Try.func24, Try.ntmps24
  go_wp2_with fail
  have hR : ((w.alloc (.cells #[.iface 90 (.pointer (some ⟨B, 0, none⟩)), .int .i32 l] 41)).alloc (.cells #[.nilIface, .int .i32 0] 41)).rowIs (w.heap.size + 1) 41 2 (fun j => (#[.nilIface, .int .i32 0] : Array Value).getD j undef) := by
    have h := World.rowIs_alloc (w.alloc (.cells #[.iface 90 (.pointer (some ⟨B, 0, none⟩)), .int .i32 l] 41)) #[.nilIface, .int .i32 0] 41 (fun j => (#[.nilIface, .int .i32 0] : Array Value).getD j undef) (fun i hi => by
      match i, hi with
      | 0, _ | 1, _ => rfl)
    simpa using h
  have hb0 : Below w.heap.size w ((w.alloc (.cells #[.iface 90 (.pointer (some ⟨B, 0, none⟩)), .int .i32 l] 41)).alloc (.cells #[.nilIface, .int .i32 0] 41)) := ((Below.refl _ _).alloc (Nat.le_refl _) _).alloc (by simp) _
  generalize ((w.alloc (.cells #[.iface 90 (.pointer (some ⟨B, 0, none⟩)), .int .i32 l] 41)).alloc (.cells #[.nilIface, .int .i32 0] 41)) = w1 at hR hb0 ⊢
  refine (shift _ _ l hl w1).mono ?_
  rintro e w2 ⟨rfl, hb2⟩
  have hR2 := hR.of_block (w' := w2) (hb2.block _ hR.lt)
  have hbf : Hid (Below w.heap.size w w2) := Lib.hid (hb0.trans (hb2.mono hb0.size))
  have r0 : w2.cell? ⟨w.heap.size + 1, 0, none⟩ = some .nilIface := hR2.cell (i := 0) (by omega)
  have r1 : w2.cell? ⟨w.heap.size + 1, 1, none⟩ = some (.int .i32 0) := hR2.cell (i := 1) (by omega)
  have f0 := hR2.frozen 0
  have f1 := hR2.frozen 1
  have hNR : w.heap.size ≤ w.heap.size + 1 := by omega
  clear hR hb0 hb2
  replace hR2 := Lib.hid hR2
  generalize w.heap.size + 1 = R at *
  go_wp2_with fail
  have z := (hR2.out.set 0 (.iface 90 (.pointer (some ⟨B, 0, none⟩)))).set 1 (.int .i32 (l + 1048576))
  have z0 := z.cell (i := 0) (by omega)
  have z1 := z.cell (i := 1) (by omega)
  exact bodyPost_ret (v := .agg #[.iface 90 (.pointer (some ⟨B, 0, none⟩)), .int .i32 (l + 1048576)]) (by simp [results, Try.results24, go_sem, r0, r1]) rfl ⟨rfl, (hbf.out.setCell (p := ⟨R, 0, none⟩) hNR _).setCell (p := ⟨R, 1, none⟩) hNR _⟩
end Go.Proofs.Ytgiehlcmmikgmaa.Tr
