/-
  The items, the node, the symbols and the parser that FnMaybeMarkPureIdempotentMonotone builds. Condition: at most 65536 codes each.
-/
import Derived.Test.YtihpdmoonddjmaaPure5
import Derived.Test.YtihpdmoonddjmaaUsing
namespace Go.Proofs.Ytihpdmoonddjmaa.Pure
open Go.RowKit Go.Proofs.Ytihpdmoonddjmaa.Ints

/-- The first r elements of the row at b are nodes. -/
def RowE (w : World) (b n r : Nat) : Prop := ∃ F, w.rowIs b 39 (n * 2) F ∧ ∀ j, j < r → (∃ t a, F (j * 2) = .iface t (.pointer (some ⟨a, 0, none⟩))) ∧ F (j * 2 + 1) = .int .i32 0
theorem rowE_made (w : World) (n : Nat) : RowE (w.alloc (.cells (madeCells #[.nilIface, .int .i32 0] (n * 2)) 39)) w.heap.size n 0 := by
  have h := World.rowIs_alloc w (madeCells #[.nilIface, .int .i32 0] (n * 2)) 39 (fun i => if i % 2 = 0 then .nilIface else .int .i32 0) (fun i hi => by
    rw [size_madeCells] at hi
    have h2 : i % 2 = 0 ∨ i % 2 = 1 := by omega
    rcases h2 with h | h <;> simp [madeCells, hi, h])
  rw [size_madeCells] at h
  exact ⟨_, h, fun j hj => absurd hj (by omega)⟩
theorem RowE.below {w w' : World} {b n r : Nat} (h : RowE w b n r) (hB : Below w.heap.size w w') : RowE w' b n r := by
  obtain ⟨F, hR, hF⟩ := h
  exact ⟨F, hR.of_block (hB.block _ hR.lt), hF⟩
theorem RowE.set {w : World} {b n r : Nat} (h : RowE w b n r) (t : TypeId) (a : Nat) : RowE ((w.setCell ⟨b, r * 2, none⟩ (.iface t (.pointer (some ⟨a, 0, none⟩)))).setCell ⟨b, r * 2 + 1, none⟩ (.int .i32 0)) b n (r + 1) := by
  obtain ⟨F, hR, hF⟩ := h
  refine ⟨_, (hR.set (r * 2) _).set (r * 2 + 1) (.int .i32 0), fun j hj => ?_⟩
  by_cases e : j = r
  · subst e
    refine ⟨⟨t, a, ?_⟩, by simp⟩
    show (if j * 2 = j * 2 + 1 then _ else if j * 2 = j * 2 then _ else _) = _
    rw [if_neg (by omega), if_pos rfl]
  · have hjr : j < r := by omega
    obtain ⟨⟨t', a', h1⟩, h2⟩ := hF j hjr
    refine ⟨⟨t', a', ?_⟩, ?_⟩
    · show (if j * 2 = r * 2 + 1 then _ else if j * 2 = r * 2 then _ else F (j * 2)) = _
      rw [if_neg (by omega), if_neg (by omega)]; exact h1
    · show (if j * 2 + 1 = r * 2 + 1 then _ else if j * 2 + 1 = r * 2 then _ else F (j * 2 + 1)) = _
      rw [if_neg (by omega), if_neg (by omega)]; exact h2
theorem RowE.cells {w : World} {b n r : Nat} (h : RowE w b n r) {j : Nat} (hj : j < n) :
    ∃ x y, w.cell? ⟨b, j * 2, none⟩ = some x ∧ w.cell? ⟨b, j * 2 + 1, none⟩ = some y ∧ w.frozen? ⟨b, j * 2, none⟩ = false ∧ w.frozen? ⟨b, j * 2 + 1, none⟩ = false := by
  obtain ⟨F, hR, _⟩ := h
  exact ⟨_, _, hR.cell (by omega), hR.cell (by omega), hR.frozen _, hR.frozen _⟩
def ifT : Value → TypeId
  | .iface t _ => t
  | _ => 0
def ifP : Value → Addr
  | .iface _ (.pointer (some a)) => a
  | _ => ⟨0, 0, none⟩
/-- A list of nodes: where it lies and what its elements are. -/
def Its (n : Nat) (w : World) (oi : Option Addr) (I : Nat) (ts : Nat → TypeId) (ps : Nat → Addr) : Prop :=
  ∀ i, i < n → oi = some ⟨I, 0, none⟩ ∧ w.cell? ⟨I, i * 2, none⟩ = some (.iface (ts i) (.pointer (some (ps i)))) ∧ w.cell? ⟨I, i * 2 + 1, none⟩ = some (.int .i32 0)
theorem RowE.its {w : World} {b n : Nat} (h : RowE w b n n) : ∃ ts ps, Its n w (some ⟨b, 0, none⟩) b ts ps := by
  obtain ⟨F, hR, hF⟩ := h
  refine ⟨fun i => ifT (F (i * 2)), fun i => ifP (F (i * 2)), fun i hi => ⟨rfl, ?_, ?_⟩⟩
  · obtain ⟨⟨t, a, h1⟩, _⟩ := hF i hi
    rw [hR.cell (by omega)]
    simp [h1, ifT, ifP]
  · rw [hR.cell (by omega), (hF i hi).2]
theorem nil8 (a : Option Addr) (l c : Nat) (w : World) : (binOp .eql 54 (.slice a l c) (.slice none 0 0)).run Try.prog w = .ok (.bool a.isNone) w := by
  simp [binOp, run_equal_slice_nil w 54 5 a l c Try.underlying54]
def Items (n : Nat) (w : World) (e : Ending) (w' : World) : Prop := ∃ oi I ts ps, e = .returned (.slice oi n n) ∧ w.heap.size ≤ I ∧ Its n w' oi I ts ps ∧ Below w.heap.size w w'
set_option maxRecDepth 100000 in
set_option maxHeartbeats 2000000 in
theorem items_some (a : Addr) (n c : Nat) (f : Nat → Int) (w : World) (hn : n ≤ 65536) (hI : IntsAt .u8 w (some a) n f) (hf : ∀ i, i < n → 0 ≤ f i ∧ f i < 256) :
    Calls Try.prog 45 #[.slice (some a) n c] w (Items n w) := by
  have hmk := mkE n hn
  have hnil := nil8 (some a) n c
  replace hf := Lib.hid hf
  go_enter Try.func45, Try.ntmps45
  go_wp2_with fail
  clear hmk
  go_loopg [4] n (fun gk i wr => ∃ r : Nat, r ≤ n ∧ gk = n - r ∧ i = .int .i64 r ∧ Below w.heap.size w wr ∧ RowE wr w.heap.size n r)
  case atStart => exact ⟨0, Nat.zero_le _, rfl, rfl, (Below.refl _ _).alloc (Nat.le_refl _) _, rowE_made w n⟩
  case round =>
    obtain ⟨r, hr, rfl, rfl, hB, hR⟩ := hrel
    rcases Nat.lt_or_ge r n with hlt | hge
    · rcases hI with h0 | ⟨bb, off, he, hbb, hc⟩
      · omega
      · cases he
        obtain ⟨f0, f1⟩ := hf.out r hlt
        have g2 : wr.cell? ⟨bb, off + r, none⟩ = some (.int .u8 (f r)) := (hB.cell (by exact hbb)).trans (hc r hlt)
        clear hc
        go_wp2_with fail
        go_at_call 55
        refine (makeItem _ f0 f1 _).mono ?_
        rintro e w1 ⟨t, B, rfl, B1⟩
        have hB2 := hB.trans (B1.mono hB.size)
        have hR2 := hR.below B1
        obtain ⟨x, y, d0, d1, d2, d3⟩ := hR2.cells hlt
        have hN := Lib.hid (hR2.set t B)
        clear hR hR2 hB B1 g2
        go_wp2_with fail
        go_roundg (n - (r + 1))
        case measure => omega
        case rel => exact ⟨r + 1, by omega, rfl, rfl, (hB2.setCell (by exact Nat.le_refl _) _).setCell (by exact Nat.le_refl _) _, hN.out⟩
    · have hrn : r = n := by omega
      subst hrn
      clear hI
      obtain ⟨ts, ps, hIt⟩ := hR.its
      replace hIt := Lib.hid hIt
      go_wp2_with fail
      go_ret
      exact ⟨_, _, ts, ps, rfl, Nat.le_refl _, hIt.out, hB⟩
theorem items_none (w : World) : Calls Try.prog 45 #[.slice none 0 0] w (Items 0 w) := by
  have hnil := nil8 none 0 0
  go_enter Try.func45, Try.ntmps45
  go_wp2
  go_ret
  exact ⟨none, w.heap.size, fun _ => 0, fun _ => ⟨0, 0, none⟩, rfl, Nat.le_refl _, fun i hi => absurd hi (by omega), Below.refl _ _⟩
theorem items (o : Option Addr) (n c : Nat) (f : Nat → Int) (w : World) (hn : n ≤ 65536) (hI : IntsAt .u8 w o n f) (h0 : o = none → n = 0 ∧ c = 0) (hf : ∀ i, i < n → 0 ≤ f i ∧ f i < 256) : Calls Try.prog 45 #[.slice o n c] w (Items n w) := by
  cases o with
  | none =>
    obtain ⟨rfl, rfl⟩ := h0 rfl
    exact items_none w
  | some a => exact items_some a n c f w hn hI hf
end Go.Proofs.Ytihpdmoonddjmaa.Pure
