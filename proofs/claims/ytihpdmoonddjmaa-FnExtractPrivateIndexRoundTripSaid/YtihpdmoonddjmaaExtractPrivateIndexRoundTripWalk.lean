/-
  The walk of FnExtractPrivateIndexRoundTrip: it returns true for every selector, flag and location. No condition.
-/
import Derived.Test.YtihpdmoonddjmaaPriv4
import Derived.LaidEqlPtr
import Derived.Lib.Builder
import Derived.Deep.DeepCutAuto
namespace Go.Proofs.Ytihpdmoonddjmaa.fnExtractPrivateIndexRoundTrip
open Go.RowKit Go.Proofs.Ytihpdmoonddjmaa.Ints Go.Proofs.Ytihpdmoonddjmaa.Priv

theorem bcell {W w1 : World} (hb : Below W.heap.size W w1) : (∀ b o, b < W.heap.size → w1.cell? ⟨b, o, none⟩ = W.cell? ⟨b, o, none⟩) ∧ (∀ b o, b < W.heap.size → w1.frozen? ⟨b, o, none⟩ = W.frozen? ⟨b, o, none⟩) :=
  ⟨fun b o h => hb.cell (p := ⟨b, o, none⟩) h, fun b o h => hb.frozen (p := ⟨b, o, none⟩) h⟩
theorem ltOf {W w1 : World} (hb : Below W.heap.size W w1) : ∀ b, b < W.heap.size → b < w1.heap.size := fun _ h => Nat.lt_of_lt_of_le h hb.size
theorem carry2 {W w1 : World} {b : Nat} {x y : Value} (hb : Below W.heap.size W w1) (h : W.cell? ⟨b, 0, none⟩ = some x ∧ W.cell? ⟨b, 1, none⟩ = some y ∧ W.frozen? ⟨b, 0, none⟩ = false ∧ W.frozen? ⟨b, 1, none⟩ = false) :
    w1.cell? ⟨b, 0, none⟩ = some x ∧ w1.cell? ⟨b, 1, none⟩ = some y ∧ w1.frozen? ⟨b, 0, none⟩ = false ∧ w1.frozen? ⟨b, 1, none⟩ = false := by
  obtain ⟨h1, h2, h3, h4⟩ := h
  have hl : b < W.heap.size := lt_of_cell h1
  exact ⟨(hb.cell (p := ⟨b, 0, none⟩) hl).trans h1, (hb.cell (p := ⟨b, 1, none⟩) hl).trans h2, (hb.frozen (p := ⟨b, 0, none⟩) hl).trans h3, (hb.frozen (p := ⟨b, 1, none⟩) hl).trans h4⟩
theorem new2 {V w1 : World} {x y : Value} {T : TypeId} (hb : Below (V.alloc (.cells #[x, y] T)).drew.heap.size (V.alloc (.cells #[x, y] T)).drew w1) :
    w1.cell? ⟨V.heap.size, 0, none⟩ = some x ∧ w1.cell? ⟨V.heap.size, 1, none⟩ = some y ∧ w1.frozen? ⟨V.heap.size, 0, none⟩ = false ∧ w1.frozen? ⟨V.heap.size, 1, none⟩ = false := by
  refine carry2 hb ⟨?_, ?_, ?_, ?_⟩ <;> go_simp
theorem new2' {V w1 : World} {x y : Value} {T : TypeId} (hb : Below (V.alloc (.cells #[x, y] T)).heap.size (V.alloc (.cells #[x, y] T)) w1) :
    w1.cell? ⟨V.heap.size, 0, none⟩ = some x ∧ w1.cell? ⟨V.heap.size, 1, none⟩ = some y ∧ w1.frozen? ⟨V.heap.size, 0, none⟩ = false ∧ w1.frozen? ⟨V.heap.size, 1, none⟩ = false := by
  refine carry2 hb ⟨?_, ?_, ?_, ?_⟩ <;> go_simp
def IdxAt (V : World) (Q : Nat) (tl il loc : Int) (s : Value) (wx : World) : Prop := ∃ g X B, s = .pointer (some ⟨g, 0, none⟩) ∧ wx.cell? ⟨g, 0, none⟩ = some (.iface 157 (.pointer (some ⟨X, 0, none⟩))) ∧ wx.cell? ⟨g, 1, none⟩ = some (.int .i32 loc) ∧ Below V.heap.size V wx ∧
      wx.cell? ⟨X, 0, none⟩ = some (.iface 64 (.pointer (some ⟨B, 0, none⟩))) ∧ wx.cell? ⟨X, 1, none⟩ = some (.int .i32 tl) ∧ wx.cell? ⟨X, 2, none⟩ = some (.iface 40 (.pointer (some ⟨Q, 0, none⟩))) ∧ wx.cell? ⟨X, 3, none⟩ = some (.int .i32 il) ∧
      wx.cell? ⟨B, 0, none⟩ = some (.int .u32 0) ∧ wx.cell? ⟨B, 1, none⟩ = some (.int .u32 3)
section
variable {V w6 : World} {Q X B g : Nat} {tl il loc : Int} {T : TypeId}
theorem idxA (hI : Below V.heap.size V (w6.alloc (.cells #[.iface 157 (.pointer (some ⟨X, 0, none⟩)), .int .i32 loc] T))) (x0 : w6.cell? ⟨X, 0, none⟩ = some (.iface 64 (.pointer (some ⟨B, 0, none⟩)))) (x1 : w6.cell? ⟨X, 1, none⟩ = some (.int .i32 tl)) (x2 : w6.cell? ⟨X, 2, none⟩ = some (.iface 40 (.pointer (some ⟨Q, 0, none⟩)))) (x3 : w6.cell? ⟨X, 3, none⟩ = some (.int .i32 il))
    (j0 : w6.cell? ⟨B, 0, none⟩ = some (.int .u32 0)) (j1 : w6.cell? ⟨B, 1, none⟩ = some (.int .u32 3)) :
    IdxAt V Q tl il loc (.pointer (some ⟨w6.heap.size, 0, none⟩)) (w6.alloc (.cells #[.iface 157 (.pointer (some ⟨X, 0, none⟩)), .int .i32 loc] T)) := by
  have k : ∀ {p : Addr} {u : Value}, w6.cell? p = some u → (w6.alloc (.cells #[.iface 157 (.pointer (some ⟨X, 0, none⟩)), .int .i32 loc] T)).cell? p = some u := fun h => (World.cell?_alloc_lt _ _ _ (lt_of_cell h)).trans h
  exact ⟨_, X, B, rfl, by go_simp, by go_simp, hI, k x0, k x1, k x2, k x3, k j0, k j1⟩
theorem idxS (hI : Below V.heap.size V ((w6.setCell ⟨g, 0, none⟩ (.iface 157 (.pointer (some ⟨X, 0, none⟩)))).setCell ⟨g, 1, none⟩ (.int .i32 loc))) (x0 : w6.cell? ⟨X, 0, none⟩ = some (.iface 64 (.pointer (some ⟨B, 0, none⟩)))) (x1 : w6.cell? ⟨X, 1, none⟩ = some (.int .i32 tl)) (x2 : w6.cell? ⟨X, 2, none⟩ = some (.iface 40 (.pointer (some ⟨Q, 0, none⟩)))) (x3 : w6.cell? ⟨X, 3, none⟩ = some (.int .i32 il))
    (j0 : w6.cell? ⟨B, 0, none⟩ = some (.int .u32 0)) (j1 : w6.cell? ⟨B, 1, none⟩ = some (.int .u32 3)) (hX : X ≠ g) (hB : B ≠ g) (c0 : w6.cell? ⟨g, 0, none⟩ = some .nilIface) (c1 : w6.cell? ⟨g, 1, none⟩ = some (.int .i32 0)) :
    IdxAt V Q tl il loc (.pointer (some ⟨g, 0, none⟩)) ((w6.setCell ⟨g, 0, none⟩ (.iface 157 (.pointer (some ⟨X, 0, none⟩)))).setCell ⟨g, 1, none⟩ (.int .i32 loc)) := by
  have k : ∀ {p : Addr} {u : Value}, p.block ≠ g → w6.cell? p = some u → ((w6.setCell ⟨g, 0, none⟩ (.iface 157 (.pointer (some ⟨X, 0, none⟩)))).setCell ⟨g, 1, none⟩ (.int .i32 loc)).cell? p = some u := fun hp h => by
    rw [World.cell?_setCell_other _ _ _ _ (fun e => hp (congrArg Addr.block e.symm)), World.cell?_setCell_other _ _ _ _ (fun e => hp (congrArg Addr.block e.symm))]
    exact h
  exact ⟨g, X, B, rfl, by go_simp, by go_simp, hI, k hX x0, k hX x1, k hX x2, k hX x3, k hB j0, k hB j1⟩
end
theorem keep2 {V W w1 : World} {a b : Addr} {x y : Value} (h : W.cell? a = some x ∧ W.cell? b = some y ∧ Below V.heap.size V W) (hb : Below W.heap.size W w1) :
    w1.cell? a = some x ∧ w1.cell? b = some y ∧ Below V.heap.size V w1 := by
  obtain ⟨h1, h2, h4⟩ := h
  exact ⟨(hb.cell (lt_of_cell h1)).trans h1, (hb.cell (lt_of_cell h2)).trans h2, h4.trans (hb.mono h4.size)⟩
theorem keepA {V W : World} {a b : Addr} {x y : Value} (h : W.cell? a = some x ∧ W.cell? b = some y ∧ Below V.heap.size V W) (o : Obj) :
    (W.alloc o).cell? a = some x ∧ (W.alloc o).cell? b = some y ∧ Below V.heap.size V (W.alloc o) := keep2 h ((Below.refl _ _).alloc (Nat.le_refl _) _)
theorem keepO {V W : World} {o : Obj} {a b : Addr} {x y : Value} (h : (W.alloc o).cell? a = some x ∧ (W.alloc o).cell? b = some y ∧ Below V.heap.size V (W.alloc o)) (hg : a.block < V.heap.size ∧ b.block < V.heap.size ∧ V.heap.size ≤ W.heap.size) (o' : Obj) :
    (W.alloc o').cell? a = some x ∧ (W.alloc o').cell? b = some y ∧ Below V.heap.size V (W.alloc o') := by
  obtain ⟨h1, h2, h4⟩ := h
  obtain ⟨g1, g2, g3⟩ := hg
  have e : Below V.heap.size V W := ⟨h4.os, h4.tape, h4.output, g3, fun i hi => (Below.heap_alloc W o i (by omega)).symm.trans (h4.block i hi)⟩
  refine keepA ⟨?_, ?_, e⟩ o'
  · rw [← h1]; exact (World.cell?_alloc_lt W o a (by omega)).symm
  · rw [← h2]; exact (World.cell?_alloc_lt W o b (by omega)).symm
theorem keepS {V W : World} {a b : Addr} {x y : Value} {g : Nat} (h : W.cell? a = some x ∧ W.cell? b = some y ∧ Below V.heap.size V W) (hg : a.block < V.heap.size ∧ b.block < V.heap.size ∧ V.heap.size ≤ g) (u v : Value) :
    ((W.setCell ⟨g, 0, none⟩ u).setCell ⟨g, 1, none⟩ v).cell? a = some x ∧ ((W.setCell ⟨g, 0, none⟩ u).setCell ⟨g, 1, none⟩ v).cell? b = some y ∧ Below V.heap.size V ((W.setCell ⟨g, 0, none⟩ u).setCell ⟨g, 1, none⟩ v) := by
  obtain ⟨h1, h2, h4⟩ := h
  obtain ⟨g1, g2, g3⟩ := hg
  have B1 : Below V.heap.size W ((W.setCell ⟨g, 0, none⟩ u).setCell ⟨g, 1, none⟩ v) := ((Below.refl _ _).setCell (by exact g3) _).setCell (by exact g3) _
  exact ⟨(B1.cell g1).trans h1, (B1.cell g2).trans h2, h4.trans B1⟩
def IdxAt2 (V : World) (B Q : Nat) (tl il loc : Int) (s : Value) (wx : World) : Prop := ∃ g X, s = .pointer (some ⟨g, 0, none⟩) ∧ wx.cell? ⟨g, 0, none⟩ = some (.iface 157 (.pointer (some ⟨X, 0, none⟩))) ∧ wx.cell? ⟨g, 1, none⟩ = some (.int .i32 loc) ∧ Below V.heap.size V wx ∧
      wx.cell? ⟨X, 0, none⟩ = some (.iface 64 (.pointer (some ⟨B, 0, none⟩))) ∧ wx.cell? ⟨X, 1, none⟩ = some (.int .i32 tl) ∧ wx.cell? ⟨X, 2, none⟩ = some (.iface 40 (.pointer (some ⟨Q, 0, none⟩))) ∧ wx.cell? ⟨X, 3, none⟩ = some (.int .i32 il)
section
variable {V w6 : World} {Q X B g : Nat} {tl il loc : Int} {T : TypeId}
theorem idxA2 (hI : Below V.heap.size V (w6.alloc (.cells #[.iface 157 (.pointer (some ⟨X, 0, none⟩)), .int .i32 loc] T))) (x0 : w6.cell? ⟨X, 0, none⟩ = some (.iface 64 (.pointer (some ⟨B, 0, none⟩)))) (x1 : w6.cell? ⟨X, 1, none⟩ = some (.int .i32 tl)) (x2 : w6.cell? ⟨X, 2, none⟩ = some (.iface 40 (.pointer (some ⟨Q, 0, none⟩)))) (x3 : w6.cell? ⟨X, 3, none⟩ = some (.int .i32 il)) :
    IdxAt2 V B Q tl il loc (.pointer (some ⟨w6.heap.size, 0, none⟩)) (w6.alloc (.cells #[.iface 157 (.pointer (some ⟨X, 0, none⟩)), .int .i32 loc] T)) := by
  have k : ∀ {p : Addr} {u : Value}, w6.cell? p = some u → (w6.alloc (.cells #[.iface 157 (.pointer (some ⟨X, 0, none⟩)), .int .i32 loc] T)).cell? p = some u := fun h => (World.cell?_alloc_lt _ _ _ (lt_of_cell h)).trans h
  exact ⟨_, X, rfl, by go_simp, by go_simp, hI, k x0, k x1, k x2, k x3⟩
theorem idxS2 (hI : Below V.heap.size V ((w6.setCell ⟨g, 0, none⟩ (.iface 157 (.pointer (some ⟨X, 0, none⟩)))).setCell ⟨g, 1, none⟩ (.int .i32 loc))) (x0 : w6.cell? ⟨X, 0, none⟩ = some (.iface 64 (.pointer (some ⟨B, 0, none⟩)))) (x1 : w6.cell? ⟨X, 1, none⟩ = some (.int .i32 tl)) (x2 : w6.cell? ⟨X, 2, none⟩ = some (.iface 40 (.pointer (some ⟨Q, 0, none⟩)))) (x3 : w6.cell? ⟨X, 3, none⟩ = some (.int .i32 il))
    (hX : X ≠ g) (c0 : w6.cell? ⟨g, 0, none⟩ = some .nilIface) (c1 : w6.cell? ⟨g, 1, none⟩ = some (.int .i32 0)) :
    IdxAt2 V B Q tl il loc (.pointer (some ⟨g, 0, none⟩)) ((w6.setCell ⟨g, 0, none⟩ (.iface 157 (.pointer (some ⟨X, 0, none⟩)))).setCell ⟨g, 1, none⟩ (.int .i32 loc)) := by
  have k : ∀ {p : Addr} {u : Value}, p.block ≠ g → w6.cell? p = some u → ((w6.setCell ⟨g, 0, none⟩ (.iface 157 (.pointer (some ⟨X, 0, none⟩)))).setCell ⟨g, 1, none⟩ (.int .i32 loc)).cell? p = some u := fun hp h => by
    rw [World.cell?_setCell_other _ _ _ _ (fun e => hp (congrArg Addr.block e.symm)), World.cell?_setCell_other _ _ _ _ (fun e => hp (congrArg Addr.block e.symm))]
    exact h
  exact ⟨g, X, rfl, by go_simp, by go_simp, hI, k hX x0, k hX x1, k hX x2, k hX x3⟩
end
theorem keep3x {V W w1 : World} {a b c : Addr} {x y z : Value} (h : W.cell? a = some x ∧ W.cell? b = some y ∧ W.cell? c = some z ∧ Below V.heap.size V W) (hb : Below W.heap.size W w1) :
    w1.cell? a = some x ∧ w1.cell? b = some y ∧ w1.cell? c = some z ∧ Below V.heap.size V w1 := by
  obtain ⟨h1, h2, h3, h4⟩ := h
  exact ⟨(hb.cell (lt_of_cell h1)).trans h1, (hb.cell (lt_of_cell h2)).trans h2, (hb.cell (lt_of_cell h3)).trans h3, h4.trans (hb.mono h4.size)⟩
theorem keepA3 {V W : World} {a b c : Addr} {x y z : Value} (h : W.cell? a = some x ∧ W.cell? b = some y ∧ W.cell? c = some z ∧ Below V.heap.size V W) (o : Obj) :
    (W.alloc o).cell? a = some x ∧ (W.alloc o).cell? b = some y ∧ (W.alloc o).cell? c = some z ∧ Below V.heap.size V (W.alloc o) := keep3x h ((Below.refl _ _).alloc (Nat.le_refl _) _)
theorem keepO3 {V W : World} {o : Obj} {a b c : Addr} {x y z : Value} (h : (W.alloc o).cell? a = some x ∧ (W.alloc o).cell? b = some y ∧ (W.alloc o).cell? c = some z ∧ Below V.heap.size V (W.alloc o)) (hg : a.block < V.heap.size ∧ b.block < V.heap.size ∧ c.block < V.heap.size ∧ V.heap.size ≤ W.heap.size) (o' : Obj) :
    (W.alloc o').cell? a = some x ∧ (W.alloc o').cell? b = some y ∧ (W.alloc o').cell? c = some z ∧ Below V.heap.size V (W.alloc o') := by
  obtain ⟨h1, h2, h3, h4⟩ := h
  obtain ⟨g1, g2, g4, g3⟩ := hg
  have e : Below V.heap.size V W := ⟨h4.os, h4.tape, h4.output, g3, fun i hi => (Below.heap_alloc W o i (by omega)).symm.trans (h4.block i hi)⟩
  refine keepA3 ⟨?_, ?_, ?_, e⟩ o'
  · rw [← h1]; exact (World.cell?_alloc_lt W o a (by omega)).symm
  · rw [← h2]; exact (World.cell?_alloc_lt W o b (by omega)).symm
  · rw [← h3]; exact (World.cell?_alloc_lt W o c (by omega)).symm
theorem keepS3 {V W : World} {a b c : Addr} {x y z : Value} {g : Nat} (h : W.cell? a = some x ∧ W.cell? b = some y ∧ W.cell? c = some z ∧ Below V.heap.size V W) (hg : a.block < V.heap.size ∧ b.block < V.heap.size ∧ c.block < V.heap.size ∧ V.heap.size ≤ g) (u v : Value) :
    ((W.setCell ⟨g, 0, none⟩ u).setCell ⟨g, 1, none⟩ v).cell? a = some x ∧ ((W.setCell ⟨g, 0, none⟩ u).setCell ⟨g, 1, none⟩ v).cell? b = some y ∧ ((W.setCell ⟨g, 0, none⟩ u).setCell ⟨g, 1, none⟩ v).cell? c = some z ∧ Below V.heap.size V ((W.setCell ⟨g, 0, none⟩ u).setCell ⟨g, 1, none⟩ v) := by
  obtain ⟨h1, h2, h3, h4⟩ := h
  obtain ⟨g1, g2, g4, g3⟩ := hg
  have B1 : Below V.heap.size W ((W.setCell ⟨g, 0, none⟩ u).setCell ⟨g, 1, none⟩ v) := ((Below.refl _ _).setCell (by exact g3) _).setCell (by exact g3) _
  exact ⟨(B1.cell g1).trans h1, (B1.cell g2).trans h2, (B1.cell g4).trans h3, h4.trans B1⟩
theorem hasInfo : ∃ j, Try.prog.info? 156 = some j := Option.isSome_iff_exists.1 (show (Try.prog.info? 156).isSome = true by kernel_rfl)
theorem nqPtr (a : Addr) (w : World) : (binOp .neq 40 (.pointer (some a)) (.pointer (some a))).run Try.prog w = .ok (.bool false) w := by
  obtain ⟨j, hj⟩ := hasInfo
  exact Lib.run_neq_ptr_same w a Try.underlying40 hj
theorem eqPtr (a : Addr) (w : World) : (binOp .eql 40 (.pointer (some a)) (.pointer (some a))).run Try.prog w = .ok (.bool true) w := by
  obtain ⟨j, hj⟩ := hasInfo
  exact run_eql_ptr_same w a Try.underlying40 hj
set_option maxRecDepth 100000 in
set_option maxHeartbeats 4000000 in
theorem walk (a0 : Int) (w0 : (Lit.int .u8 a0).wf = true) (a1 : Bool) (a2 : Int) (_w2 : (Lit.int .i32 a2).wf = true) (a3 : Int) (_w3 : (Lit.int .i32 a3).wf = true) (a4 : Int) (_w4 : (Lit.int .i32 a4).wf = true) (a5 : Int) (_w5 : (Lit.int .i32 a5).wf = true) (w : World) :
    Calls Try.prog 4 #[.int .u8 a0, .bool a1, .int .i32 a2, .int .i32 a3, .int .i32 a4, .int .i32 a5] w fun e w' => e = .returned (.bool true) ∧ Below w.heap.size w w' := by
  have e1 : IntKind.u8.min = 0 := rfl
  have e2 : IntKind.u8.max = 255 := rfl
  have hx : 0 ≤ a0 ∧ a0 ≤ 255 := by simpa [Lit.wf, e1, e2] using w0
  clear w0 _w2 _w3 _w4 _w5 e1 e2
  obtain ⟨h0, _⟩ := hx
  by_cases big : a0 ≤ 10
  · have hk := Lib.hid (kindOf_kinds a0 h0 big)
    go_enter Try.func4, Try.ntmps4
    go_wp2_with fail
    go_at_call 11
    refine (newPrivate a0 a1 h0 big _).mono ?_
    rintro e w1 ⟨P, S, rfl, p1, p2, s1, s2, B1⟩
    go_wp2_with fail
    go_at_call 13
    refine (ref _ _).mono ?_
    rintro e w2 ⟨rfl, B2⟩
    go_wp2_with fail
    go_at_call 12
    refine (privateExpr _ _ _ _).mono ?_
    rintro e w3 ⟨Q, hQ, rfl, q0, q1, B3⟩
    have C2 := B1.trans (B2.mono B1.size)
    have C3 := C2.trans (B3.mono C2.size)
    have D3 := B2.trans (B3.mono B2.size)
    replace p1 := (D3.cell (lt_of_cell p1)).trans p1
    replace p2 := (D3.cell (lt_of_cell p2)).trans p2
    replace s1 := (D3.cell (lt_of_cell s1)).trans s1
    replace s2 := (D3.cell (lt_of_cell s2)).trans s2
    clear B1 B2 B3 C2 D3 hQ
    go_upto_region 5 with fail
    generalize hV : w3.alloc (.cells #[.iface 40 (.pointer (some ⟨Q, 0, none⟩)), .int .i32 a3] 39) = V
    have D0 : Below w3.heap.size w3 V := by subst hV; exact (Below.refl _ _).alloc (Nat.le_refl _) _
    have t0 : V.cell? ⟨w3.heap.size, 0, none⟩ = some (.iface 40 (.pointer (some ⟨Q, 0, none⟩))) := by subst hV; go_simp
    have t1 : V.cell? ⟨w3.heap.size, 1, none⟩ = some (.int .i32 a3) := by subst hV; go_simp
    have hVs : w3.heap.size + 1 = V.heap.size := by subst hV; simp
    clear hV
    have hVs' : w3.heap.size < V.heap.size := by omega
    clear hVs
    have hS := And.intro t0 (And.intro t1 (Below.refl V.heap.size V))
    go_cut [16] (fun sx wx => IdxAt V Q a2 a3 a4 sx wx)
    case first =>
      go_region_held3 (fun w' => w'.cell? ⟨w3.heap.size, 0, none⟩ = some (.iface 40 (.pointer (some ⟨Q, 0, none⟩))) ∧ w'.cell? ⟨w3.heap.size, 1, none⟩ = some (.int .i32 a3) ∧ Below V.heap.size V w')
        (first | exact hS | exact keep2 (keepA hS _) (Below.refl _ _).drew | (refine keepA ?_ _; assumption) | (refine keepS ?_ ⟨hVs', hVs', ?_⟩ _ _; assumption; omega) | (refine keep2 (by assumption) ?_; first | assumption | exact (Below.refl _ _).drew | exact below_drewN (Below.refl _ _) _) | exact keepO (by assumption) ⟨hVs', hVs', by omega⟩ _)
        (first | (go_at_call 13; refine (ref _ _).mono ?_; rintro e w4 ⟨rfl, hb4⟩; (have z4 := hb4.size); (try simp at z4); (have l4 := ltOf hb4); (try (have g4 := new2 hb4)); (obtain ⟨hc4, hf4⟩ := bcell hb4))
               | (go_at_call 15; refine (identExpr _ _ _ _).mono ?_; rintro e w5 ⟨B, hB5, rfl, i0, i1, hb5⟩; (have z5 := hb5.size); (try simp at z5); (try simp at hB5); (have l5 := ltOf hb5); (first | (have g5 := carry2 hb5 g4) | (have g5 := new2' hb5) | skip); (obtain ⟨hc5, hf5⟩ := bcell hb5))
               | (go_at_call 14; refine (indexExpr _ _ _ _ _ _ _ _).mono ?_; rintro e w6 ⟨X, hX6, rfl, x0, x1, x2, x3, hb6⟩; (have z6 := hb6.size); (try simp at z6); (try simp at hX6); (have l6 := ltOf hb6); (first | (have g6 := carry2 hb6 g5) | (have g6 := new2' hb6) | skip); (obtain ⟨hc6, hf6⟩ := bcell hb6)))
      all_goals
        rename_i hH
        have j0 : w6.cell? ⟨B, 0, none⟩ = some (.int .u32 0) := by
          first
            | exact (hb6.cell (lt_of_cell i0)).trans i0
            | exact (hb6.cell (Nat.lt_of_lt_of_le (lt_of_cell i0) (by simp))).trans ((World.cell?_alloc_lt _ _ _ (lt_of_cell i0)).trans i0)
        have j1 : w6.cell? ⟨B, 1, none⟩ = some (.int .u32 3) := by
          first
            | exact (hb6.cell (lt_of_cell i1)).trans i1
            | exact (hb6.cell (Nat.lt_of_lt_of_le (lt_of_cell i1) (by simp))).trans ((World.cell?_alloc_lt _ _ _ (lt_of_cell i1)).trans i1)
        have jl : B < w5.heap.size := lt_of_cell i0
        have jx : X < w6.heap.size := lt_of_cell x0
        have hI := hH.2.2
        clear hH
        go_wp2_with fail
        go_meet
        first
          | exact idxA hI x0 x1 x2 x3 j0 j1
          | (refine idxS hI x0 x1 x2 x3 j0 j1 ?_ ?_ ?_ ?_ <;> first | omega | exact g6.1 | exact g6.2.1)
    case rest =>
      clear hS
      obtain ⟨g, X, B, rfl, y0, y1, D1, x0, x1, x2, x3, b0, b1⟩ := hcut
      have D := D0.trans (D1.mono D0.size)
      have E1 := C3.trans (D.mono C3.size)
      have G : Given wc P Q S X B (kindOf a0) a2 a3 a1 := ⟨(D.cell (lt_of_cell p1)).trans p1, (D.cell (lt_of_cell p2)).trans p2, (D.cell (lt_of_cell s1)).trans s1, (D.cell (lt_of_cell s2)).trans s2, (D.cell (lt_of_cell q1)).trans q1, x0, x1, x2, x3⟩
      replace t0 := (D1.cell (lt_of_cell t0)).trans t0
      replace t1 := (D1.cell (lt_of_cell t1)).trans t1
      have hVs2 : w3.heap.size < wc.heap.size := Nat.lt_of_lt_of_le hVs' D1.size
      have hgl : g < wc.heap.size := lt_of_cell y0
      clear p1 p2 s1 s2 q0 q1 D D0 D1 hVs' x0 x1 x2 x3 C3
      go_wp2_with fail
      go_at_call 16
      refine (zzExtract P Q S X B (kindOf a0) a2 a3 a4 a1 hk.out wc G).mono ?_
      rintro e w7 ⟨rfl, B7⟩
      replace G := G.below B7
      replace b0 := (B7.cell (lt_of_cell b0)).trans b0
      replace b1 := (B7.cell (lt_of_cell b1)).trans b1
      replace t0 := (B7.cell (lt_of_cell t0)).trans t0
      replace t1 := (B7.cell (lt_of_cell t1)).trans t1
      replace E1 := E1.trans (B7.mono E1.size)
      have hVs3 : w3.heap.size < w7.heap.size := Nat.lt_of_lt_of_le hVs2 B7.size
      clear B7 y0 y1 hVs2 hgl
      cases a1
      · simp only [cond_false, no]
        go_upto_region 10 with fail
        generalize hV : ((w7.alloc (.cells #[.nilIface, .int .i32 0] 39)).alloc (.cells #[.int .i32 0] 31)) = V2
        have D0 : Below w7.heap.size w7 V2 := by subst hV; exact ((Below.refl _ _).alloc (Nat.le_refl _) _).alloc (by simp) _
        clear hV
        replace t0 := (D0.cell (lt_of_cell t0)).trans t0
        replace t1 := (D0.cell (lt_of_cell t1)).trans t1
        have hVs' : w3.heap.size < V2.heap.size := Nat.lt_of_lt_of_le hVs3 D0.size
        replace G := G.below D0
        replace E1 := E1.trans (D0.mono E1.size)
        clear D0 hVs3 b0 b1
        have hS := And.intro t0 (And.intro t1 (Below.refl V2.heap.size V2))
        go_cut [20] (fun sx wx => IdxAt V2 Q a2 a3 a5 sx wx)
        case first =>
          go_region_held3 (fun w' => w'.cell? ⟨w3.heap.size, 0, none⟩ = some (.iface 40 (.pointer (some ⟨Q, 0, none⟩))) ∧ w'.cell? ⟨w3.heap.size, 1, none⟩ = some (.int .i32 a3) ∧ Below V2.heap.size V2 w')
            (first | exact hS | exact keep2 (keepA hS _) (Below.refl _ _).drew | (refine keepA ?_ _; assumption) | (refine keepS ?_ ⟨hVs', hVs', ?_⟩ _ _; assumption; omega) | (refine keep2 (by assumption) ?_; first | assumption | exact (Below.refl _ _).drew | exact below_drewN (Below.refl _ _) _) | exact keepO (by assumption) ⟨hVs', hVs', by omega⟩ _)
            (first | (go_at_call 13; refine (ref _ _).mono ?_; rintro e w4 ⟨rfl, hb4⟩; (have z4 := hb4.size); (try simp at z4); (have l4 := ltOf hb4); (try (have g4 := new2 hb4)); (obtain ⟨hc4, hf4⟩ := bcell hb4))
                   | (go_at_call 15; refine (identExpr _ _ _ _).mono ?_; rintro e w5 ⟨B, hB5, rfl, i0, i1, hb5⟩; (have z5 := hb5.size); (try simp at z5); (try simp at hB5); (have l5 := ltOf hb5); (first | (have g5 := carry2 hb5 g4) | (have g5 := new2' hb5) | skip); (obtain ⟨hc5, hf5⟩ := bcell hb5))
                   | (go_at_call 14; refine (indexExpr _ _ _ _ _ _ _ _).mono ?_; rintro e w6 ⟨X, hX6, rfl, x0, x1, x2, x3, hb6⟩; (have z6 := hb6.size); (try simp at z6); (try simp at hX6); (have l6 := ltOf hb6); (first | (have g6 := carry2 hb6 g5) | (have g6 := new2' hb6) | skip); (obtain ⟨hc6, hf6⟩ := bcell hb6)))
          all_goals
            rename_i hH
            have j0 : w6.cell? ⟨B, 0, none⟩ = some (.int .u32 0) := by
              first
                | exact (hb6.cell (lt_of_cell i0)).trans i0
                | exact (hb6.cell (Nat.lt_of_lt_of_le (lt_of_cell i0) (by simp))).trans ((World.cell?_alloc_lt _ _ _ (lt_of_cell i0)).trans i0)
            have j1 : w6.cell? ⟨B, 1, none⟩ = some (.int .u32 3) := by
              first
                | exact (hb6.cell (lt_of_cell i1)).trans i1
                | exact (hb6.cell (Nat.lt_of_lt_of_le (lt_of_cell i1) (by simp))).trans ((World.cell?_alloc_lt _ _ _ (lt_of_cell i1)).trans i1)
            have jl : B < w5.heap.size := lt_of_cell i0
            have jx : X < w6.heap.size := lt_of_cell x0
            have hI := hH.2.2
            clear hH
            go_wp2_with fail
            go_meet
            first
              | exact idxA hI x0 x1 x2 x3 j0 j1
              | (refine idxS hI x0 x1 x2 x3 j0 j1 ?_ ?_ ?_ ?_ <;> first | omega | exact g6.1 | exact g6.2.1)
        case rest =>
          clear hS
          obtain ⟨g', X', B', rfl, y0, y1, D1, x0, x1, x2, x3, b0, b1⟩ := hcut
          have G2 := G.below D1
          have G3 : Given wc P Q S X' B' (kindOf a0) a2 a3 false := ⟨G2.p1, G2.p2, G2.s1, G2.s2, G2.q1, x0, x1, x2, x3⟩
          replace E1 := E1.trans (D1.mono E1.size)
          have hgl : g' < wc.heap.size := lt_of_cell y0
          clear G G2 D1 x0 x1 x2 x3 b0 b1 t0 t1 hVs'
          go_wp2_with fail
          go_at_call 16
          refine (zzExtract P Q S X' B' (kindOf a0) a2 a3 a5 false hk.out wc G3).mono ?_
          rintro e w8 ⟨rfl, B8⟩
          replace E1 := E1.trans (B8.mono E1.size)
          clear B8 G3 y0 y1
          simp only [cond_false, no]
          go_wp2_with fail
          go_ret
          exact ⟨rfl, (E1.alloc E1.size _).alloc (by have := E1.size; simp; omega) _⟩
      · simp only [cond_true, yes]
        have nq := nqPtr ⟨Q, 0, none⟩
        have eq := eqPtr ⟨Q, 0, none⟩
        have hBl : B < w7.heap.size := lt_of_cell b0
        go_wp2_with fail
        go_at_call 17
        generalize hV : ((w7.alloc (.cells #[.iface 64 (.pointer (some ⟨B, 0, none⟩)), .int .i32 a2] 39)).alloc (.cells #[.int .i32 a3] 31)) = V2
        have D0 : Below w7.heap.size w7 V2 := by subst hV; exact ((Below.refl _ _).alloc (Nat.le_refl _) _).alloc (by simp) _
        have k0 : V2.cell? ⟨w7.heap.size, 0, none⟩ = some (.iface 64 (.pointer (some ⟨B, 0, none⟩))) := by subst hV; go_simp
        have k1 : V2.cell? ⟨w7.heap.size, 1, none⟩ = some (.int .i32 a2) := by subst hV; go_simp
        have k2 : V2.cell? ⟨w7.heap.size + 1, 0, none⟩ = some (.int .i32 a3) := by subst hV; go_simp
        clear hV
        replace G := G.below D0
        replace b0 := (D0.cell (lt_of_cell b0)).trans b0
        replace b1 := (D0.cell (lt_of_cell b1)).trans b1
        replace E1 := E1.trans (D0.mono E1.size)
        clear D0 t0 t1 hVs3 hBl
        refine (identAt B a2 _ b0 b1).mono ?_
        rintro e w8 ⟨rfl, B8⟩
        replace G := G.below B8
        replace b0 := (B8.cell (lt_of_cell b0)).trans b0
        replace b1 := (B8.cell (lt_of_cell b1)).trans b1
        replace k0 := (B8.cell (lt_of_cell k0)).trans k0
        replace k1 := (B8.cell (lt_of_cell k1)).trans k1
        replace k2 := (B8.cell (lt_of_cell k2)).trans k2
        replace E1 := E1.trans (B8.mono E1.size)
        clear B8
        have m0 : w7.heap.size < w8.heap.size := lt_of_cell k0
        have m2 : w7.heap.size + 1 < w8.heap.size := lt_of_cell k2
        go_upto_region 15 with fail
        have hS := And.intro k0 (And.intro k1 (And.intro k2 (Below.refl w8.heap.size w8)))
        go_cut [24] (fun sx wx => IdxAt2 w8 B Q a2 a3 a5 sx wx)
        case first =>
          go_region_held3 (fun w' => w'.cell? ⟨w7.heap.size, 0, none⟩ = some (.iface 64 (.pointer (some ⟨B, 0, none⟩))) ∧ w'.cell? ⟨w7.heap.size, 1, none⟩ = some (.int .i32 a2) ∧ w'.cell? ⟨w7.heap.size + 1, 0, none⟩ = some (.int .i32 a3) ∧ Below w8.heap.size w8 w')
            (first | exact hS | exact keep3x (keepA3 hS _) (Below.refl _ _).drew | (refine keepA3 ?_ _; assumption) | (refine keepS3 ?_ ⟨m0, m0, m2, ?_⟩ _ _; assumption; omega) | (refine keep3x (by assumption) ?_; first | assumption | exact (Below.refl _ _).drew | exact below_drewN (Below.refl _ _) _) | exact keepO3 (by assumption) ⟨m0, m0, m2, by omega⟩ _)
            (first | (go_at_call 18; refine (privateOf _ _ _).mono ?_; rintro e w4 ⟨rfl, hb4⟩; (have z4 := hb4.size); (try simp at z4); (have l4 := ltOf hb4); (try (have g4 := new2 hb4)); (obtain ⟨hc4, hf4⟩ := bcell hb4))
                   | (go_at_call 14; refine (indexExpr _ _ _ _ _ _ _ _).mono ?_; rintro e w6 ⟨X, hX6, rfl, x0, x1, x2, x3, hb6⟩; (have z6 := hb6.size); (try simp at z6); (try simp at hX6); (have l6 := ltOf hb6); (first | (have g6 := carry2 hb6 g4) | (have g6 := new2' hb6) | skip); (obtain ⟨hc6, hf6⟩ := bcell hb6)))
          all_goals
            rename_i hH
            have jx : X < w6.heap.size := lt_of_cell x0
            have hI := hH.2.2.2
            clear hH
            go_wp2_with fail
            go_meet
            first
              | exact idxA2 hI x0 x1 x2 x3
              | (refine idxS2 hI x0 x1 x2 x3 ?_ ?_ ?_ <;> first | omega | exact g6.1 | exact g6.2.1)
        case rest =>
          clear hS
          obtain ⟨g', X', rfl, y0, y1, D1, x0, x1, x2, x3⟩ := hcut
          have G2 := G.below D1
          have G3 : Given wc P Q S X' B (kindOf a0) a2 a3 true := ⟨G2.p1, G2.p2, G2.s1, G2.s2, G2.q1, x0, x1, x2, x3⟩
          replace E1 := E1.trans (D1.mono E1.size)
          replace b0 := (D1.cell (lt_of_cell b0)).trans b0
          replace b1 := (D1.cell (lt_of_cell b1)).trans b1
          replace k2 := (D1.cell (lt_of_cell k2)).trans k2
          have hgl : g' < wc.heap.size := lt_of_cell y0
          clear G G2 D1 x0 x1 x2 x3 k0 k1 m0 m2
          go_wp2_with fail
          go_at_call 16
          refine (zzExtract P Q S X' B (kindOf a0) a2 a3 a5 true hk.out wc G3).mono ?_
          rintro e w10 ⟨rfl, B8⟩
          replace b0 := (B8.cell (lt_of_cell b0)).trans b0
          replace b1 := (B8.cell (lt_of_cell b1)).trans b1
          replace k2 := (B8.cell (lt_of_cell k2)).trans k2
          replace E1 := E1.trans (B8.mono E1.size)
          clear B8 G3 y0 y1
          have hBl : B < w10.heap.size := lt_of_cell b0
          have m2 : w7.heap.size + 1 < w10.heap.size := lt_of_cell k2
          have m3 : w7.heap.size + 1 < w10.heap.size + 1 := by omega
          simp only [cond_true, yes]
          go_wp2_with fail
          go_at_call 17
          generalize hV : ((w10.alloc (.cells #[.iface 64 (.pointer (some ⟨B, 0, none⟩)), .int .i32 a2] 39)).alloc (.cells #[.int .i32 a3] 31)) = V3
          have D0 : Below w10.heap.size w10 V3 := by subst hV; exact ((Below.refl _ _).alloc (Nat.le_refl _) _).alloc (by simp) _
          clear hV
          refine (identAt B a2 _ ((D0.cell (lt_of_cell b0)).trans b0) ((D0.cell (lt_of_cell b1)).trans b1)).mono ?_
          rintro e w11 ⟨rfl, B8⟩
          have E2 := E1.trans (D0.mono E1.size)
          have E3 := E2.trans (B8.mono E2.size)
          clear E1 E2 D0 B8 b0 b1 k2
          go_wp2_with fail
          go_ret
          exact ⟨rfl, E3⟩
  · go_enter Try.func4, Try.ntmps4
    go_wp2
    go_ret
    exact ⟨rfl, Below.refl _ _⟩
end Go.Proofs.Ytihpdmoonddjmaa.fnExtractPrivateIndexRoundTrip
