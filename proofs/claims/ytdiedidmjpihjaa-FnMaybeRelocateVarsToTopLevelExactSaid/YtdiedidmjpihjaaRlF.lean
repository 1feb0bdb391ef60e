/-
  maybeRelocateVarsToTopLevel where it refuses. Condition: lengths.
-/
import Derived.Test.YtdiedidmjpihjaaRlE
import Derived.Laws.ResultCell
namespace Go.Proofs.Ytdiedidmjpihjaa.Rl
open Go.RowKit Go.ChangeShapes Go.WideShapes Go.ChangeAt Go.Proofs.Ytdiedidmjpihjaa.Ints

/-- What the parser says of itself: the mode, the scopes, the depth. -/
structure Hd (P cur mo : Nat) (m d : Int) (w : World) : Prop where
  c1 : w.cell? ⟨P, 34, none⟩ = some (.int .u8 m)
  c2 : w.cell? ⟨P, 104, none⟩ = some (.pointer (some ⟨cur, 0, none⟩))
  c3 : w.cell? ⟨P, 187, none⟩ = some (.pointer (some ⟨mo, 0, none⟩))
  c4 : w.cell? ⟨P, 339, none⟩ = some (.int .i64 d)
theorem Hd.below {P cur mo : Nat} {m d : Int} {w w1 : World} (h : Hd P cur mo m d w) (hb : Below w.heap.size w w1) : Hd P cur mo m d w1 :=
  ⟨(hb.cell (lt_of_cell h.c1)).trans h.c1, (hb.cell (lt_of_cell h.c2)).trans h.c2, (hb.cell (lt_of_cell h.c3)).trans h.c3, (hb.cell (lt_of_cell h.c4)).trans h.c4⟩
def Refu (w : World) (e : Ending) (w' : World) : Prop := e = .returned (.tuple #[.agg #[.nilIface, .int .i32 0], .bool false]) ∧ Below w.heap.size w w'
theorem two_alloc (w : World) (x y : Obj) : Below w.heap.size w ((w.alloc x).alloc y) := ((Below.refl _ _).alloc (Nat.le_refl _) _).alloc (by simp) _
theorem belowN {B : Nat} {a w : World} (h : Below B a w) (n : Nat) : Below B a (w.drewN n) := ⟨h.os, h.tape, h.output, h.size, h.block⟩
theorem res2 {Pg : Program} {fn : Func} {p u : Tmp} {ty : TypeId} (h : fn.results = #[.cell p ty, .tmp u]) (tmps : Array Value) (w : World) (g : Nat) (t : TypeId) (cs : Array Value) (fr : Nat × Nat) (d : TypeDesc) (v : Value)
    (hp : tmps.getD p undef = .pointer (some ⟨g, 0, none⟩)) (hv : tmps.getD u undef = v) (hg : w.heap[g]? = some (.cells cs t fr))
    (hu : Pg.underlying ty = some d) (hd : (match d with | .struct _ | .array _ _ => true | _ => false) = true) (hi : (Pg.info? ty).map (·.size) = some cs.size) :
    (results fn tmps).run Pg w = .ok (.tuple #[.agg cs, v]) w := by
  rw [results_cell_tmp h, hp, hv]
  simp [asAddr, run_loadVar_row w g t ty cs fr d hg hu hd hi, Result.andThen]
theorem refu_fin {w W : World} (hb : Below w.heap.size w W) (hR : W.heap[w.heap.size + 1]? = some (.cells #[.nilIface, .int .i32 0] 35 (0, 0))) :
    ((W.setCell ⟨w.heap.size + 1, 0, none⟩ .nilIface).setCell ⟨w.heap.size + 1, 1, none⟩ (.int .i32 0)).heap[w.heap.size + 1]? = some (.cells #[.nilIface, .int .i32 0] 35 (0, 0)) ∧
      Below w.heap.size w ((W.setCell ⟨w.heap.size + 1, 0, none⟩ .nilIface).setCell ⟨w.heap.size + 1, 1, none⟩ (.int .i32 0)) :=
  ⟨two_set0 hR, (hb.setCell (p := ⟨w.heap.size + 1, 0, none⟩) (by show w.heap.size ≤ w.heap.size + 1; omega) _).setCell (p := ⟨w.heap.size + 1, 1, none⟩) (by show w.heap.size ≤ w.heap.size + 1; omega) _⟩
set_option maxRecDepth 100000 in
set_option maxHeartbeats 4000000 in
theorem refuse_mode (P cur mo : Nat) (m d : Int) (ds md : Value) (w : World) (h : Hd P cur mo m d w) (hm : m = 0 ∨ m = 1) : Calls Try.prog 13 #[.pointer (some ⟨P, 0, none⟩), ds, md] w (Refu w) := by
  generalize hW0 : ((w.alloc (.cells #[.pointer (some ⟨P, 0, none⟩)] 26)).alloc (.cells #[.nilIface, .int .i32 0] 35)) = W
  have b0 : Below w.heap.size w W := hW0 ▸ two_alloc _ _ _
  have h1 := h.below b0
  obtain ⟨c1, c2, c3, c4⟩ := h1
  have hb0 : W.heap[w.heap.size]? = some (.cells #[.pointer (some ⟨P, 0, none⟩)] 26 (0, 0)) := by
    rw [← hW0, Below.heap_alloc _ _ _ (by simp)]
    exact heap_alloc_new _ _
  have hb1 : W.heap[w.heap.size + 1]? = some (.cells #[.nilIface, .int .i32 0] 35 (0, 0)) := by
    have := heap_alloc_new (w.alloc (.cells #[.pointer (some ⟨P, 0, none⟩)] 26)) (.cells #[.nilIface, .int .i32 0] 35)
    rw [hW0] at this
    simpa using this
  have z0 : W.cell? ⟨w.heap.size, 0, none⟩ = some (.pointer (some ⟨P, 0, none⟩)) := cell_of_row _ _ 0 _ _ _ hb0
  have hm2 : m ≠ 2 := by omega
  replace b0 := Lib.hid b0
  replace hb0 := Lib.hid hb0
  replace hb1 := Lib.hid hb1
  replace h := Lib.hid h
  go_enter Try.func13, Try.ntmps13
  go_upto_region 1 with fail
  replace hW0 := Lib.hid hW0
  go_quiet (fail)
  have hb2 : (W.drewN nq).heap[w.heap.size + 1]? = some (.cells #[.nilIface, .int .i32 0] 35 (0, 0)) := hb1.out
  have b2 := belowN b0.out nq
  generalize W.drewN nq = W2 at *
  have y4 : W2.cell? ⟨w.heap.size + 1, 0, none⟩ = some .nilIface := cell_of_row _ _ 0 _ _ _ hb2
  have y5 : W2.cell? ⟨w.heap.size + 1, 1, none⟩ = some (.int .i32 0) := cell_of_row _ _ 1 _ _ _ hb2
  have y6 : W2.frozen? ⟨w.heap.size + 1, 0, none⟩ = false := frozen_of_row _ _ 0 _ _ hb2
  have y7 : W2.frozen? ⟨w.heap.size + 1, 1, none⟩ = false := frozen_of_row _ _ 1 _ _ hb2
  replace hb2 := Lib.hid hb2
  replace b2 := Lib.hid b2
  go_wp2_with fail
  obtain ⟨f1, f2⟩ := refu_fin b2.out hb2.out
  exact bodyPost_ret (v := .tuple #[.agg #[.nilIface, .int .i32 0], .bool false]) (res2 rfl _ _ (w.heap.size + 1) 35 #[.nilIface, .int .i32 0] (0, 0) _ _ (by kernel_rfl) (by kernel_rfl) f1 (by rw [Try.underlying35]) rfl (by kernel_rfl)) rfl ⟨rfl, f2⟩
end Go.Proofs.Ytdiedidmjpihjaa.Rl
