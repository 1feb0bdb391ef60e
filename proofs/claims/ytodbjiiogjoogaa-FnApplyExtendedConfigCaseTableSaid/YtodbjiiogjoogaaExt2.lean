/-
  applyExtendedConfig. Condition: none.
-/
import Derived.Test.YtodbjiiogjoogaaExt
import Derived.StillTailTactics
namespace Go.Proofs.Ytodbjiiogjoogaa.Ext
open Go.RowKit Go.ChangeShapes Go.WideShapes Go.ChangeAt Go.Proofs.Ytodbjiiogjoogaa.Ints

def orElse (b d : Option Addr) : Option Addr := if b.isSome then b else d
def pk {α : Type} (n : Int) (x y : α) : α := if 0 < n then x else y
def pf (o : Option Addr) (x y : ByteArray) : ByteArray := if o.isSome then x else y
/-- While the config at D is extended: both configs, and what is kept. -/
structure Ap (w wx : World) (D X : Nat) (da : ByteArray) (U : Option Addr) (f : ByteArray) (P : Option Addr) (l : ByteArray) (n : Int) (S A : Option Addr) (ba : ByteArray) (bU : Option Addr) (bf : ByteArray) (bP : Option Addr) (bl : ByteArray) (bn : Int) (bS bA : Option Addr) : Prop where
  own : At wx D da U f P l n S A
  base : At wx X ba bU bf bP bl bn bS bA
  below : Below D w wx
  keep : ∀ b, b < w.heap.size → b ≠ D → wx.heap[b]? = w.heap[b]?
section
variable {w wx : World} {D X : Nat} {da f l ba bf bl : ByteArray} {U P S A bU bP bS bA : Option Addr} {n bn : Int}
theorem Ap.set1 (h : Ap w wx D X da U f P l n S A ba bU bf bP bl bn bS bA) (hX : X ≠ D) (k : Nat) (v : Value) {a2 f2 l2 : ByteArray} {n2 : Int} {U2 P2 S2 A2 : Option Addr} (h2 : At (wx.setCell ⟨D, k, none⟩ v) D a2 U2 f2 P2 l2 n2 S2 A2) : Ap w (wx.setCell ⟨D, k, none⟩ v) D X a2 U2 f2 P2 l2 n2 S2 A2 ba bU bf bP bl bn bS bA :=
  ⟨h2, World.rowIs.of_block h.base (Go.Deep.blk_setCell_other _ _ _ _ hX), h.below.setCell (p := ⟨D, k, none⟩) (Nat.le_refl D) v, fun b h1 h2 => (Go.Deep.blk_setCell_other _ _ _ _ h2).trans (h.keep b h1 h2)⟩
theorem Ap.next {wy : World} (h : Ap w wx D X da U f P l n S A ba bU bf bP bl bn bS bA) (hb : Below wx.heap.size wx wy) : Ap w wy D X da U f P l n S A ba bU bf bP bl bn bS bA :=
  ⟨World.rowIs.of_block h.own (hb.block _ (World.rowIs.lt h.own)), World.rowIs.of_block h.base (hb.block _ (World.rowIs.lt h.base)), h.below.trans (hb.mono (Nat.le_of_lt (World.rowIs.lt h.own))), fun b h1 h2 => (hb.block b (Nat.lt_of_lt_of_le h1 h.below.size)).trans (h.keep b h1 h2)⟩
theorem Ap.putS (h : Ap w wx D X da U f P l n S A ba bU bf bP bl bn bS bA) (hX : X ≠ D) (V : Option Addr) : Ap w (wx.setCell ⟨D, 17, none⟩ (.pointer V)) D X da U f P l n V A ba bU bf bP bl bn bS bA :=
  h.set1 hX _ _ (World.rowIs.congr (World.rowIs.set h.own 17 _) (all29 ⟨rfl, rfl, rfl, rfl, rfl, rfl, rfl, rfl, rfl, rfl, rfl, rfl, rfl, rfl, rfl, rfl, rfl, rfl, rfl, rfl, rfl, rfl, rfl, rfl, rfl, rfl, rfl, rfl, rfl⟩))
theorem Ap.putA (h : Ap w wx D X da U f P l n S A ba bU bf bP bl bn bS bA) (hX : X ≠ D) (V : Option Addr) : Ap w (wx.setCell ⟨D, 18, none⟩ (.pointer V)) D X da U f P l n S V ba bU bf bP bl bn bS bA :=
  h.set1 hX _ _ (World.rowIs.congr (World.rowIs.set h.own 18 _) (all29 ⟨rfl, rfl, rfl, rfl, rfl, rfl, rfl, rfl, rfl, rfl, rfl, rfl, rfl, rfl, rfl, rfl, rfl, rfl, rfl, rfl, rfl, rfl, rfl, rfl, rfl, rfl, rfl, rfl, rfl⟩))
theorem Ap.putU (h : Ap w wx D X da U f P l n S A ba bU bf bP bl bn bS bA) (hX : X ≠ D) (V : Option Addr) : Ap w (wx.setCell ⟨D, 1, none⟩ (.pointer V)) D X da V f P l n S A ba bU bf bP bl bn bS bA :=
  h.set1 hX _ _ (World.rowIs.congr (World.rowIs.set h.own 1 _) (all29 ⟨rfl, rfl, rfl, rfl, rfl, rfl, rfl, rfl, rfl, rfl, rfl, rfl, rfl, rfl, rfl, rfl, rfl, rfl, rfl, rfl, rfl, rfl, rfl, rfl, rfl, rfl, rfl, rfl, rfl⟩))
theorem Ap.putP (h : Ap w wx D X da U f P l n S A ba bU bf bP bl bn bS bA) (hX : X ≠ D) (V : Option Addr) : Ap w (wx.setCell ⟨D, 3, none⟩ (.pointer V)) D X da U f V l n S A ba bU bf bP bl bn bS bA :=
  h.set1 hX _ _ (World.rowIs.congr (World.rowIs.set h.own 3 _) (all29 ⟨rfl, rfl, rfl, rfl, rfl, rfl, rfl, rfl, rfl, rfl, rfl, rfl, rfl, rfl, rfl, rfl, rfl, rfl, rfl, rfl, rfl, rfl, rfl, rfl, rfl, rfl, rfl, rfl, rfl⟩))
theorem Ap.putF (h : Ap w wx D X da U f P l n S A ba bU bf bP bl bn bS bA) (hX : X ≠ D) (V : ByteArray) : Ap w (wx.setCell ⟨D, 2, none⟩ (.string V)) D X da U V P l n S A ba bU bf bP bl bn bS bA :=
  h.set1 hX _ _ (World.rowIs.congr (World.rowIs.set h.own 2 _) (all29 ⟨rfl, rfl, rfl, rfl, rfl, rfl, rfl, rfl, rfl, rfl, rfl, rfl, rfl, rfl, rfl, rfl, rfl, rfl, rfl, rfl, rfl, rfl, rfl, rfl, rfl, rfl, rfl, rfl, rfl⟩))
set_option maxHeartbeats 1000000 in
theorem Ap.putK (h : Ap w wx D X da U f P l n S A ba bU bf bP bl bn bS bA) (hX : X ≠ D) : Ap w ((((((((((((((wx).setCell ⟨D, 4, none⟩ (.string bl)).setCell ⟨D, 5, none⟩ (.string ⟨#[]⟩)).setCell ⟨D, 6, none⟩ (.string ⟨#[]⟩)).setCell ⟨D, 7, none⟩ (.string ⟨#[]⟩)).setCell ⟨D, 8, none⟩ (.string ⟨#[]⟩)).setCell ⟨D, 9, none⟩ (.string ⟨#[]⟩)).setCell ⟨D, 10, none⟩ (.string ⟨#[]⟩)).setCell ⟨D, 11, none⟩ (.string ⟨#[]⟩)).setCell ⟨D, 12, none⟩ (.string ⟨#[]⟩)).setCell ⟨D, 13, none⟩ (.int .u8 0)).setCell ⟨D, 14, none⟩ (.int .u32 0)).setCell ⟨D, 15, none⟩ (.int .i32 0)).setCell ⟨D, 16, none⟩ (.int .i32 bn)) D X da U f P bl bn S A ba bU bf bP bl bn bS bA :=
  ⟨World.rowIs.congr ((((((((((((((h.own).set 4 _).set 5 _).set 6 _).set 7 _).set 8 _).set 9 _).set 10 _).set 11 _).set 12 _).set 13 _).set 14 _).set 15 _).set 16 _) (all29 ⟨rfl, rfl, rfl, rfl, rfl, rfl, rfl, rfl, rfl, rfl, rfl, rfl, rfl, rfl, rfl, rfl, rfl, rfl, rfl, rfl, rfl, rfl, rfl, rfl, rfl, rfl, rfl, rfl, rfl⟩), World.rowIs.of_block h.base ((Go.Deep.blk_setCell_other _ _ _ _ hX).trans ((Go.Deep.blk_setCell_other _ _ _ _ hX).trans ((Go.Deep.blk_setCell_other _ _ _ _ hX).trans ((Go.Deep.blk_setCell_other _ _ _ _ hX).trans ((Go.Deep.blk_setCell_other _ _ _ _ hX).trans ((Go.Deep.blk_setCell_other _ _ _ _ hX).trans ((Go.Deep.blk_setCell_other _ _ _ _ hX).trans ((Go.Deep.blk_setCell_other _ _ _ _ hX).trans ((Go.Deep.blk_setCell_other _ _ _ _ hX).trans ((Go.Deep.blk_setCell_other _ _ _ _ hX).trans ((Go.Deep.blk_setCell_other _ _ _ _ hX).trans ((Go.Deep.blk_setCell_other _ _ _ _ hX).trans (Go.Deep.blk_setCell_other _ _ _ _ hX))))))))))))), (((((((((((((h.below).setCell (p := ⟨D, 4, none⟩) (Nat.le_refl D) _).setCell (p := ⟨D, 5, none⟩) (Nat.le_refl D) _).setCell (p := ⟨D, 6, none⟩) (Nat.le_refl D) _).setCell (p := ⟨D, 7, none⟩) (Nat.le_refl D) _).setCell (p := ⟨D, 8, none⟩) (Nat.le_refl D) _).setCell (p := ⟨D, 9, none⟩) (Nat.le_refl D) _).setCell (p := ⟨D, 10, none⟩) (Nat.le_refl D) _).setCell (p := ⟨D, 11, none⟩) (Nat.le_refl D) _).setCell (p := ⟨D, 12, none⟩) (Nat.le_refl D) _).setCell (p := ⟨D, 13, none⟩) (Nat.le_refl D) _).setCell (p := ⟨D, 14, none⟩) (Nat.le_refl D) _).setCell (p := ⟨D, 15, none⟩) (Nat.le_refl D) _).setCell (p := ⟨D, 16, none⟩) (Nat.le_refl D) _, fun b h1 h2 => (Go.Deep.blk_setCell_other _ _ _ _ h2).trans ((Go.Deep.blk_setCell_other _ _ _ _ h2).trans ((Go.Deep.blk_setCell_other _ _ _ _ h2).trans ((Go.Deep.blk_setCell_other _ _ _ _ h2).trans ((Go.Deep.blk_setCell_other _ _ _ _ h2).trans ((Go.Deep.blk_setCell_other _ _ _ _ h2).trans ((Go.Deep.blk_setCell_other _ _ _ _ h2).trans ((Go.Deep.blk_setCell_other _ _ _ _ h2).trans ((Go.Deep.blk_setCell_other _ _ _ _ h2).trans ((Go.Deep.blk_setCell_other _ _ _ _ h2).trans ((Go.Deep.blk_setCell_other _ _ _ _ h2).trans ((Go.Deep.blk_setCell_other _ _ _ _ h2).trans ((Go.Deep.blk_setCell_other _ _ _ _ h2).trans (h.keep b h1 h2)))))))))))))⟩
end
theorem eql_nilS (t e : TypeId) (a : Option Addr) (l c : Nat) (h : Try.prog.underlying t = some (.slice e)) (w : World) : (binOp .neq t (.slice a l c) (.slice none 0 0)).run Try.prog w = .ok (.bool (!a.isNone)) w := by
  simp [binOp, run_equal_slice_nil w t e a l c h]
set_option maxRecDepth 100000 in
theorem jsx (D : Nat) (w : World) : Calls Try.prog 13 #[.pointer (some ⟨D, 19, none⟩), .agg #[.slice none 0 0, .slice none 0 0, .pointer none, .int .u8 0]] w fun e w' => e = .returned (.tuple #[]) ∧ Below w.heap.size w w' := by
  have hnil := eql_nilS 44 9 none 0 0 Try.underlying44
  go_enter Try.func13, Try.ntmps13
  go_wp2_with fail
  go_end0
  exact ⟨rfl, (Below.refl _ _).alloc (Nat.le_refl _) _⟩
set_option maxRecDepth 100000 in
theorem settings (D : Nat) (w : World) : Calls Try.prog 14 #[.pointer (some ⟨D, 23, none⟩), .agg #[.int .u8 0, .int .u8 0, .int .u8 0, .int .u8 0, .int .u8 0, .int .u8 0]] w fun e w' => e = .returned (.tuple #[]) ∧ Below w.heap.size w w' := by
  go_enter Try.func14, Try.ntmps14
  go_wp2_with fail
  go_end0
  exact ⟨rfl, (Below.refl _ _).alloc (Nat.le_refl _) _⟩
theorem atAlloc2 (w : World) (a : ByteArray) (U : Option Addr) (f : ByteArray) (P : Option Addr) (l : ByteArray) (n : Int) (S A : Option Addr) : At (w.alloc (.cells (C a U f P l n S A) 54)) w.heap.size a U f P l n S A :=
  (World.rowIs_alloc w (C a U f P l n S A) 54 (cf a U f P l n S A) (fun i hi => by unfold cf; rw [Array.getD_eq_getD_getElem?, Array.getElem?_eq_getElem hi]; rfl) : World.rowIs _ w.heap.size 54 29 _)
set_option maxRecDepth 100000 in
set_option maxHeartbeats 2000000 in
theorem inner (D : Nat) (da df dl ba bf bl : ByteArray) (dn bn : Int) (dU dP dS dA bU bP bS bA : Option Addr) (w : World) (h : At w D da dU df dP dl dn dS dA) :
    Calls Try.prog 12 #[.pointer (some ⟨D, 0, none⟩), .agg (C ba bU bf bP bl bn bS bA)] w fun e w' => e = .returned (.tuple #[]) ∧
      Ap w w' D w.heap.size da (orElse bU dU) (pf bP bf df) (orElse bP dP) (pk bn bl dl) (pk bn bn dn) (orElse bS dS) (orElse bA dA) ba bU bf bP bl bn bS bA := by
  have hD := World.rowIs.lt h
  have h1 : Ap w (w.alloc (.cells (C ba bU bf bP bl bn bS bA) 54)) D w.heap.size da dU df dP dl dn dS dA ba bU bf bP bl bn bS bA :=
    ⟨World.rowIs.alloc h _, atAlloc2 w ba bU bf bP bl bn bS bA, (Below.refl _ _).alloc (Nat.le_of_lt hD) _, fun b h1 _ => Go.Deep.blk_alloc_lt _ _ b h1⟩
  have hX : w.heap.size ≠ D := by omega
  unfold C at h1 ⊢
  replace hX := Lib.hid hX
  replace hD := Lib.hid hD
  clear h
  replace h1 := Lib.hid h1
  go_enter Try.func12, Try.ntmps12
  go_upto_region 1 with fail
  generalize (w.alloc _) = w1 at h1 ⊢
  generalize hz : w.heap.size = X at *
  replace hz := Lib.hid hz
  have gk : w1.cell? ⟨X, 16, none⟩ = some (.int .i32 bn) := World.rowIs.cell h1.out.base (i := 16) (by omega)
  go_upto_if 8 with fail
  go_cut [] (fun wx => Ap w wx D X da dU df dP (pk bn bl dl) (pk bn bn dn) dS dA ba bU bf bP bl bn bS bA)
  case first =>
    have gd4 : w1.cell? ⟨D, 4, none⟩ = some (.string dl) := World.rowIs.cell h1.out.own (i := 4) (by omega)
    have fd4 := World.rowIs.frozen h1.out.own 4
    have gx4 : w1.cell? ⟨X, 4, none⟩ = some (.string bl) := World.rowIs.cell h1.out.base (i := 4) (by omega)
    have gd5 : w1.cell? ⟨D, 5, none⟩ = some (.string ⟨#[]⟩) := World.rowIs.cell h1.out.own (i := 5) (by omega)
    have fd5 := World.rowIs.frozen h1.out.own 5
    have gx5 : w1.cell? ⟨X, 5, none⟩ = some (.string ⟨#[]⟩) := World.rowIs.cell h1.out.base (i := 5) (by omega)
    have gd6 : w1.cell? ⟨D, 6, none⟩ = some (.string ⟨#[]⟩) := World.rowIs.cell h1.out.own (i := 6) (by omega)
    have fd6 := World.rowIs.frozen h1.out.own 6
    have gx6 : w1.cell? ⟨X, 6, none⟩ = some (.string ⟨#[]⟩) := World.rowIs.cell h1.out.base (i := 6) (by omega)
    have gd7 : w1.cell? ⟨D, 7, none⟩ = some (.string ⟨#[]⟩) := World.rowIs.cell h1.out.own (i := 7) (by omega)
    have fd7 := World.rowIs.frozen h1.out.own 7
    have gx7 : w1.cell? ⟨X, 7, none⟩ = some (.string ⟨#[]⟩) := World.rowIs.cell h1.out.base (i := 7) (by omega)
    have gd8 : w1.cell? ⟨D, 8, none⟩ = some (.string ⟨#[]⟩) := World.rowIs.cell h1.out.own (i := 8) (by omega)
    have fd8 := World.rowIs.frozen h1.out.own 8
    have gx8 : w1.cell? ⟨X, 8, none⟩ = some (.string ⟨#[]⟩) := World.rowIs.cell h1.out.base (i := 8) (by omega)
    have gd9 : w1.cell? ⟨D, 9, none⟩ = some (.string ⟨#[]⟩) := World.rowIs.cell h1.out.own (i := 9) (by omega)
    have fd9 := World.rowIs.frozen h1.out.own 9
    have gx9 : w1.cell? ⟨X, 9, none⟩ = some (.string ⟨#[]⟩) := World.rowIs.cell h1.out.base (i := 9) (by omega)
    have gd10 : w1.cell? ⟨D, 10, none⟩ = some (.string ⟨#[]⟩) := World.rowIs.cell h1.out.own (i := 10) (by omega)
    have fd10 := World.rowIs.frozen h1.out.own 10
    have gx10 : w1.cell? ⟨X, 10, none⟩ = some (.string ⟨#[]⟩) := World.rowIs.cell h1.out.base (i := 10) (by omega)
    have gd11 : w1.cell? ⟨D, 11, none⟩ = some (.string ⟨#[]⟩) := World.rowIs.cell h1.out.own (i := 11) (by omega)
    have fd11 := World.rowIs.frozen h1.out.own 11
    have gx11 : w1.cell? ⟨X, 11, none⟩ = some (.string ⟨#[]⟩) := World.rowIs.cell h1.out.base (i := 11) (by omega)
    have gd12 : w1.cell? ⟨D, 12, none⟩ = some (.string ⟨#[]⟩) := World.rowIs.cell h1.out.own (i := 12) (by omega)
    have fd12 := World.rowIs.frozen h1.out.own 12
    have gx12 : w1.cell? ⟨X, 12, none⟩ = some (.string ⟨#[]⟩) := World.rowIs.cell h1.out.base (i := 12) (by omega)
    have gd13 : w1.cell? ⟨D, 13, none⟩ = some (.int .u8 0) := World.rowIs.cell h1.out.own (i := 13) (by omega)
    have fd13 := World.rowIs.frozen h1.out.own 13
    have gx13 : w1.cell? ⟨X, 13, none⟩ = some (.int .u8 0) := World.rowIs.cell h1.out.base (i := 13) (by omega)
    have gd14 : w1.cell? ⟨D, 14, none⟩ = some (.int .u32 0) := World.rowIs.cell h1.out.own (i := 14) (by omega)
    have fd14 := World.rowIs.frozen h1.out.own 14
    have gx14 : w1.cell? ⟨X, 14, none⟩ = some (.int .u32 0) := World.rowIs.cell h1.out.base (i := 14) (by omega)
    have gd15 : w1.cell? ⟨D, 15, none⟩ = some (.int .i32 0) := World.rowIs.cell h1.out.own (i := 15) (by omega)
    have fd15 := World.rowIs.frozen h1.out.own 15
    have gx15 : w1.cell? ⟨X, 15, none⟩ = some (.int .i32 0) := World.rowIs.cell h1.out.base (i := 15) (by omega)
    have gd16 : w1.cell? ⟨D, 16, none⟩ = some (.int .i32 dn) := World.rowIs.cell h1.out.own (i := 16) (by omega)
    have fd16 := World.rowIs.frozen h1.out.own 16
    by_cases hb : 0 < bn
    · have hq := Lib.hid (h1.out.putK hX.out)
      go_wp2_with fail
      go_meet
      rw [show pk bn bl dl = bl from if_pos hb, show pk bn bn dn = bn from if_pos hb]
      exact hq.out
    · go_wp2_with fail
      go_meet
      rw [show pk bn bl dl = dl from if_neg (by omega), show pk bn bn dn = dn from if_neg (by omega)]
      exact h1.out
  case rest =>
    replace hcut := Lib.hid hcut
    clear h1 gk
    obtain ⟨w2, rfl⟩ : ∃ W : World, W = wc := ⟨_, rfl⟩
    generalize hl2 : (pk bn bl dl) = l2 at *
    generalize hn2 : (pk bn bn dn) = n2 at *
    replace hl2 := Lib.hid hl2
    replace hn2 := Lib.hid hn2
    have h0 := hcut
    clear hcut
    have gx0 : w2.cell? ⟨X, 17, none⟩ = some (.pointer bS) := World.rowIs.cell h0.out.base (i := 17) (by omega)
    go_upto_if 16 with fail
    go_cut [] (fun wx => Ap w wx D X da dU df dP l2 n2 (orElse bS dS) dA ba bU bf bP bl bn bS bA)
    case first =>
      have gd : w2.cell? ⟨D, 17, none⟩ = some (.pointer dS) := World.rowIs.cell h0.out.own (i := 17) (by omega)
      have fd := World.rowIs.frozen h0.out.own 17
      cases bS with
      | none =>
        go_wp2_with fail
        go_meet
        exact h0.out
      | some x =>
        have hq := Lib.hid (h0.out.putS hX.out (some x))
        go_wp2_with fail
        go_meet
        exact hq.out
    case rest =>
      replace hcut := Lib.hid hcut
      clear h0 gx0
      obtain ⟨w3, rfl⟩ : ∃ W : World, W = wc := ⟨_, rfl⟩
      have h0 := hcut
      clear hcut
      have gx0 : w3.cell? ⟨X, 18, none⟩ = some (.pointer bA) := World.rowIs.cell h0.out.base (i := 18) (by omega)
      go_upto_if 24 with fail
      go_cut [] (fun wx => Ap w wx D X da dU df dP l2 n2 (orElse bS dS) (orElse bA dA) ba bU bf bP bl bn bS bA)
      case first =>
        have gd : w3.cell? ⟨D, 18, none⟩ = some (.pointer dA) := World.rowIs.cell h0.out.own (i := 18) (by omega)
        have fd := World.rowIs.frozen h0.out.own 18
        cases bA with
        | none =>
          go_wp2_with fail
          go_meet
          exact h0.out
        | some x =>
          have hq := Lib.hid (h0.out.putA hX.out (some x))
          go_wp2_with fail
          go_meet
          exact hq.out
      case rest =>
        replace hcut := Lib.hid hcut
        clear h0 gx0
        obtain ⟨w4, rfl⟩ : ∃ W : World, W = wc := ⟨_, rfl⟩
        have h0 := hcut
        clear hcut
        have gx0 : w4.cell? ⟨X, 1, none⟩ = some (.pointer bU) := World.rowIs.cell h0.out.base (i := 1) (by omega)
        go_upto_if 32 with fail
        go_cut [] (fun wx => Ap w wx D X da (orElse bU dU) df dP l2 n2 (orElse bS dS) (orElse bA dA) ba bU bf bP bl bn bS bA)
        case first =>
          have gd : w4.cell? ⟨D, 1, none⟩ = some (.pointer dU) := World.rowIs.cell h0.out.own (i := 1) (by omega)
          have fd := World.rowIs.frozen h0.out.own 1
          cases bU with
          | none =>
            go_wp2_with fail
            go_meet
            exact h0.out
          | some x =>
            have hq := Lib.hid (h0.out.putU hX.out (some x))
            go_wp2_with fail
            go_meet
            exact hq.out
        case rest =>
          replace hcut := Lib.hid hcut
          clear h0 gx0
          obtain ⟨w5, rfl⟩ : ∃ W : World, W = wc := ⟨_, rfl⟩
          have h0 := hcut
          clear hcut
          have gx0 : w5.cell? ⟨X, 3, none⟩ = some (.pointer bP) := World.rowIs.cell h0.out.base (i := 3) (by omega)
          go_upto_if 40 with fail
          go_cut [] (fun wx => Ap w wx D X da (orElse bU dU) (pf bP bf df) (orElse bP dP) l2 n2 (orElse bS dS) (orElse bA dA) ba bU bf bP bl bn bS bA)
          case first =>
            have gd : w5.cell? ⟨D, 3, none⟩ = some (.pointer dP) := World.rowIs.cell h0.out.own (i := 3) (by omega)
            have fd := World.rowIs.frozen h0.out.own 3
            have gxf : w5.cell? ⟨X, 2, none⟩ = some (.string bf) := World.rowIs.cell h0.out.base (i := 2) (by omega)
            have gdf : w5.cell? ⟨D, 2, none⟩ = some (.string df) := World.rowIs.cell h0.out.own (i := 2) (by omega)
            have fdf := World.rowIs.frozen h0.out.own 2
            cases bP with
            | none =>
              go_wp2_with fail
              go_meet
              exact h0.out
            | some x =>
              have hq := Lib.hid (Ap.putF (h0.out.putP hX.out (some x)) hX.out bf)
              go_wp2_with fail
              go_meet
              exact hq.out
          case rest =>
            replace hcut := Lib.hid hcut
            clear h0 gx0
            obtain ⟨w6, rfl⟩ : ∃ W : World, W = wc := ⟨_, rfl⟩
            have e19 : w6.cell? ⟨X, 19, none⟩ = some (.slice none 0 0) := World.rowIs.cell hcut.out.base (i := 19) (by omega)
            have e20 : w6.cell? ⟨X, 20, none⟩ = some (.slice none 0 0) := World.rowIs.cell hcut.out.base (i := 20) (by omega)
            have e21 : w6.cell? ⟨X, 21, none⟩ = some (.pointer none) := World.rowIs.cell hcut.out.base (i := 21) (by omega)
            have e22 : w6.cell? ⟨X, 22, none⟩ = some (.int .u8 0) := World.rowIs.cell hcut.out.base (i := 22) (by omega)
            go_wp2_with fail
            go_still_tail 5, (by kernel_rfl)
            change wpList _ _ _ _ _ w6.drew
            have h7 := Lib.hid (hcut.out.next (Below.refl _ _).drew)
            clear e19 e20 e21 e22 hcut
            generalize w6.drew = w7 at h7 ⊢
            go_wp2_with fail
            go_at_call 13
            refine (jsx D _).mono ?_
            rintro e w8 ⟨rfl, b8⟩
            have h8 := Lib.hid (h7.out.next b8)
            clear h7 b8
            have e23 : w8.cell? ⟨X, 23, none⟩ = some (.int .u8 0) := World.rowIs.cell h8.out.base (i := 23) (by omega)
            have e24 : w8.cell? ⟨X, 24, none⟩ = some (.int .u8 0) := World.rowIs.cell h8.out.base (i := 24) (by omega)
            have e25 : w8.cell? ⟨X, 25, none⟩ = some (.int .u8 0) := World.rowIs.cell h8.out.base (i := 25) (by omega)
            have e26 : w8.cell? ⟨X, 26, none⟩ = some (.int .u8 0) := World.rowIs.cell h8.out.base (i := 26) (by omega)
            have e27 : w8.cell? ⟨X, 27, none⟩ = some (.int .u8 0) := World.rowIs.cell h8.out.base (i := 27) (by omega)
            have e28 : w8.cell? ⟨X, 28, none⟩ = some (.int .u8 0) := World.rowIs.cell h8.out.base (i := 28) (by omega)
            go_wp2_with fail
            go_still_tail 5, (by kernel_rfl)
            change wpList _ _ _ _ _ w8.drew
            have h9 := Lib.hid (h8.out.next (Below.refl _ _).drew)
            clear e23 e24 e25 e26 e27 e28 h8
            generalize w8.drew = w9 at h9 ⊢
            go_wp2_with fail
            go_at_call 14
            refine (settings D _).mono ?_
            rintro e wz ⟨rfl, bz⟩
            have hfin := Lib.hid (h9.out.next bz)
            rw [← hl2.out, ← hn2.out] at hfin
            go_wp2_with fail
            go_end0
            rw [hz.out]
            exact ⟨rfl, hfin.out⟩
end Go.Proofs.Ytodbjiiogjoogaa.Ext
