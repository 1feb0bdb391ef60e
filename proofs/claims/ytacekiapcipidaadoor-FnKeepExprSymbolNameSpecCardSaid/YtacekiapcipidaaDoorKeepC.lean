/-
  callRuntime with two arguments in hand. No condition.
-/
import Derived.Test.YtacekiapcipidaaDoorKeepP
import Derived.Test.YtacekiapcipidaaDoorBut
namespace Go.Proofs.YtacekiapcipidaaDoor.Sym
open Go.RowKit Go.ChangeShapes Go.WideShapes Go.ChangeAt Go.Proofs.YtacekiapcipidaaDoor.Ints Go.Proofs.YtacekiapcipidaaDoor.MapX Go.Proofs.YtacekiapcipidaaDoor.ToUtf16

def CallR (B P Sc : Nat) (l : Int) (nm : ByteArray) (args : Value) (w : World) (e : Ending) (w' : World) : Prop :=
  ∃ (E I g c n : Nat) (F' G fI fE : Nat → Value), e = .returned (.agg #[.iface 36 (.pointer (some ⟨E, 0, none⟩)), .int .i32 l]) ∧ KK B P Sc w w' ∧ w.heap.size ≤ E ∧ w'.rowIs E 43 8 fE ∧
    fE 0 = .iface 191 (.pointer (some ⟨I, 0, none⟩)) ∧ fE 1 = .int .i32 l ∧ fE 2 = args ∧
    w.heap.size ≤ I ∧ w'.rowIs I 193 5 fI ∧ fI 0 = .int .u32 0 ∧ fI 1 = .int .u32 0 ∧
    w'.rowIs P 176 353 F' ∧ F' 106 = .slice (some ⟨g, 0, none⟩) 1 c ∧ 1 ≤ c ∧ w'.rowIs g 203 n G ∧ 10 ≤ n ∧ G 1 = .string nm
def Zr (N : Nat) (l : Int) (w' : World) : Prop := w'.cell? ⟨N, 0, none⟩ = some (.int .i32 l) ∧ w'.cell? ⟨N + 1, 0, none⟩ = some (cvv w' ⟨N + 1, 0, none⟩) ∧ w'.cell? ⟨N + 1, 1, none⟩ = some (cvv w' ⟨N + 1, 1, none⟩) ∧ w'.frozen? ⟨N + 1, 0, none⟩ = false ∧ w'.frozen? ⟨N + 1, 1, none⟩ = false ∧
  (∃ F G, w'.rowIs N 27 1 F ∧ F 0 = .int .i32 l ∧ w'.rowIs (N + 1) 31 2 G)
theorem zr_mk {N : Nat} {l : Int} {w' : World} {F G : Nat → Value} (h : w'.rowIs N 27 1 F) (h0 : F 0 = .int .i32 l) (g : w'.rowIs (N + 1) 31 2 G) : Zr N l w' :=
  ⟨h0 ▸ h.cell (by omega), cvv_of (g.cell (by omega)), cvv_of (g.cell (by omega)), g.frozen 0, g.frozen 1, F, G, h, h0, g⟩
theorem zr_alloc {N : Nat} {l : Int} {w' : World} (h : Zr N l w') (o : Obj) : Zr N l (w'.alloc o) := by
  obtain ⟨_, _, _, _, _, F, G, a, b, c⟩ := h
  exact zr_mk (a.alloc o) b (c.alloc o)
theorem zr_drew {N : Nat} {l : Int} {w' : World} (h : Zr N l w') : Zr N l w'.drew := by
  obtain ⟨_, _, _, _, _, F, G, a, b, c⟩ := h
  exact zr_mk a b c
theorem zr_set {N : Nat} {l : Int} {w' : World} (h : Zr N l w') (j : Nat) (v : Value) : Zr N l (w'.setCell ⟨N + 1, j, none⟩ v) := by
  obtain ⟨_, _, _, _, _, F, G, a, b, c⟩ := h
  exact zr_mk (a.setOther (by show N ≠ N + 1; omega) v) b (c.set j v)
theorem row_b {w w' : World} {R t k : Nat} {f : Nat → Value} (h : w.rowIs R t k f) (hb : w'.heap[R]? = w.heap[R]?) : w'.rowIs R t k f := h.of_block hb
theorem call_fin {B P Sc : Nat} {l : Int} {nm : ByteArray} {args a b : Value} {w W w2 : World} {I g c n : Nat} {F' G fI : Nat → Value} (b1 : Below w.heap.size w W) (hW : W.heap.size = w.heap.size + 1 + 1) (hBP : B ≤ P) (lP : P < w.heap.size)
    (k2 : KK B P Sc W w2) (hI : W.heap.size ≤ I) (rI : w2.rowIs I 193 5 fI) (i3 : fI 0 = .int .u32 0) (i4 : fI 1 = .int .u32 0) (rP : w2.rowIs P 176 353 F') (i6 : F' 106 = .slice (some ⟨g, 0, none⟩) 1 c) (i7 : 1 ≤ c) (rg : w2.rowIs g 203 n G) (i9 : 10 ≤ n) (i10 : G 1 = .string nm)
    {M : Nat → Value} (rM : w2.rowIs (w.heap.size + 1) 31 2 M) :
    CallR B P Sc l nm args w (.returned (.agg #[.iface 36 (.pointer (some ⟨w2.heap.size, 0, none⟩)), .int .i32 l]))
      (((w2.alloc (.cells #[.iface 191 (.pointer (some ⟨I, 0, none⟩)), .int .i32 l, args, .int .i32 0, .int .u8 0, .int .u8 0, .bool false, .bool false] 43)).setCell ⟨w.heap.size + 1, 0, none⟩ a).setCell ⟨w.heap.size + 1, 1, none⟩ b) := by
  have hBw : B ≤ w.heap.size := by omega
  have hM := rM.lt
  have hs2 := k2.bel.size
  have K2 : KK B P Sc w w2 := ⟨(b1.mono hBw).trans k2.bel, fun b cur t fr e h1 h2 h3 h4 => by
    have e1 := b1.block b (Array.getElem?_eq_some_iff.1 e).1
    exact (k2.kp b cur t fr (e1.trans e) h1 h2 h3 h4).trans e1⟩
  have hk : ∀ (o : Obj) (k : Nat), k ≠ w.heap.size + 1 → k < w2.heap.size → (((w2.alloc o).setCell ⟨w.heap.size + 1, 0, none⟩ a).setCell ⟨w.heap.size + 1, 1, none⟩ b).heap[k]? = w2.heap[k]? := fun o k h1 h2 =>
    ((Go.Deep.blk_setCell_other _ _ _ _ h1).trans (Go.Deep.blk_setCell_other _ _ _ _ h1)).trans (Go.Deep.blk_alloc_lt _ _ _ h2)
  have rE := row_new w2 #[.iface 191 (.pointer (some ⟨I, 0, none⟩)), .int .i32 l, args, .int .i32 0, .int .u8 0, .int .u8 0, .bool false, .bool false] 43 8 rfl
  have rE' := (rE.setOther (a := ⟨w.heap.size + 1, 0, none⟩) (by show w2.heap.size ≠ w.heap.size + 1; omega) a).setOther (a := ⟨w.heap.size + 1, 1, none⟩) (by show w2.heap.size ≠ w.heap.size + 1; omega) b
  have hgM := row_ne rg rM (by decide)
  refine ⟨w2.heap.size, I, g, c, n, F', G, fI, _, rfl, K2.step ((((Below.refl B w2).alloc (by omega) _).setCell (p := ⟨w.heap.size + 1, 0, none⟩) (by show B ≤ w.heap.size + 1; omega) _).setCell (p := ⟨w.heap.size + 1, 1, none⟩) (by show B ≤ w.heap.size + 1; omega) _)
    (fun b cur t fr hb _ _ _ _ _ => hk _ b (by omega) (by omega)), by omega, rE', rfl, rfl, rfl, by omega, row_b rI (hk _ _ (by omega) rI.lt), i3, i4, row_b rP (hk _ _ (by omega) rP.lt), i6, i7, row_b rg (hk _ _ hgM rg.lt), i9, i10⟩
set_option maxRecDepth 100000 in
set_option maxHeartbeats 8000000 in
theorem callR (B P Sc Mp : Nat) (F f : Nat → Value) (l : Int) (nm : ByteArray) (oa : Option Addr) (na ca : Nat) (w : World) (h : Pq B w P Sc Mp F f) (hB : 0 < B) (hG : Gl w) :
    Calls Tryd.prog 16 #[.pointer (some ⟨P, 0, none⟩), .agg #[.int .i32 l], .string nm, .slice oa na ca] w (CallR B P Sc l nm (.slice oa na ca) w) := by
  have b1 : Below w.heap.size w (((w.alloc (.cells #[.int .i32 l] 27)).alloc (.cells #[.nilIface, .int .i32 0] 31)).drew) := (((Below.refl _ _).alloc (Nat.le_refl _) _).alloc (by simp) _).drew
  have q1 := h.next b1
  have lP := h.core.row.lt
  have hwp : w.heap.size > 0 := by omega
  have G1 := hG.below b1 hwp
  have hc := importR B P Sc Mp F f l nm _ q1 hB G1
  have rL : (((w.alloc (.cells #[.int .i32 l] 27)).alloc (.cells #[.nilIface, .int .i32 0] 31)).drew).rowIs w.heap.size 27 1 (fun j => (#[.int .i32 l] : Array Value).getD j undef) := (row_new w #[.int .i32 l] 27 1 rfl).alloc (.cells #[.nilIface, .int .i32 0] 31)
  have rR : (((w.alloc (.cells #[.int .i32 l] 27)).alloc (.cells #[.nilIface, .int .i32 0] 31)).drew).rowIs (w.heap.size + 1) 31 2 (fun j => (#[.nilIface, .int .i32 0] : Array Value).getD j undef) := by
    have := row_new (w.alloc (.cells #[.int .i32 l] 27)) #[.nilIface, .int .i32 0] 31 2 rfl
    rw [World.size_alloc] at this
    exact this
  have hge := h.ge
  have hsc := h.sc.lt
  replace h := Lib.hid h
  replace q1 := Lib.hid q1
  replace rL := Lib.hid rL
  replace rR := Lib.hid rR
  replace b1 := Lib.hid b1
  replace G1 := Lib.hid G1
  go_enter Tryd.func16, Tryd.ntmps16
  go_wp2_with fail
  have hS := zr_mk rL.out rfl rR.out
  unfold Zr at hS
  go_region_held3 (fun w' => w'.cell? ⟨w.heap.size, 0, none⟩ = some (.int .i32 l) ∧ w'.cell? ⟨w.heap.size + 1, 0, none⟩ = some (cvv w' ⟨w.heap.size + 1, 0, none⟩) ∧ w'.cell? ⟨w.heap.size + 1, 1, none⟩ = some (cvv w' ⟨w.heap.size + 1, 1, none⟩) ∧ w'.frozen? ⟨w.heap.size + 1, 0, none⟩ = false ∧ w'.frozen? ⟨w.heap.size + 1, 1, none⟩ = false ∧
      (∃ F G, w'.rowIs w.heap.size 27 1 F ∧ F 0 = .int .i32 l ∧ w'.rowIs (w.heap.size + 1) 31 2 G))
    (first | exact hS | assumption | exact zr_alloc (by assumption) _ | exact zr_set (by assumption) _ _ | exact zr_set (zr_alloc (by assumption) _) _ _ | exact zr_set (zr_set (zr_alloc (by assumption) _) _ _) _ _)
    (first
    | (go_at_call 19; refine hc.mono ?_; rintro e w2 ⟨I, g, c, n, F', G, fI, rfl, k2, i1, i2, i3, i4, i5, i6, i7, i8, i9, i10⟩; have hz := zr_mk (row_kk rL.out k2 (by decide) (by decide) (by omega) (by omega)) rfl (row_kk rR.out k2 (by decide) (by decide) (by omega) (by omega)); unfold Zr at hz; replace k2 := Lib.hid k2; replace i2 := Lib.hid i2; replace i3 := Lib.hid i3; replace i4 := Lib.hid i4; replace i5 := Lib.hid i5; replace i6 := Lib.hid i6; replace i8 := Lib.hid i8; replace i10 := Lib.hid i10))
  rename_i hH
  obtain ⟨_, _, _, _, _, FF, GG, _, _, rM3⟩ := hH
  obtain ⟨_, _, _, _, _, F2, G2, _, _, rM⟩ := hz
  have hfin := call_fin (l := l) (args := .slice oa na ca) (a := .iface 36 (.pointer (some ⟨w2.heap.size, 0, none⟩))) (b := .int .i32 l) b1.out (by simp) hge.1 lP k2.out i1 i2.out i3.out i4.out i5.out i6.out i7 i8.out i9 i10.out rM
  have r2 := ((rM.alloc (.cells #[.iface 191 (.pointer (some ⟨I, 0, none⟩)), .int .i32 l, .slice oa na ca, .int .i32 0, .int .u8 0, .int .u8 0, .bool false, .bool false] 43)).set 0 (.iface 36 (.pointer (some ⟨w2.heap.size, 0, none⟩)))).set 1 (.int .i32 l)
  have t0 := r2.cell (i := 0) (by omega)
  have t1 := r2.cell (i := 1) (by omega)
  simp only [if_true, if_false, show ¬ (0 : Nat) = 1 from by decide] at t0 t1
  replace hfin := Lib.hid hfin
  clear rM3 r2 rM hS
  generalize ((w2.alloc (.cells #[.iface 191 (.pointer (some ⟨I, 0, none⟩)), .int .i32 l, .slice oa na ca, .int .i32 0, .int .u8 0, .int .u8 0, .bool false, .bool false] 43)).setCell ⟨w.heap.size + 1, 0, none⟩ (.iface 36 (.pointer (some ⟨w2.heap.size, 0, none⟩)))).setCell ⟨w.heap.size + 1, 1, none⟩ (.int .i32 l) = W3 at *
  go_wp2_with fail
  exact bodyPost_ret (v := .agg #[.iface 36 (.pointer (some ⟨w2.heap.size, 0, none⟩)), .int .i32 l]) (by simp [results, Tryd.results16, go_sem, t0, t1]) rfl hfin.out
end Go.Proofs.YtacekiapcipidaaDoor.Sym
