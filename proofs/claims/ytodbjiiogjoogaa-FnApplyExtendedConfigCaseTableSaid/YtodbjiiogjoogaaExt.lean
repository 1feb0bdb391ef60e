/-
  A config of TypeScript settings in memory, and mkTSConfig. Condition: none.
-/
import Derived.Test.YtodbjiiogjoogaaRowsI
import Derived.Test.YtodbjiiogjoogaaBuild2
import Derived.Lib.Hide
import Derived.Laws.Cover3
import Derived.WalkLawsBesides
import Derived.WalkSpells
import Derived.Laws.MakeOwn
import Derived.RegionTactic
import Derived.ChangeAlike
import Derived.Deep.QuietTactic
import Derived.BigQuiet
import Derived.BigRegion
import Derived.Deep.RegionHeld3
import Derived.StillTailTactics
import Derived.IntWalk
import Derived.Deep.DeepCutAuto
namespace Go.Proofs.Ytodbjiiogjoogaa.Ext
open Go.RowKit Go.ChangeShapes Go.WideShapes Go.ChangeAt Go.Proofs.Ytodbjiiogjoogaa.Ints

/-- The cells of a config. -/
def C (a : ByteArray) (U : Option Addr) (f : ByteArray) (P : Option Addr) (l : ByteArray) (n : Int) (S A : Option Addr) : Array Value :=
  #[.string a, .pointer U, .string f, .pointer P, .string l, .string ⟨#[]⟩, .string ⟨#[]⟩, .string ⟨#[]⟩, .string ⟨#[]⟩, .string ⟨#[]⟩, .string ⟨#[]⟩, .string ⟨#[]⟩, .string ⟨#[]⟩, .int .u8 0, .int .u32 0, .int .i32 0, .int .i32 n, .pointer S, .pointer A,
    .slice none 0 0, .slice none 0 0, .pointer none, .int .u8 0, .int .u8 0, .int .u8 0, .int .u8 0, .int .u8 0, .int .u8 0, .int .u8 0]
def cf (a : ByteArray) (U : Option Addr) (f : ByteArray) (P : Option Addr) (l : ByteArray) (n : Int) (S A : Option Addr) : Nat → Value := fun j => (C a U f P l n S A).getD j undef
theorem all29 {p : Nat → Prop} (h : p 0 ∧ p 1 ∧ p 2 ∧ p 3 ∧ p 4 ∧ p 5 ∧ p 6 ∧ p 7 ∧ p 8 ∧ p 9 ∧ p 10 ∧ p 11 ∧ p 12 ∧ p 13 ∧ p 14 ∧ p 15 ∧ p 16 ∧ p 17 ∧ p 18 ∧ p 19 ∧ p 20 ∧ p 21 ∧ p 22 ∧ p 23 ∧ p 24 ∧ p 25 ∧ p 26 ∧ p 27 ∧ p 28) : ∀ j, j < 29 → p j := by
  intro j hj
  obtain ⟨h0, h1, h2, h3, h4, h5, h6, h7, h8, h9, h10, h11, h12, h13, h14, h15, h16, h17, h18, h19, h20, h21, h22, h23, h24, h25, h26, h27, h28⟩ := h
  have : j = 0 ∨ j = 1 ∨ j = 2 ∨ j = 3 ∨ j = 4 ∨ j = 5 ∨ j = 6 ∨ j = 7 ∨ j = 8 ∨ j = 9 ∨ j = 10 ∨ j = 11 ∨ j = 12 ∨ j = 13 ∨ j = 14 ∨ j = 15 ∨ j = 16 ∨ j = 17 ∨ j = 18 ∨ j = 19 ∨ j = 20 ∨ j = 21 ∨ j = 22 ∨ j = 23 ∨ j = 24 ∨ j = 25 ∨ j = 26 ∨ j = 27 ∨ j = 28 := by omega
  rcases this with rfl | rfl | rfl | rfl | rfl | rfl | rfl | rfl | rfl | rfl | rfl | rfl | rfl | rfl | rfl | rfl | rfl | rfl | rfl | rfl | rfl | rfl | rfl | rfl | rfl | rfl | rfl | rfl | rfl <;> assumption
def At (w : World) (B : Nat) (a : ByteArray) (U : Option Addr) (f : ByteArray) (P : Option Addr) (l : ByteArray) (n : Int) (S A : Option Addr) : Prop := w.rowIs B 54 29 (cf a U f P l n S A)
/-- A setting's pointer: unset, or a block behind B that reads so. -/
def Str (w : World) (B : Nat) (set : Bool) (S : Option Addr) (nm : ByteArray) (v : Bool) : Prop :=
  (set = false ∧ S = none) ∨ (set = true ∧ ∃ x, B < x ∧ S = some ⟨x, 0, none⟩ ∧ w.cell? ⟨x, 0, none⟩ = some (.string nm) ∧ w.cell? ⟨x, 13, none⟩ = some (.bool v))
def Url (w : World) (B : Nat) (set : Bool) (S : Option Addr) (u : ByteArray) : Prop :=
  (set = false ∧ S = none) ∨ (set = true ∧ ∃ x, B < x ∧ S = some ⟨x, 0, none⟩ ∧ w.cell? ⟨x, 0, none⟩ = some (.string u))
def Pth (B : Nat) (set : Bool) (S : Option Addr) : Prop := (set = false ∧ S = none) ∨ (set = true ∧ ∃ x, B < x ∧ S = some ⟨x, 0, none⟩)
/-- The blocks behind B are as they were. -/
def Kp (B : Nat) (w w' : World) : Prop := ∀ b, B < b → b < w.heap.size → w'.heap[b]? = w.heap[b]?
theorem Kp.cell {B x o : Nat} {w w' : World} {v : Value} (h : Kp B w w') (hx : B < x) (g : w.cell? ⟨x, o, none⟩ = some v) : w'.cell? ⟨x, o, none⟩ = some v :=
  (World.cell?_of_block (w := w) (h x hx (lt_of_cell g))).trans g
theorem Str.keep {w w' : World} {B : Nat} {set v : Bool} {S : Option Addr} {nm : ByteArray} (h : Str w B set S nm v) (k : Kp B w w') : Str w' B set S nm v := by
  rcases h with h | ⟨h, x, h1, h2, h3, h4⟩
  · exact .inl h
  · exact .inr ⟨h, x, h1, h2, k.cell h1 h3, k.cell h1 h4⟩
theorem Url.keep {w w' : World} {B : Nat} {set : Bool} {S : Option Addr} {nm : ByteArray} (h : Url w B set S nm) (k : Kp B w w') : Url w' B set S nm := by
  rcases h with h | ⟨h, x, h1, h2, h3⟩
  · exact .inl h
  · exact .inr ⟨h, x, h1, h2, k.cell h1 h3⟩
theorem kpPut (w : World) (B k : Nat) (v : Value) (o : Obj) : Kp B w ((w.setCell ⟨B, k, none⟩ v).alloc o) := fun b h1 h2 =>
  (Go.Deep.blk_alloc_lt _ _ b (by simpa using h2)).trans (Go.Deep.blk_setCell_other _ _ _ _ (by show b ≠ B; omega))
theorem At.putS {w : World} {B : Nat} {a f l : ByteArray} {U P S A : Option Addr} {n : Int} (h : At w B a U f P l n S A) (V : Option Addr) (o : Obj) : At ((w.setCell ⟨B, 17, none⟩ (.pointer V)).alloc o) B a U f P l n V A :=
  World.rowIs.congr ((World.rowIs.set h 17 _).alloc o) (all29 ⟨rfl, rfl, rfl, rfl, rfl, rfl, rfl, rfl, rfl, rfl, rfl, rfl, rfl, rfl, rfl, rfl, rfl, rfl, rfl, rfl, rfl, rfl, rfl, rfl, rfl, rfl, rfl, rfl, rfl⟩)
theorem At.putA {w : World} {B : Nat} {a f l : ByteArray} {U P S A : Option Addr} {n : Int} (h : At w B a U f P l n S A) (V : Option Addr) (o : Obj) : At ((w.setCell ⟨B, 18, none⟩ (.pointer V)).alloc o) B a U f P l n S V :=
  World.rowIs.congr ((World.rowIs.set h 18 _).alloc o) (all29 ⟨rfl, rfl, rfl, rfl, rfl, rfl, rfl, rfl, rfl, rfl, rfl, rfl, rfl, rfl, rfl, rfl, rfl, rfl, rfl, rfl, rfl, rfl, rfl, rfl, rfl, rfl, rfl, rfl, rfl⟩)
theorem At.putU {w : World} {B : Nat} {a f l : ByteArray} {U P S A : Option Addr} {n : Int} (h : At w B a U f P l n S A) (V : Option Addr) (o : Obj) : At ((w.setCell ⟨B, 1, none⟩ (.pointer V)).alloc o) B a V f P l n S A :=
  World.rowIs.congr ((World.rowIs.set h 1 _).alloc o) (all29 ⟨rfl, rfl, rfl, rfl, rfl, rfl, rfl, rfl, rfl, rfl, rfl, rfl, rfl, rfl, rfl, rfl, rfl, rfl, rfl, rfl, rfl, rfl, rfl, rfl, rfl, rfl, rfl, rfl, rfl⟩)
theorem At.putP {w : World} {B : Nat} {a f l : ByteArray} {U P S A : Option Addr} {n : Int} (h : At w B a U f P l n S A) (V : Option Addr) (o : Obj) : At ((w.setCell ⟨B, 3, none⟩ (.pointer V)).alloc o) B a U f V l n S A :=
  World.rowIs.congr ((World.rowIs.set h 3 _).alloc o) (all29 ⟨rfl, rfl, rfl, rfl, rfl, rfl, rfl, rfl, rfl, rfl, rfl, rfl, rfl, rfl, rfl, rfl, rfl, rfl, rfl, rfl, rfl, rfl, rfl, rfl, rfl, rfl, rfl, rfl, rfl⟩)
theorem belowPut {w0 w : World} {B k : Nat} (h : Below B w0 w) (v : Value) (o : Obj) (hB : B ≤ w.heap.size) : Below B w0 ((w.setCell ⟨B, k, none⟩ v).alloc o) := (h.setCell (p := ⟨B, k, none⟩) (Nat.le_refl B) v).alloc (by simpa using hB) o
def strObj (nm : ByteArray) (b : Bool) : Obj := .cells #[.string nm, .string ⟨#[]⟩, .string ⟨#[]⟩, .string ⟨#[]⟩, .string ⟨#[]⟩, .string ⟨#[]⟩, .string ⟨#[]⟩, .string ⟨#[]⟩, .string ⟨#[]⟩, .int .u8 0, .int .u32 0, .int .i32 0, .int .i32 0, .bool b] 62
theorem strNew (w : World) (B k : Nat) (v : Value) (nm : ByteArray) (b : Bool) (hB : B < w.heap.size) : Str ((w.setCell ⟨B, k, none⟩ v).alloc (strObj nm b)) B true (some ⟨w.heap.size, 0, none⟩) nm b :=
  .inr ⟨rfl, w.heap.size, hB, rfl, by unfold strObj; go_simp, by unfold strObj; go_simp⟩
theorem urlNew (w : World) (B k : Nat) (v : Value) (u : ByteArray) (t : TypeId) (hB : B < w.heap.size) : Url ((w.setCell ⟨B, k, none⟩ v).alloc (.cells #[.string u] t)) B true (some ⟨w.heap.size, 0, none⟩) u :=
  .inr ⟨rfl, w.heap.size, hB, rfl, by go_simp⟩
set_option maxRecDepth 100000 in
set_option maxHeartbeats 4000000 in
theorem setKey (B : Nat) (a l l0 f : ByteArray) (n n0 : Int) (hn : -2147483648 ≤ n ∧ n ≤ 2147483647) (w : World) (U P S A : Option Addr) (h : At w B a U f P l0 n0 S A) :
    Calls Try.prog 11 #[.pointer (some ⟨B, 0, none⟩), .string l, .int .i32 n] w fun e w' => e = .returned (.tuple #[]) ∧ At w' B a U f P l n S A ∧ Below B w w' := by
  have g4 : w.cell? ⟨B, 4, none⟩ = some (.string l0) := World.rowIs.cell h (i := 4) (by omega)
  have f4 := World.rowIs.frozen h 4
  have g5 : w.cell? ⟨B, 5, none⟩ = some (.string ⟨#[]⟩) := World.rowIs.cell h (i := 5) (by omega)
  have f5 := World.rowIs.frozen h 5
  have g6 : w.cell? ⟨B, 6, none⟩ = some (.string ⟨#[]⟩) := World.rowIs.cell h (i := 6) (by omega)
  have f6 := World.rowIs.frozen h 6
  have g7 : w.cell? ⟨B, 7, none⟩ = some (.string ⟨#[]⟩) := World.rowIs.cell h (i := 7) (by omega)
  have f7 := World.rowIs.frozen h 7
  have g8 : w.cell? ⟨B, 8, none⟩ = some (.string ⟨#[]⟩) := World.rowIs.cell h (i := 8) (by omega)
  have f8 := World.rowIs.frozen h 8
  have g9 : w.cell? ⟨B, 9, none⟩ = some (.string ⟨#[]⟩) := World.rowIs.cell h (i := 9) (by omega)
  have f9 := World.rowIs.frozen h 9
  have g10 : w.cell? ⟨B, 10, none⟩ = some (.string ⟨#[]⟩) := World.rowIs.cell h (i := 10) (by omega)
  have f10 := World.rowIs.frozen h 10
  have g11 : w.cell? ⟨B, 11, none⟩ = some (.string ⟨#[]⟩) := World.rowIs.cell h (i := 11) (by omega)
  have f11 := World.rowIs.frozen h 11
  have g12 : w.cell? ⟨B, 12, none⟩ = some (.string ⟨#[]⟩) := World.rowIs.cell h (i := 12) (by omega)
  have f12 := World.rowIs.frozen h 12
  have g13 : w.cell? ⟨B, 13, none⟩ = some (.int .u8 0) := World.rowIs.cell h (i := 13) (by omega)
  have f13 := World.rowIs.frozen h 13
  have g14 : w.cell? ⟨B, 14, none⟩ = some (.int .u32 0) := World.rowIs.cell h (i := 14) (by omega)
  have f14 := World.rowIs.frozen h 14
  have g15 : w.cell? ⟨B, 15, none⟩ = some (.int .i32 0) := World.rowIs.cell h (i := 15) (by omega)
  have f15 := World.rowIs.frozen h 15
  have g16 : w.cell? ⟨B, 16, none⟩ = some (.int .i32 n0) := World.rowIs.cell h (i := 16) (by omega)
  have f16 := World.rowIs.frozen h 16
  go_enter Try.func11, Try.ntmps11
  go_wp2_with fail
  refine bodyPost_end (v := .tuple #[]) (by simp [results, Try.results11, go_sem]) rfl ⟨rfl, World.rowIs.congr ((((((((((((((h).set 4 _).set 5 _).set 6 _).set 7 _).set 8 _).set 9 _).set 10 _).set 11 _).set 12 _).set 13 _).set 14 _).set 15 _).set 16 _) (all29 ⟨rfl, rfl, rfl, rfl, rfl, rfl, rfl, rfl, rfl, rfl, rfl, rfl, rfl, rfl, rfl, rfl, rfl, rfl, rfl, rfl, rfl, rfl, rfl, rfl, rfl, rfl, rfl, rfl, rfl⟩), (((((((((((((Below.refl B w).setCell (p := ⟨B, 4, none⟩) (Nat.le_refl B) _).setCell (p := ⟨B, 5, none⟩) (Nat.le_refl B) _).setCell (p := ⟨B, 6, none⟩) (Nat.le_refl B) _).setCell (p := ⟨B, 7, none⟩) (Nat.le_refl B) _).setCell (p := ⟨B, 8, none⟩) (Nat.le_refl B) _).setCell (p := ⟨B, 9, none⟩) (Nat.le_refl B) _).setCell (p := ⟨B, 10, none⟩) (Nat.le_refl B) _).setCell (p := ⟨B, 11, none⟩) (Nat.le_refl B) _).setCell (p := ⟨B, 12, none⟩) (Nat.le_refl B) _).setCell (p := ⟨B, 13, none⟩) (Nat.le_refl B) _).setCell (p := ⟨B, 14, none⟩) (Nat.le_refl B) _).setCell (p := ⟨B, 15, none⟩) (Nat.le_refl B) _).setCell (p := ⟨B, 16, none⟩) (Nat.le_refl B) _⟩
set_option maxHeartbeats 400000 in
theorem atAlloc (w : World) (a f : ByteArray) : At (w.alloc (.cells (C a none f none ⟨#[]⟩ 0 none none) 54)) w.heap.size a none f none ⟨#[]⟩ 0 none none :=
  (World.rowIs_alloc w (C a none f none ⟨#[]⟩ 0 none none) 54 (cf a none f none ⟨#[]⟩ 0 none none) (fun i hi => by unfold cf; rw [Array.getD_eq_getD_getElem?, Array.getElem?_eq_getElem hi]; rfl) : World.rowIs _ w.heap.size 54 29 _)
def strictN : ByteArray := ⟨#[115, 116, 114, 105, 99, 116]⟩
def alwaysN : ByteArray := ⟨#[97, 108, 119, 97, 121, 115, 83, 116, 114, 105, 99, 116]⟩
def Made (B : Nat) (w w' : World) (a u f l : ByteArray) (n m : Int) : Prop :=
  ∃ U P S A, At w' B a U f P l n S A ∧ Below B w w' ∧ Str w' B (bits .and .u8 m 1 != 0) S strictN (bits .and .u8 m 16 != 0) ∧ Str w' B (bits .and .u8 m 2 != 0) A alwaysN (bits .and .u8 m 32 != 0) ∧ Url w' B (bits .and .u8 m 4 != 0) U u ∧ Pth B (bits .and .u8 m 8 != 0) P
set_option maxRecDepth 100000 in
set_option maxHeartbeats 1000000 in
theorem mk (a l u f : ByteArray) (n : Int) (hn : -2147483648 ≤ n ∧ n ≤ 2147483647) (m : Int) (hm : 0 ≤ m ∧ m ≤ 255) (w : World) :
    Calls Try.prog 5 #[.string a, .string l, .int .i32 n, .int .u8 m, .string u, .string f] w fun e w' => e = .returned (.pointer (some ⟨w.heap.size, 0, none⟩)) ∧ Made w.heap.size w w' a u f l n m := by
  go_enter Try.func5, Try.ntmps5
  go_wp2_with fail
  have b1 : Below w.heap.size w (w.alloc (.cells (C a none f none ⟨#[]⟩ 0 none none) 54)) := (Below.refl _ _).alloc (Nat.le_refl _) _
  have h1 := atAlloc w a f
  unfold C at b1 h1
  generalize (w.alloc _) = w1 at b1 h1 ⊢
  have hk := (setKey w.heap.size a l _ f n _ hn w1 _ _ _ _ h1)
  clear h1
  replace b1 := Lib.hid b1
  refine hk.mono ?_
  rintro e w2 ⟨rfl, h2, b2⟩
  have b3 := b1.out.trans b2
  clear b1 b2 hk
  generalize hz : w.heap.size = B at *
  replace h2 := Lib.hid h2
  replace b3 := Lib.hid b3
  replace hz := Lib.hid hz
  go_upto_if 25 with fail
  go_cut [] (fun wx => ∃ S, At wx B a none f none l n S none ∧ Below B w wx ∧ Str wx B (bits .and .u8 m 1 != 0) S strictN (bits .and .u8 m 16 != 0))
  case first =>
    have g17 : w2.cell? ⟨B, 17, none⟩ = some (.pointer none) := World.rowIs.cell h2.out (i := 17) (by omega)
    have f17 := World.rowIs.frozen h2.out 17
    have hl' := World.rowIs.lt h2.out
    have hl'' : B < w2.heap.size + 1 := by omega
    have hl := Lib.hid hl'
    cases hb : (bits .and .u8 m 1 != 0)
    · replace hb := Lib.hid hb
      go_wp2_with fail
      go_meet
      rw [hb.out]
      exact ⟨none, h2.out, b3.out, .inl ⟨rfl, rfl⟩⟩
    · replace hb := Lib.hid hb
      go_wp2_with fail
      go_meet
      rw [hb.out]
      exact ⟨some ⟨w2.heap.size, 0, none⟩, h2.out.putS _ _, belowPut b3.out _ _ (Nat.le_of_lt hl.out), strNew _ _ _ _ _ _ hl.out⟩
  case rest =>
    obtain ⟨S, h2', b3', rS⟩ := hcut
    replace h2 := Lib.hid h2'
    replace b3 := Lib.hid b3'
    replace rS := Lib.hid rS
    clear h2' b3'
    obtain ⟨w3, rfl⟩ : ∃ W : World, W = wc := ⟨_, rfl⟩
    go_upto_if 36 with fail
    go_cut [] (fun wx => ∃ S A, At wx B a none f none l n S A ∧ Below B w wx ∧ Str wx B (bits .and .u8 m 1 != 0) S strictN (bits .and .u8 m 16 != 0) ∧ Str wx B (bits .and .u8 m 2 != 0) A alwaysN (bits .and .u8 m 32 != 0))
    case first =>
      have g18 : w3.cell? ⟨B, 18, none⟩ = some (.pointer none) := World.rowIs.cell h2.out (i := 18) (by omega)
      have f18 := World.rowIs.frozen h2.out 18
      have hl' := World.rowIs.lt h2.out
      have hl'' : B < w3.heap.size + 1 := by omega
      have hl := Lib.hid hl'
      cases hb : (bits .and .u8 m 2 != 0)
      · replace hb := Lib.hid hb
        go_wp2_with fail
        go_meet
        rw [hb.out]
        exact ⟨S, none, h2.out, b3.out, rS.out, .inl ⟨rfl, rfl⟩⟩
      · replace hb := Lib.hid hb
        go_wp2_with fail
        go_meet
        rw [hb.out]
        exact ⟨S, some ⟨w3.heap.size, 0, none⟩, h2.out.putA _ _, belowPut b3.out _ _ (Nat.le_of_lt hl.out), rS.out.keep (kpPut _ _ _ _ _), strNew _ _ _ _ _ _ hl.out⟩
    case rest =>
      obtain ⟨S, A, h2', b3', rS, rA⟩ := hcut
      replace h2 := Lib.hid h2'
      replace b3 := Lib.hid b3'
      replace rS := Lib.hid rS
      replace rA := Lib.hid rA
      clear h2' b3'
      obtain ⟨w4, rfl⟩ : ∃ W : World, W = wc := ⟨_, rfl⟩
      go_upto_if 47 with fail
      go_cut [] (fun wx => ∃ S A U, At wx B a U f none l n S A ∧ Below B w wx ∧ Str wx B (bits .and .u8 m 1 != 0) S strictN (bits .and .u8 m 16 != 0) ∧ Str wx B (bits .and .u8 m 2 != 0) A alwaysN (bits .and .u8 m 32 != 0) ∧ Url wx B (bits .and .u8 m 4 != 0) U u)
      case first =>
        have g1 : w4.cell? ⟨B, 1, none⟩ = some (.pointer none) := World.rowIs.cell h2.out (i := 1) (by omega)
        have f1 := World.rowIs.frozen h2.out 1
        have hl' := World.rowIs.lt h2.out
        have hl'' : B < w4.heap.size + 1 := by omega
        have hl := Lib.hid hl'
        cases hb : (bits .and .u8 m 4 != 0)
        · replace hb := Lib.hid hb
          go_wp2_with fail
          go_meet
          rw [hb.out]
          exact ⟨S, A, none, h2.out, b3.out, rS.out, rA.out, .inl ⟨rfl, rfl⟩⟩
        · replace hb := Lib.hid hb
          go_wp2_with fail
          go_meet
          rw [hb.out]
          exact ⟨S, A, some ⟨w4.heap.size, 0, none⟩, h2.out.putU _ _, belowPut b3.out _ _ (Nat.le_of_lt hl.out), rS.out.keep (kpPut _ _ _ _ _), rA.out.keep (kpPut _ _ _ _ _), urlNew _ _ _ _ _ _ hl.out⟩
      case rest =>
        obtain ⟨S, A, U, h2', b3', rS, rA, rU⟩ := hcut
        replace h2 := Lib.hid h2'
        replace b3 := Lib.hid b3'
        replace rS := Lib.hid rS
        replace rA := Lib.hid rA
        replace rU := Lib.hid rU
        clear h2' b3'
        obtain ⟨w5, rfl⟩ : ∃ W : World, W = wc := ⟨_, rfl⟩
        go_upto_if 54 with fail
        go_cut [] (fun wx => ∃ S A U P, At wx B a U f P l n S A ∧ Below B w wx ∧ Str wx B (bits .and .u8 m 1 != 0) S strictN (bits .and .u8 m 16 != 0) ∧ Str wx B (bits .and .u8 m 2 != 0) A alwaysN (bits .and .u8 m 32 != 0) ∧ Url wx B (bits .and .u8 m 4 != 0) U u ∧ Pth B (bits .and .u8 m 8 != 0) P)
        case first =>
          have g3 : w5.cell? ⟨B, 3, none⟩ = some (.pointer none) := World.rowIs.cell h2.out (i := 3) (by omega)
          have f3 := World.rowIs.frozen h2.out 3
          have hl' := World.rowIs.lt h2.out
          have hl'' : B < w5.heap.size + 1 := by omega
          have hl := Lib.hid hl'
          cases hb : (bits .and .u8 m 8 != 0)
          · replace hb := Lib.hid hb
            go_wp2_with fail
            go_meet
            rw [hb.out]
            exact ⟨S, A, U, none, h2.out, b3.out, rS.out, rA.out, rU.out, .inl ⟨rfl, rfl⟩⟩
          · replace hb := Lib.hid hb
            go_wp2_with fail
            go_meet
            rw [hb.out]
            exact ⟨S, A, U, some ⟨w5.heap.size, 0, none⟩, h2.out.putP _ _, belowPut b3.out _ _ (Nat.le_of_lt hl.out), rS.out.keep (kpPut _ _ _ _ _), rA.out.keep (kpPut _ _ _ _ _), rU.out.keep (kpPut _ _ _ _ _), .inr ⟨rfl, w5.heap.size, hl.out, rfl⟩⟩
        case rest =>
          obtain ⟨S, A, U, P, h2', b3', rS, rA, rU, rP⟩ := hcut
          replace h2 := Lib.hid h2'
          replace b3 := Lib.hid b3'
          replace rS := Lib.hid rS
          replace rA := Lib.hid rA
          replace rU := Lib.hid rU
          replace rP := Lib.hid rP
          clear h2' b3'
          obtain ⟨w6, rfl⟩ : ∃ W : World, W = wc := ⟨_, rfl⟩
          go_wp2_with fail
          go_ret
          rw [hz.out]
          exact ⟨rfl, U, P, S, A, h2.out, b3.out, rS.out, rA.out, rU.out, rP.out⟩
end Go.Proofs.Ytodbjiiogjoogaa.Ext
