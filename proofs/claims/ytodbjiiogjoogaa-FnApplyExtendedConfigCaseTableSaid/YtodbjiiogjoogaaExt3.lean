/-
  The small functions beside applyExtendedConfig. Condition: none.
-/
import Derived.Test.YtodbjiiogjoogaaExt2
namespace Go.Proofs.Ytodbjiiogjoogaa.Ext
open Go.RowKit Go.ChangeShapes Go.WideShapes Go.ChangeAt Go.Proofs.Ytodbjiiogjoogaa.Ints

theorem belowD {B : Nat} {a w : World} (h : Below B a w) (n : Nat) : Below B a (w.drewN n) := ⟨h.os, h.tape, h.output, h.size, h.block⟩
theorem bcel {a w : World} (h : Below a.heap.size a w) {x : Addr} {v : Value} (g : a.cell? x = some v) : w.cell? x = some v := (h.cell (lt_of_cell g)).trans g
theorem lower (D : Nat) (da f l : ByteArray) (n : Int) (U P S A : Option Addr) (w : World) (h : At w D da U f P l n S A) :
    Calls Try.prog 7 #[.pointer (some ⟨D, 0, none⟩)] w fun e w' => e = .returned (.string l) ∧ w = w' := by
  have g : w.cell? ⟨D, 4, none⟩ = some (.string l) := World.rowIs.cell h (i := 4) (by omega)
  replace h := Lib.hid h
  go_enter Try.func7, Try.ntmps7
  go_wp2_with fail
  go_ret
  exact ⟨rfl, rfl⟩
theorem keyLen (D : Nat) (da f l : ByteArray) (n : Int) (U P S A : Option Addr) (w : World) (h : At w D da U f P l n S A) :
    Calls Try.prog 8 #[.pointer (some ⟨D, 0, none⟩)] w fun e w' => e = .returned (.int .i32 n) ∧ w = w' := by
  have g : w.cell? ⟨D, 16, none⟩ = some (.int .i32 n) := World.rowIs.cell h (i := 16) (by omega)
  replace h := Lib.hid h
  go_enter Try.func8, Try.ntmps8
  go_wp2_with fail
  go_ret
  exact ⟨rfl, rfl⟩
set_option maxRecDepth 100000 in
theorem untouched (D : Nat) (da f l : ByteArray) (n : Int) (U P S A : Option Addr) (w : World) (h : At w D da U f P l n S A) :
    Calls Try.prog 9 #[.pointer (some ⟨D, 0, none⟩)] w fun e w' => e = .returned (.bool true) ∧ Below w.heap.size w w' := by
  have e19 : w.cell? ⟨D, 19, none⟩ = some (.slice none 0 0) := World.rowIs.cell h (i := 19) (by omega)
  have e20 : w.cell? ⟨D, 20, none⟩ = some (.slice none 0 0) := World.rowIs.cell h (i := 20) (by omega)
  have e21 : w.cell? ⟨D, 21, none⟩ = some (.pointer none) := World.rowIs.cell h (i := 21) (by omega)
  have e22 : w.cell? ⟨D, 22, none⟩ = some (.int .u8 0) := World.rowIs.cell h (i := 22) (by omega)
  have e23 : w.cell? ⟨D, 23, none⟩ = some (.int .u8 0) := World.rowIs.cell h (i := 23) (by omega)
  have e24 : w.cell? ⟨D, 24, none⟩ = some (.int .u8 0) := World.rowIs.cell h (i := 24) (by omega)
  have e25 : w.cell? ⟨D, 25, none⟩ = some (.int .u8 0) := World.rowIs.cell h (i := 25) (by omega)
  have e26 : w.cell? ⟨D, 26, none⟩ = some (.int .u8 0) := World.rowIs.cell h (i := 26) (by omega)
  have e27 : w.cell? ⟨D, 27, none⟩ = some (.int .u8 0) := World.rowIs.cell h (i := 27) (by omega)
  have e28 : w.cell? ⟨D, 28, none⟩ = some (.int .u8 0) := World.rowIs.cell h (i := 28) (by omega)
  have hl := World.rowIs.lt h
  have hl1 : D < w.heap.size + 1 := by omega
  replace h := Lib.hid h
  go_enter Try.func9, Try.ntmps9
  go_wp2_with fail
  go_quiet (fail)
  have b2 : Below w.heap.size w ((w.alloc (.cells #[.slice none 0 0, .slice none 0 0, .pointer none, .int .u8 0] 47)).drewN nq) := belowD ((Below.refl _ _).alloc (Nat.le_refl _) _) _
  replace e23 := bcel b2 e23
  replace e24 := bcel b2 e24
  replace e25 := bcel b2 e25
  replace e26 := bcel b2 e26
  replace e27 := bcel b2 e27
  replace e28 := bcel b2 e28
  generalize ((w.alloc (.cells #[.slice none 0 0, .slice none 0 0, .pointer none, .int .u8 0] 47)).drewN nq) = w2 at *
  have hl2 : D < w2.heap.size := Nat.lt_of_lt_of_le hl b2.size
  clear e19 e20 e21 e22
  replace b2 := Lib.hid b2
  go_upto_region 5 with fail
  have b3 : Below w2.heap.size w2 (w2.alloc (.cells #[.int .u8 0, .int .u8 0, .int .u8 0, .int .u8 0, .int .u8 0, .int .u8 0] 52)) := (Below.refl _ _).alloc (Nat.le_refl _) _
  have z0 : (w2.alloc (.cells #[.int .u8 0, .int .u8 0, .int .u8 0, .int .u8 0, .int .u8 0, .int .u8 0] 52)).cell? ⟨w2.heap.size, 0, none⟩ = some (.int .u8 0) := by go_simp
  have z1 : (w2.alloc (.cells #[.int .u8 0, .int .u8 0, .int .u8 0, .int .u8 0, .int .u8 0, .int .u8 0] 52)).cell? ⟨w2.heap.size, 1, none⟩ = some (.int .u8 0) := by go_simp
  have z2 : (w2.alloc (.cells #[.int .u8 0, .int .u8 0, .int .u8 0, .int .u8 0, .int .u8 0, .int .u8 0] 52)).cell? ⟨w2.heap.size, 2, none⟩ = some (.int .u8 0) := by go_simp
  have z3 : (w2.alloc (.cells #[.int .u8 0, .int .u8 0, .int .u8 0, .int .u8 0, .int .u8 0, .int .u8 0] 52)).cell? ⟨w2.heap.size, 3, none⟩ = some (.int .u8 0) := by go_simp
  have z4 : (w2.alloc (.cells #[.int .u8 0, .int .u8 0, .int .u8 0, .int .u8 0, .int .u8 0, .int .u8 0] 52)).cell? ⟨w2.heap.size, 4, none⟩ = some (.int .u8 0) := by go_simp
  have z5 : (w2.alloc (.cells #[.int .u8 0, .int .u8 0, .int .u8 0, .int .u8 0, .int .u8 0, .int .u8 0] 52)).cell? ⟨w2.heap.size, 5, none⟩ = some (.int .u8 0) := by go_simp
  replace e23 := bcel b3 e23
  replace e24 := bcel b3 e24
  replace e25 := bcel b3 e25
  replace e26 := bcel b3 e26
  replace e27 := bcel b3 e27
  replace e28 := bcel b3 e28
  replace b3 := Lib.hid (b2.out.trans (b3.mono b2.out.size))
  generalize (w2.alloc (.cells #[.int .u8 0, .int .u8 0, .int .u8 0, .int .u8 0, .int .u8 0, .int .u8 0] 52)) = w3 at *
  go_wp2_with fail
  go_quiet (fail)
  have c0 : Below w3.heap.size w3 (w3.drewN nq) := belowD (Below.refl _ _) _
  replace b3 := Lib.hid (b3.out.trans (c0.mono b3.out.size))
  replace e23 := bcel c0 e23
  replace e24 := bcel c0 e24
  replace e25 := bcel c0 e25
  replace e26 := bcel c0 e26
  replace e27 := bcel c0 e27
  replace e28 := bcel c0 e28
  replace z0 := bcel c0 z0
  replace z1 := bcel c0 z1
  replace z2 := bcel c0 z2
  replace z3 := bcel c0 z3
  replace z4 := bcel c0 z4
  replace z5 := bcel c0 z5
  clear c0
  generalize (w3.drewN nq) = w4 at *
  go_wp2_with fail
  go_quiet (fail)
  have c1 : Below w4.heap.size w4 (w4.drewN nq) := belowD (Below.refl _ _) _
  replace b3 := Lib.hid (b3.out.trans (c1.mono b3.out.size))
  replace e23 := bcel c1 e23
  replace e24 := bcel c1 e24
  replace e25 := bcel c1 e25
  replace e26 := bcel c1 e26
  replace e27 := bcel c1 e27
  replace e28 := bcel c1 e28
  replace z0 := bcel c1 z0
  replace z1 := bcel c1 z1
  replace z2 := bcel c1 z2
  replace z3 := bcel c1 z3
  replace z4 := bcel c1 z4
  replace z5 := bcel c1 z5
  clear c1
  generalize (w4.drewN nq) = w5 at *
  go_wp2_with fail
  go_quiet (fail)
  have c2 : Below w5.heap.size w5 (w5.drewN nq) := belowD (Below.refl _ _) _
  replace b3 := Lib.hid (b3.out.trans (c2.mono b3.out.size))
  clear c2
  generalize (w5.drewN nq) = w6 at *
  go_wp2_with fail
  go_ret
  exact ⟨rfl, b3.out⟩
set_option maxRecDepth 100000 in
theorem intact (B : Nat) (S : Option Addr) (m s v : Int) (nm : ByteArray) (w : World) (h : Str w B (bits .and .u8 m s != 0) S nm (bits .and .u8 m v != 0)) :
    Calls Try.prog 10 #[.pointer S, .int .u8 m, .int .u8 s, .int .u8 v, .string nm] w fun e w' => e = .returned (.bool true) ∧ w = w' := by
  rcases h with ⟨h, rfl⟩ | ⟨h, x, hx, rfl, g0, g13⟩
  · have h' : bits .and .u8 m s = 0 := by simpa using h
    replace h := Lib.hid h
    go_enter Try.func10, Try.ntmps10
    go_wp2_with fail
    go_ret
    exact ⟨rfl, rfl⟩
  · have h' : ¬ bits .and .u8 m s = 0 := by simpa using h
    replace h := Lib.hid h
    go_enter Try.func10, Try.ntmps10
    go_wp2_with fail
    go_ret
    exact ⟨rfl, rfl⟩
end Go.Proofs.Ytodbjiiogjoogaa.Ext
