/-
  The readers of the usage parser; the parser that is made. No condition.
-/
import Derived.Test.YthhhmildgnoniaaUse4
namespace Go.Proofs.Ythhhmildgnoniaa.Use
open Go.RowKit Go.ChangeShapes Go.WideShapes Go.ChangeAt Go.Proofs.Ythhhmildgnoniaa.Ints Go.Maps

section
variable (P S T n N x : Nat) (q : Option (Nat × Nat)) (dead tp : Bool) (U C c : Nat → Nat) (D : DataW Unit) (w : World)
theorem useCount (hx : x < n) (h : St w P S T n q dead tp U C c D N) :
    Calls Try.prog 8 #[.pointer (some ⟨P, 0, none⟩), .int .u32 x] w fun e w' => e = .returned (.int .u32 (U x : Int)) ∧ w = w' := by
  obtain ⟨p1, p2, p3, p4, p5⟩ := h.pr
  obtain ⟨G, hG, hc⟩ := h.sy
  have s1 : w.cell? ⟨S, x * 10 + 4, none⟩ = some (.int .u32 (U x : Int)) := hc x hx ▸ hG.cell (by omega)
  clear hG hc h
  go_enter Try.func8, Try.ntmps8
  go_wp2_with fail
  go_ret
  exact ⟨rfl, rfl⟩
theorem tsCount (hx : x < n) (h : St w P S T n q dead tp U C c D N) :
    Calls Try.prog 9 #[.pointer (some ⟨P, 0, none⟩), .int .u32 x] w fun e w' => e = .returned (.int .u32 (C x : Int)) ∧ w = w' := by
  obtain ⟨p1, p2, p3, p4, p5⟩ := h.pr
  have s1 := h.ts.cell hx
  clear h
  go_enter Try.func9, Try.ntmps9
  go_wp2_with fail
  go_ret
  exact ⟨rfl, rfl⟩
def puse (q : Option (Nat × Nat)) (c : Nat → Nat) (x : Nat) : Nat := if q = none then 0 else c x
theorem partUse (hx : x < n) (h : St w P S T n q dead tp U C c D N) :
    Calls Try.prog 10 #[.pointer (some ⟨P, 0, none⟩), .int .u32 x] w fun e w' => e = .returned (.tuple #[.int .u32 (puse q c x : Int), .bool (decide (puse q c x ≠ 0))]) ∧ Below w.heap.size w w' := by
  obtain ⟨p1, p2, p3, p4, p5⟩ := h.pr
  cases q with
  | none =>
    clear h
    go_enter Try.func10, Try.ntmps10
    go_wp2_with fail
    exact bodyPost_ret (v := .tuple #[.int .u32 0, .bool false]) (by simp [results, Try.results10, go_sem]) rfl ⟨by simp [puse], Below.refl _ _⟩
  | some q =>
    obtain ⟨p, M⟩ := q
    obtain ⟨g1, g2, g3, g4⟩ := h.part p M rfl
    have hl := look_ok g2 g3 h.small.1 hx
    unfold refV at hl
    clear h
    replace g2 := Lib.hid g2
    replace g3 := Lib.hid g3
    replace g4 := Lib.hid g4
    go_enter Try.func10, Try.ntmps10
    go_wp2_with fail
    exact bodyPost_ret (v := .tuple #[.int .u32 (c x : Int), .bool (!decide (c x = 0))]) (by simp [results, Try.results10, go_sem]) rfl ⟨by simp [puse], (Below.refl _ _).alloc (Nat.le_refl _) _⟩
def plen (q : Option (Nat × Nat)) (D : DataW Unit) : Nat := if q = none then 0 else Maps.size D
set_option maxRecDepth 10000 in
theorem partLen (h : St w P S T n q dead tp U C c D N) :
    Calls Try.prog 11 #[.pointer (some ⟨P, 0, none⟩)] w fun e w' => e = .returned (.int .i64 (plen q D : Int)) ∧ w = w' := by
  obtain ⟨p1, p2, p3, p4, p5⟩ := h.pr
  cases q with
  | none =>
    clear h
    go_enter Try.func11, Try.ntmps11
    go_wp2_with fail
    go_ret
    exact ⟨rfl, rfl⟩
  | some q =>
    obtain ⟨p, M⟩ := q
    obtain ⟨g1, g2, g3, g4⟩ := h.part p M rfl
    have hl := g2.len Try.underlying176 3
    clear h
    replace g2 := Lib.hid g2
    replace g3 := Lib.hid g3
    replace g4 := Lib.hid g4
    go_enter Try.func11, Try.ntmps11
    go_wp2_with fail
    go_ret
    exact ⟨rfl, rfl⟩
theorem recordZ (hx : x < n) (hN : N ≤ 999000) (h : St w P S T n q dead tp U C c D N) (hf : ¬ SS S T q w.heap.size) :
    Calls Try.prog 7 #[.pointer (some ⟨P, 0, none⟩), .int .u32 x] w (Rec w P S T n q dead tp U C c D N x) := by
  go_enter Try.func7, Try.ntmps7
  go_wp2_with fail
  go_at_call 19
  refine (record P S T n N x q dead tp U C c D w hx hN h hf).mono ?_
  rintro e w' ⟨rfl, h2⟩
  replace h2 := Lib.hid h2
  go_wp2_with fail
  go_end0
  exact ⟨rfl, h2.out⟩
theorem ignoreZ (hx : x < n) (hN : N ≤ 999000) (h : St w P S T n q dead tp U C c D N) (hf : ¬ SS S T q w.heap.size) (hu : dead = false → 1 ≤ U x ∧ (q ≠ none → 1 ≤ c x)) :
    Calls Try.prog 12 #[.pointer (some ⟨P, 0, none⟩), .int .u32 x] w (Ign w P S T n q dead tp U C c D N x) := by
  replace hu := Lib.hid hu
  go_enter Try.func12, Try.ntmps12
  go_wp2_with fail
  go_at_call 20
  refine (ignore P S T n N x q dead tp U C c D w hx hN h hf hu.out).mono ?_
  rintro e w' ⟨rfl, h2⟩
  replace h2 := Lib.hid h2
  go_wp2_with fail
  go_end0
  exact ⟨rfl, h2.out⟩
end
end Go.Proofs.Ythhhmildgnoniaa.Use
