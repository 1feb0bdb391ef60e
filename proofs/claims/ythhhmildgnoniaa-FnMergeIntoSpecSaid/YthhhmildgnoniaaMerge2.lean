/-
  mergeInto: what the two structs and the lists read behind the call. Condition: at most 65536 elements each.
-/
import Derived.Test.YthhhmildgnoniaaMerge
import Derived.Deep.RegionLaw
namespace Go.Proofs.Ythhhmildgnoniaa.Merge
open Go.RowKit Go.ChangeShapes Go.WideShapes Go.ChangeAt Go.Proofs.Ythhhmildgnoniaa.Ints Go.Proofs.Ythhhmildgnoniaa.Pairs

def seven (a0 a1 b0 b1 c0 c1 : Int) (v : Value) : Nat → Value := fun j => (#[.int .i32 a0, .int .i32 a1, .int .i32 b0, .int .i32 b1, .int .i32 c0, .int .i32 c1, v] : Array Value).getD j undef
def pk (c x y : Int) : Int := if 0 < c then x else y
theorem pk_pos {c x y : Int} (h : 0 < c) : pk c x y = x := if_pos h
theorem pk_neg {c x y : Int} (h : ¬ 0 < c) : pk c x y = y := if_neg h
def cat (f : Nat → Int) (n : Nat) (g : Nat → Int) : Nat → Int := fun i => if i < n then f i else g (i - n)

structure Src (B : Nat) (w0 w : World) (F T : Nat) (a0 a1 b0 b1 c0 c1 x0 x1 y0 y1 z0 z1 : Int) (v u : Value) : Prop where
  f : w.rowIs F 198 7 (seven a0 a1 b0 b1 c0 c1 v)
  t : w.rowIs T 198 7 (seven x0 x1 y0 y1 z0 z1 u)
  ne : F ≠ T
  le : B ≤ T
  below : Below B w0 w
  keep : ∀ b, b ≠ T → w.heap[b]? = w0.heap[b]?
section
variable {B : Nat} {w0 w : World} {F T : Nat} {a0 a1 b0 b1 c0 c1 x0 x1 y0 y1 z0 z1 : Int} {v u : Value}
theorem Src.gen (h : Src B w0 w F T a0 a1 b0 b1 c0 c1 x0 x1 y0 y1 z0 z1 v u) {w' : World} (hb : Below T w w') (hk : ∀ b, b ≠ T → w'.heap[b]? = w.heap[b]?) {x0' x1' y0' y1' z0' z1' : Int} {u' : Value} (ht : w'.rowIs T 198 7 (seven x0' x1' y0' y1' z0' z1' u')) :
    Src B w0 w' F T a0 a1 b0 b1 c0 c1 x0' x1' y0' y1' z0' z1' v u' :=
  ⟨h.f.of_block (hk _ h.ne), ht, h.ne, h.le, h.below.trans (hb.mono h.le), fun b hb' => (hk b hb').trans (h.keep b hb')⟩
theorem keep2 (w : World) (T i j : Nat) (x y : Value) : ∀ b, b ≠ T → ((w.setCell ⟨T, i, none⟩ x).setCell ⟨T, j, none⟩ y).heap[b]? = w.heap[b]? := fun b hb =>
  (Go.Deep.blk_setCell_other _ _ _ _ hb).trans (Go.Deep.blk_setCell_other _ _ _ _ hb)
theorem bel1 (w : World) (T i : Nat) (x : Value) : Below T w (w.setCell ⟨T, i, none⟩ x) := (Below.refl _ _).setCell (Nat.le_refl T) _
theorem bel2 (w : World) (T i j : Nat) (x y : Value) : Below T w ((w.setCell ⟨T, i, none⟩ x).setCell ⟨T, j, none⟩ y) := (bel1 w T i x).setCell (Nat.le_refl T) _
theorem Src.A (h : Src B w0 w F T a0 a1 b0 b1 c0 c1 x0 x1 y0 y1 z0 z1 v u) : Src B w0 ((w.setCell ⟨T, 0, none⟩ (.int .i32 a0)).setCell ⟨T, 1, none⟩ (.int .i32 a1)) F T a0 a1 b0 b1 c0 c1 a0 a1 y0 y1 z0 z1 v u :=
  h.gen (bel2 _ _ _ _ _ _) (keep2 w T 0 1 _ _) (((h.t.set 0 _).set 1 _).congr fun i hi => by
    match i, hi with
    | 0, _ | 1, _ | 2, _ | 3, _ | 4, _ | 5, _ | 6, _ => rfl)
theorem Src.Bb (h : Src B w0 w F T a0 a1 b0 b1 c0 c1 x0 x1 y0 y1 z0 z1 v u) : Src B w0 ((w.setCell ⟨T, 2, none⟩ (.int .i32 b0)).setCell ⟨T, 3, none⟩ (.int .i32 b1)) F T a0 a1 b0 b1 c0 c1 x0 x1 b0 b1 z0 z1 v u :=
  h.gen (bel2 _ _ _ _ _ _) (keep2 w T 2 3 _ _) (((h.t.set 2 _).set 3 _).congr fun i hi => by
    match i, hi with
    | 0, _ | 1, _ | 2, _ | 3, _ | 4, _ | 5, _ | 6, _ => rfl)
theorem Src.C (h : Src B w0 w F T a0 a1 b0 b1 c0 c1 x0 x1 y0 y1 z0 z1 v u) : Src B w0 ((w.setCell ⟨T, 4, none⟩ (.int .i32 c0)).setCell ⟨T, 5, none⟩ (.int .i32 c1)) F T a0 a1 b0 b1 c0 c1 x0 x1 y0 y1 c0 c1 v u :=
  h.gen (bel2 _ _ _ _ _ _) (keep2 w T 4 5 _ _) (((h.t.set 4 _).set 5 _).congr fun i hi => by
    match i, hi with
    | 0, _ | 1, _ | 2, _ | 3, _ | 4, _ | 5, _ | 6, _ => rfl)
theorem Src.U (h : Src B w0 w F T a0 a1 b0 b1 c0 c1 x0 x1 y0 y1 z0 z1 v u) (u' : Value) : Src B w0 (w.setCell ⟨T, 6, none⟩ u') F T a0 a1 b0 b1 c0 c1 x0 x1 y0 y1 z0 z1 v u' :=
  h.gen (bel1 _ _ _ _) (fun b hb => Go.Deep.blk_setCell_other _ _ _ _ hb) ((h.t.set 6 _).congr fun i hi => by
    match i, hi with
    | 0, _ | 1, _ | 2, _ | 3, _ | 4, _ | 5, _ | 6, _ => rfl)
end
set_option maxRecDepth 100000 in
set_option maxHeartbeats 8000000 in
theorem merge0 (B F T : Nat) (a0 a1 b0 b1 c0 c1 x0 x1 y0 y1 z0 z1 : Int) (fo to : Option Addr) (m n fc tc : Nat) (w : World) (hn : n ≤ 65536) (h : Src B w w F T a0 a1 b0 b1 c0 c1 x0 x1 y0 y1 z0 z1 (.slice fo 0 fc) (.slice to m tc)) :
    Calls Try.prog 23 #[.pointer (some ⟨F, 0, none⟩), .pointer (some ⟨T, 0, none⟩)] w fun e w' => e = .returned (.tuple #[]) ∧
      Src B w w' F T a0 a1 b0 b1 c0 c1 (pk a1 a0 x0) (pk a1 a1 x1) (pk b1 b0 y0) (pk b1 b1 y1) (pk c1 c0 z0) (pk c1 c1 z1) (.slice fo 0 fc) (.slice to m tc) := by
  have f0 : w.cell? ⟨F, 0, none⟩ = some (.int .i32 a0) := h.f.cell (i := 0) (by omega)
  have f1 : w.cell? ⟨F, 1, none⟩ = some (.int .i32 a1) := h.f.cell (i := 1) (by omega)
  have f2 : w.cell? ⟨F, 2, none⟩ = some (.int .i32 b0) := h.f.cell (i := 2) (by omega)
  have f3 : w.cell? ⟨F, 3, none⟩ = some (.int .i32 b1) := h.f.cell (i := 3) (by omega)
  have f4 : w.cell? ⟨F, 4, none⟩ = some (.int .i32 c0) := h.f.cell (i := 4) (by omega)
  have f5 : w.cell? ⟨F, 5, none⟩ = some (.int .i32 c1) := h.f.cell (i := 5) (by omega)
  have t0 : w.cell? ⟨T, 0, none⟩ = some (.int .i32 x0) := h.t.cell (i := 0) (by omega)
  have t1 : w.cell? ⟨T, 1, none⟩ = some (.int .i32 x1) := h.t.cell (i := 1) (by omega)
  have t2 : w.cell? ⟨T, 2, none⟩ = some (.int .i32 y0) := h.t.cell (i := 2) (by omega)
  have t3 : w.cell? ⟨T, 3, none⟩ = some (.int .i32 y1) := h.t.cell (i := 3) (by omega)
  have t4 : w.cell? ⟨T, 4, none⟩ = some (.int .i32 z0) := h.t.cell (i := 4) (by omega)
  have t5 : w.cell? ⟨T, 5, none⟩ = some (.int .i32 z1) := h.t.cell (i := 5) (by omega)
  have q0 := h.t.frozen 0
  have q1 := h.t.frozen 1
  have q2 := h.t.frozen 2
  have q3 := h.t.frozen 3
  have q4 := h.t.frozen 4
  have q5 := h.t.frozen 5
  have q6 := h.t.frozen 6
  have ne := h.ne
  have ne' := h.ne.symm
  have f6 : w.cell? ⟨F, 6, none⟩ = some (.slice fo 0 fc) := h.f.cell (i := 6) (by omega)
  have t6 : w.cell? ⟨T, 6, none⟩ = some (.slice to m tc) := h.t.cell (i := 6) (by omega)
  rcases Classical.em (0 < a1) with ha | ha <;> rcases Classical.em (0 < b1) with hb | hb <;> rcases Classical.em (0 < c1) with hc | hc
  · rw [pk_pos ha, pk_pos ha, pk_pos hb, pk_pos hb, pk_pos hc, pk_pos hc]
    go_enter Try.func23, Try.ntmps23
    go_wp2_with fail
    go_end0
    exact ⟨rfl, h.A.Bb.C⟩
  · rw [pk_pos ha, pk_pos ha, pk_pos hb, pk_pos hb, pk_neg hc, pk_neg hc]
    go_enter Try.func23, Try.ntmps23
    go_wp2_with fail
    go_end0
    exact ⟨rfl, h.A.Bb⟩
  · rw [pk_pos ha, pk_pos ha, pk_neg hb, pk_neg hb, pk_pos hc, pk_pos hc]
    go_enter Try.func23, Try.ntmps23
    go_wp2_with fail
    go_end0
    exact ⟨rfl, h.A.C⟩
  · rw [pk_pos ha, pk_pos ha, pk_neg hb, pk_neg hb, pk_neg hc, pk_neg hc]
    go_enter Try.func23, Try.ntmps23
    go_wp2_with fail
    go_end0
    exact ⟨rfl, h.A⟩
  · rw [pk_neg ha, pk_neg ha, pk_pos hb, pk_pos hb, pk_pos hc, pk_pos hc]
    go_enter Try.func23, Try.ntmps23
    go_wp2_with fail
    go_end0
    exact ⟨rfl, h.Bb.C⟩
  · rw [pk_neg ha, pk_neg ha, pk_pos hb, pk_pos hb, pk_neg hc, pk_neg hc]
    go_enter Try.func23, Try.ntmps23
    go_wp2_with fail
    go_end0
    exact ⟨rfl, h.Bb⟩
  · rw [pk_neg ha, pk_neg ha, pk_neg hb, pk_neg hb, pk_pos hc, pk_pos hc]
    go_enter Try.func23, Try.ntmps23
    go_wp2_with fail
    go_end0
    exact ⟨rfl, h.C⟩
  · rw [pk_neg ha, pk_neg ha, pk_neg hb, pk_neg hb, pk_neg hc, pk_neg hc]
    go_enter Try.func23, Try.ntmps23
    go_wp2_with fail
    go_end0
    exact ⟨rfl, h⟩
set_option maxRecDepth 100000 in
set_option maxHeartbeats 8000000 in
theorem merge1 (B F T : Nat) (a0 a1 b0 b1 c0 c1 x0 x1 y0 y1 z0 z1 : Int) (fo to : Option Addr) (m n fc tc : Nat) (w : World) (hn : n ≤ 65536) (h : Src B w w F T a0 a1 b0 b1 c0 c1 x0 x1 y0 y1 z0 z1 (.slice fo ((n + 1 : Nat)) fc) (.slice to 0 tc)) :
    Calls Try.prog 23 #[.pointer (some ⟨F, 0, none⟩), .pointer (some ⟨T, 0, none⟩)] w fun e w' => e = .returned (.tuple #[]) ∧
      Src B w w' F T a0 a1 b0 b1 c0 c1 (pk a1 a0 x0) (pk a1 a1 x1) (pk b1 b0 y0) (pk b1 b1 y1) (pk c1 c0 z0) (pk c1 c1 z1) (.slice fo ((n + 1 : Nat)) fc) (.slice fo ((n + 1 : Nat)) fc) := by
  have f0 : w.cell? ⟨F, 0, none⟩ = some (.int .i32 a0) := h.f.cell (i := 0) (by omega)
  have f1 : w.cell? ⟨F, 1, none⟩ = some (.int .i32 a1) := h.f.cell (i := 1) (by omega)
  have f2 : w.cell? ⟨F, 2, none⟩ = some (.int .i32 b0) := h.f.cell (i := 2) (by omega)
  have f3 : w.cell? ⟨F, 3, none⟩ = some (.int .i32 b1) := h.f.cell (i := 3) (by omega)
  have f4 : w.cell? ⟨F, 4, none⟩ = some (.int .i32 c0) := h.f.cell (i := 4) (by omega)
  have f5 : w.cell? ⟨F, 5, none⟩ = some (.int .i32 c1) := h.f.cell (i := 5) (by omega)
  have t0 : w.cell? ⟨T, 0, none⟩ = some (.int .i32 x0) := h.t.cell (i := 0) (by omega)
  have t1 : w.cell? ⟨T, 1, none⟩ = some (.int .i32 x1) := h.t.cell (i := 1) (by omega)
  have t2 : w.cell? ⟨T, 2, none⟩ = some (.int .i32 y0) := h.t.cell (i := 2) (by omega)
  have t3 : w.cell? ⟨T, 3, none⟩ = some (.int .i32 y1) := h.t.cell (i := 3) (by omega)
  have t4 : w.cell? ⟨T, 4, none⟩ = some (.int .i32 z0) := h.t.cell (i := 4) (by omega)
  have t5 : w.cell? ⟨T, 5, none⟩ = some (.int .i32 z1) := h.t.cell (i := 5) (by omega)
  have q0 := h.t.frozen 0
  have q1 := h.t.frozen 1
  have q2 := h.t.frozen 2
  have q3 := h.t.frozen 3
  have q4 := h.t.frozen 4
  have q5 := h.t.frozen 5
  have q6 := h.t.frozen 6
  have ne := h.ne
  have ne' := h.ne.symm
  have f6 : w.cell? ⟨F, 6, none⟩ = some (.slice fo ((n + 1 : Nat)) fc) := h.f.cell (i := 6) (by omega)
  have t6 : w.cell? ⟨T, 6, none⟩ = some (.slice to 0 tc) := h.t.cell (i := 6) (by omega)
  rcases Classical.em (0 < a1) with ha | ha <;> rcases Classical.em (0 < b1) with hb | hb <;> rcases Classical.em (0 < c1) with hc | hc
  · rw [pk_pos ha, pk_pos ha, pk_pos hb, pk_pos hb, pk_pos hc, pk_pos hc]
    go_enter Try.func23, Try.ntmps23
    go_wp2_with fail
    go_end0
    exact ⟨rfl, (h.A.Bb.C).U _⟩
  · rw [pk_pos ha, pk_pos ha, pk_pos hb, pk_pos hb, pk_neg hc, pk_neg hc]
    go_enter Try.func23, Try.ntmps23
    go_wp2_with fail
    go_end0
    exact ⟨rfl, (h.A.Bb).U _⟩
  · rw [pk_pos ha, pk_pos ha, pk_neg hb, pk_neg hb, pk_pos hc, pk_pos hc]
    go_enter Try.func23, Try.ntmps23
    go_wp2_with fail
    go_end0
    exact ⟨rfl, (h.A.C).U _⟩
  · rw [pk_pos ha, pk_pos ha, pk_neg hb, pk_neg hb, pk_neg hc, pk_neg hc]
    go_enter Try.func23, Try.ntmps23
    go_wp2_with fail
    go_end0
    exact ⟨rfl, (h.A).U _⟩
  · rw [pk_neg ha, pk_neg ha, pk_pos hb, pk_pos hb, pk_pos hc, pk_pos hc]
    go_enter Try.func23, Try.ntmps23
    go_wp2_with fail
    go_end0
    exact ⟨rfl, (h.Bb.C).U _⟩
  · rw [pk_neg ha, pk_neg ha, pk_pos hb, pk_pos hb, pk_neg hc, pk_neg hc]
    go_enter Try.func23, Try.ntmps23
    go_wp2_with fail
    go_end0
    exact ⟨rfl, (h.Bb).U _⟩
  · rw [pk_neg ha, pk_neg ha, pk_neg hb, pk_neg hb, pk_pos hc, pk_pos hc]
    go_enter Try.func23, Try.ntmps23
    go_wp2_with fail
    go_end0
    exact ⟨rfl, (h.C).U _⟩
  · rw [pk_neg ha, pk_neg ha, pk_neg hb, pk_neg hb, pk_neg hc, pk_neg hc]
    go_enter Try.func23, Try.ntmps23
    go_wp2_with fail
    go_end0
    exact ⟨rfl, (h).U _⟩

theorem Src.drew {B : Nat} {w0 w : World} {F T : Nat} {a0 a1 b0 b1 c0 c1 x0 x1 y0 y1 z0 z1 : Int} {v u : Value} (h : Src B w0 w F T a0 a1 b0 b1 c0 c1 x0 x1 y0 y1 z0 z1 v u) : Src B w0 w.drew F T a0 a1 b0 b1 c0 c1 x0 x1 y0 y1 z0 z1 v u :=
  h.gen (Below.refl _ _).drew (fun _ _ => rfl) h.t.drew
def cellsL (n : Nat) (f : Nat → Value) : List Value := (List.range n).map f
theorem cellsL_get {n : Nat} {f : Nat → Value} {j : Nat} {u : Value} (h : (cellsL n f)[j]? = some u) : j < n ∧ u = f j := by
  unfold cellsL at h
  rw [List.getElem?_map] at h
  rcases Nat.lt_or_ge j n with hj | hj
  · rw [List.getElem?_range hj] at h
    cases h
    exact ⟨hj, rfl⟩
  · rw [List.getElem?_eq_none (by simpa using hj)] at h
    cases h
theorem own_of_row {w : World} {B b t n size : Nat} {f : Nat → Value} (h : w.rowIs b t (n * size) f) (hB : B ≤ b) (hm : n ≤ maxLen) : w.ownsRow B t size (.slice (some ⟨b, 0, none⟩) n n) n (cellsL (n * size) f) := by
  obtain ⟨c, hb, hs, hc⟩ := h
  refine ⟨by simp [cellsL], .inr ⟨b, n, c, rfl, hB, hb, Nat.le_refl _, hm, hs, ?_⟩⟩
  apply List.ext_getElem?
  intro j
  rcases Nat.lt_or_ge j (n * size) with hj | hj
  · rw [List.getElem?_take_of_lt hj, Array.getElem?_toList, hc j hj]
    simp [cellsL, hj]
  · rw [List.getElem?_eq_none (by simp; omega), List.getElem?_eq_none (by simpa [cellsL] using hj)]
theorem two_cat {tS tL fS fL : Nat → Int} {m n : Nat} : cellsL (m * 2) (two tS tL) ++ cellsL (n * 2) (two fS fL) = cellsL ((m + n) * 2) (two (cat tS m fS) (cat tL m fL)) := by
  apply List.ext_getElem?
  intro j
  rcases Nat.lt_or_ge j (m * 2) with hj | hj
  · rw [List.getElem?_append_left (by simpa [cellsL] using hj)]
    have e : j / 2 < m := by omega
    simp [cellsL, hj, show j < (m + n) * 2 by omega, two, cat, e]
  · rw [List.getElem?_append_right (by simpa [cellsL] using hj)]
    have el : (cellsL (m * 2) (two tS tL)).length = m * 2 := by simp [cellsL]
    rw [el]
    have e : ¬ j / 2 < m := by omega
    rcases Nat.lt_or_ge (j - m * 2) (n * 2) with hk | hk
    · have e1 : (j - m * 2) / 2 = j / 2 - m := by omega
      have e2 : (j - m * 2) % 2 = j % 2 := by omega
      simp [cellsL, hk, show j < (m + n) * 2 by omega, two, cat, e, e1, e2]
    · rw [List.getElem?_eq_none (by simpa [cellsL] using hk), List.getElem?_eq_none (by simp [cellsL]; omega)]
theorem pairs_of_own {w : World} {B t k : Nat} {v : Value} {S L : Nat → Int} (h : w.ownsRow B t 2 v k (cellsL (k * 2) (two S L))) : ∃ o c, v = .slice o k c ∧ PairsAt w o k S L ∧ (o = none → k = 0 ∧ c = 0) ∧ (∀ a, o = some a → ∃ cur, w.heap[a.block]? = some (.cells cur t (0, 0))) := by
  rcases h.2 with ⟨e, hk⟩ | ⟨g, cap, cur, e, hb, hh, hle, hm, hsz, ht⟩
  · exact ⟨none, 0, by rw [e, hk], .inl hk, fun _ => ⟨hk, rfl⟩, fun a h => by cases h⟩
  · refine ⟨_, cap, e, ?_, (fun h => by cases h), (fun a h => by cases h; exact ⟨cur, hh⟩)⟩
    by_cases h0 : k = 0
    · exact .inl h0
    · refine .inr ⟨g, 0, rfl, (Array.getElem?_eq_some_iff.1 hh).1, fun i hi => ?_⟩
      have hc := h.cells (g := g) (by rw [e]; rfl)
      have h1 := hc (i * 2) (.int .i32 (S i)) (by simp [cellsL, show i * 2 < k * 2 by omega, two0])
      have h2 := hc (i * 2 + 1) (.int .i32 (L i)) (by simp [cellsL, show i * 2 + 1 < k * 2 by omega, two1])
      rw [add_plain] at h1 h2
      exact ⟨h1, h2⟩
theorem row_ne {w : World} {a b s t n m : Nat} {f g : Nat → Value} (h : w.rowIs a s n f) (k : w.rowIs b t m g) (hst : s ≠ t) : a ≠ b := by
  rintro rfl
  obtain ⟨c, hc, _⟩ := h
  obtain ⟨d, hd, _⟩ := k
  rw [hc] at hd
  injection hd with hd
  injection hd with _ hd
  exact hst hd
theorem pairs_setOther {w : World} {o : Option Addr} {n : Nat} {S L : Nat → Int} (h : PairsAt w o n S L) {T j : Nat} (v : Value) (hne : ∀ a, o = some a → a.block ≠ T) : PairsAt (w.setCell ⟨T, j, none⟩ v) o n S L := by
  rcases h with h | ⟨b, off, e, hb, hc⟩
  · exact .inl h
  · have hbT : b ≠ T := hne _ e
    refine .inr ⟨b, off, e, by simpa using hb, fun i hi => ?_⟩
    have hk : (w.setCell ⟨T, j, none⟩ v).heap[b]? = w.heap[b]? := Go.Deep.blk_setCell_other _ _ _ _ hbT
    exact ⟨(World.cell?_of_block (a := ⟨b, off + i * 2, none⟩) (w := w) hk).trans (hc i hi).1, (World.cell?_of_block (a := ⟨b, off + i * 2 + 1, none⟩) (w := w) hk).trans (hc i hi).2⟩
theorem pairs_block {w w' : World} {b n : Nat} {S L : Nat → Int} (h : PairsAt w (some ⟨b, 0, none⟩) n S L) (hk : w'.heap[b]? = w.heap[b]?) : PairsAt w' (some ⟨b, 0, none⟩) n S L := by
  rcases h with h | ⟨b, off, e, hb, hc⟩
  · exact .inl h
  · cases e
    refine .inr ⟨b, 0, rfl, ?_, fun i hi => ⟨(World.cell?_of_block (a := ⟨b, 0 + i * 2, none⟩) (w := w) hk).trans (hc i hi).1, (World.cell?_of_block (a := ⟨b, 0 + i * 2 + 1, none⟩) (w := w) hk).trans (hc i hi).2⟩⟩
    have h1 : w.heap[b]? = some w.heap[b] := Array.getElem?_eq_getElem hb
    rw [h1] at hk
    exact (Array.getElem?_eq_some_iff.1 hk).1
theorem step_append_own {P : Program} {ops : Array Oper} {o : Oper} {a : Act} {w : World} {K : Act → World → Prop} {Q : Exit → Act → World → Prop} {E : Prop} (hg : o.guard = none) (s x : Operand) (t : TypeId)
    (ho : o.op = .call { callee := .builtin .append, args := #[s, x], argTypes := #[t, t] })
    (base : Nat) (e : TypeId) (i : TypeInfo) (z : Value) (size bytes : Nat) (ht : P.underlying t = some (.slice e)) (hi : P.info? e = some i) (hz : i.zero = some z)
    (hsize : i.size = size) (hby : i.bytes = bytes) (hzs : z.cells.size = size) (hsz : 0 < size)
    (v : Value) (n : Nat) (xs : List Value) (hs : a.eval s = v) (hown : w.ownsRow base e size v n xs)
    (ad : Addr) (m c : Nat) (news : List Value) (hx : a.eval x = .slice (some ad) m c) (hl : news.length = m * size) (hnews : ∀ j u, news[j]? = some u → w.cell? (ad.add j) = some u) (h1 : ∀ u ∈ news, u.oneCell' = true)
    (h63 : n + m ≤ maxLen) (hbytes : (n + m) * bytes ≤ 140737488355328) (hbase : base ≤ w.heap.size)
    (h : ∀ v' w', w'.ownsRow base e size v' (n + m) (xs ++ news) → w.grownBy w' v.ownBlock → (v' = .slice none 0 0 ↔ v = .slice none 0 0 ∧ m = 0) → K (a.put o.dst v') w') :
    if Region.wanted o (yielded ops a.tmps) = true then Oper.wp P o a w K Q else E := by
  have hw : Region.wanted o (yielded ops a.tmps) = true := by simp [Region.wanted, hg]
  rw [if_pos hw]
  exact wp_append_own w s x t ho base e i z size bytes ht hi hz hsize hby hzs hsz v n xs hs hown ad m c news hx hl hnews h1 h63 hbytes hbase h
/-- What the two structs read behind the call. -/
structure Fin (B : Nat) (w0 w : World) (F T : Nat) (a0 a1 b0 b1 c0 c1 r0 r1 s0 s1 t0 t1 : Int) (fo : Option Addr) (n fc k : Nat) (fS fL kS kL : Nat → Int) : Prop where
  f : w.rowIs F 198 7 (seven a0 a1 b0 b1 c0 c1 (.slice fo n fc))
  t : ∃ o c, w.rowIs T 198 7 (seven r0 r1 s0 s1 t0 t1 (.slice o k c)) ∧ PairsAt w o k kS kL ∧ (o = none → k = 0 ∧ c = 0) ∧ (∀ a, o = some a → ∃ cur, w.heap[a.block]? = some (.cells cur 66 (0, 0)))
  below : Below B w0 w
  fp : PairsAt w fo n fS fL
theorem fin_mk {B : Nat} {w wy w1 : World} {F T p q n k c' : Nat} {a0 a1 b0 b1 c0 c1 r0 r1 s0 s1 t0 t1 : Int} {u : Value} {o' : Option Addr} {fS fL kS kL : Nat → Int} (hs : Src B w wy F T a0 a1 b0 b1 c0 c1 r0 r1 s0 s1 t0 t1 (.slice (some ⟨p, 0, none⟩) n n) u)
    (hg : wy.grownBy w1 (some q)) (hBq : B ≤ q) (hqF : q ≠ F) (hqT : q ≠ T) (hpq : p ≠ q) (hpT : p ≠ T) (hp : wy.rowIs p 66 (n * 2) (two fS fL)) (hI : PairsAt w1 o' k kS kL) (hn : o' = none → k = 0 ∧ c' = 0)
    (ht : ∀ a, o' = some a → ∃ cur, w1.heap[a.block]? = some (.cells cur 66 (0, 0))) :
    Fin B w (w1.setCell ⟨T, 6, none⟩ (.slice o' k c')) F T a0 a1 b0 b1 c0 c1 r0 r1 s0 s1 t0 t1 (some ⟨p, 0, none⟩) n n k fS fL kS kL := by
  have hT := hs.t.of_block (hg.block T hs.t.lt (fun e => by cases e; exact hqT rfl))
  have hF := hs.f.of_block (hg.block F hs.f.lt (fun e => by cases e; exact hqF rfl))
  have hP := hp.of_block (hg.block p hp.lt (fun e => by cases e; exact hpq rfl))
  have hlt := hs.below.size
  have hqlt : B ≤ wy.heap.size := by have := hs.t.lt; have := hs.le; omega
  refine ⟨hF.setOther (a := ⟨T, 6, none⟩) hs.ne _, ⟨o', c', (hT.set 6 _).congr fun i hi => ?_, pairs_setOther hI _ (fun a ha e => ?_), hn, (fun a ha => ?_)⟩, (hs.below.grown hg hqlt (fun k hk => by cases hk; exact hBq)).setCell (p := ⟨T, 6, none⟩) hs.le _, pairs_setOther (pairs_of_row hP) _ (fun a ha => by cases ha; exact hpT)⟩
  · match i, hi with
    | 0, _ | 1, _ | 2, _ | 3, _ | 4, _ | 5, _ | 6, _ => rfl
  · obtain ⟨cur, hc⟩ := ht a ha
    obtain ⟨d, hd, _⟩ := hT
    rw [e, hd] at hc
    injection hc with hc
    injection hc with _ hc
    exact absurd hc (by decide)
  · obtain ⟨cur, hc⟩ := ht a ha
    have hne : a.block ≠ T := fun e => by
      obtain ⟨d, hd, _⟩ := hT
      rw [e, hd] at hc
      injection hc with hc
      injection hc with _ hc
      exact absurd hc (by decide)
    exact ⟨cur, (Go.Deep.blk_setCell_other w1 ⟨T, 6, none⟩ _ _ hne).trans hc⟩
theorem info66 : (Try.prog.info? 66).map (fun i => (i.zero, i.size, i.bytes)) = some (some (.agg #[.int .i32 0, .int .i32 0]), 2, 8) := by kernel_rfl
set_option maxRecDepth 100000 in
set_option maxHeartbeats 8000000 in
theorem merge2_0 (B F T : Nat) (a0 a1 b0 b1 c0 c1 x0 x1 y0 y1 z0 z1 : Int) (p q m n : Nat) (fS fL tS tL : Nat → Int) (w : World) (hn : n ≤ 65536) (hm : m ≤ 65536) (hpq : p ≠ q) (hBq : B ≤ q)
    (hp : w.rowIs p 66 ((n + 1) * 2) (two fS fL)) (hq : w.rowIs q 66 ((m + 1) * 2) (two tS tL)) (h : Src B w w F T a0 a1 b0 b1 c0 c1 x0 x1 y0 y1 z0 z1 (.slice (some ⟨p, 0, none⟩) ((n + 1 : Nat)) ((n + 1 : Nat))) (.slice (some ⟨q, 0, none⟩) ((m + 1 : Nat)) ((m + 1 : Nat)))) (ha : 0 < a1) (hb : 0 < b1) (hc : 0 < c1) :
    Calls Try.prog 23 #[.pointer (some ⟨F, 0, none⟩), .pointer (some ⟨T, 0, none⟩)] w fun e w' => e = .returned (.tuple #[]) ∧ Fin B w w' F T a0 a1 b0 b1 c0 c1 (pk a1 a0 x0) (pk a1 a1 x1) (pk b1 b0 y0) (pk b1 b1 y1) (pk c1 c0 z0) (pk c1 c1 z1) (some ⟨p, 0, none⟩) (n + 1) (n + 1) (m + 1 + (n + 1)) fS fL (cat tS (m + 1) fS) (cat tL (m + 1) fL) := by
  rw [pk_pos ha, pk_pos ha, pk_pos hb, pk_pos hb, pk_pos hc, pk_pos hc]
  obtain ⟨i0, hi, hz0, hz1, hz2⟩ := info_parts info66
  have hpF := row_ne hp h.f (by decide)
  have hpT := row_ne hp h.t (by decide)
  have hqF := row_ne hq h.f (by decide)
  have hqT := row_ne hq h.t (by decide)
  have f0 : w.cell? ⟨F, 0, none⟩ = some (.int .i32 a0) := h.f.cell (i := 0) (by omega)
  have f1 : w.cell? ⟨F, 1, none⟩ = some (.int .i32 a1) := h.f.cell (i := 1) (by omega)
  have f2 : w.cell? ⟨F, 2, none⟩ = some (.int .i32 b0) := h.f.cell (i := 2) (by omega)
  have f3 : w.cell? ⟨F, 3, none⟩ = some (.int .i32 b1) := h.f.cell (i := 3) (by omega)
  have f4 : w.cell? ⟨F, 4, none⟩ = some (.int .i32 c0) := h.f.cell (i := 4) (by omega)
  have f5 : w.cell? ⟨F, 5, none⟩ = some (.int .i32 c1) := h.f.cell (i := 5) (by omega)
  have t0 : w.cell? ⟨T, 0, none⟩ = some (.int .i32 x0) := h.t.cell (i := 0) (by omega)
  have t1 : w.cell? ⟨T, 1, none⟩ = some (.int .i32 x1) := h.t.cell (i := 1) (by omega)
  have t2 : w.cell? ⟨T, 2, none⟩ = some (.int .i32 y0) := h.t.cell (i := 2) (by omega)
  have t3 : w.cell? ⟨T, 3, none⟩ = some (.int .i32 y1) := h.t.cell (i := 3) (by omega)
  have t4 : w.cell? ⟨T, 4, none⟩ = some (.int .i32 z0) := h.t.cell (i := 4) (by omega)
  have t5 : w.cell? ⟨T, 5, none⟩ = some (.int .i32 z1) := h.t.cell (i := 5) (by omega)
  have q0 := h.t.frozen 0
  have q1 := h.t.frozen 1
  have q2 := h.t.frozen 2
  have q3 := h.t.frozen 3
  have q4 := h.t.frozen 4
  have q5 := h.t.frozen 5
  have q6 := h.t.frozen 6
  have ne := h.ne
  have ne' := h.ne.symm
  have f6 : w.cell? ⟨F, 6, none⟩ = some (.slice (some ⟨p, 0, none⟩) ((n + 1 : Nat)) ((n + 1 : Nat))) := h.f.cell (i := 6) (by omega)
  have t6 : w.cell? ⟨T, 6, none⟩ = some (.slice (some ⟨q, 0, none⟩) ((m + 1 : Nat)) ((m + 1 : Nat))) := h.t.cell (i := 6) (by omega)
  go_enter Try.func23, Try.ntmps23
  go_wp2_with fail
  have hs := h.A.Bb.C
  have hpz := hp.of_block (hs.keep p hpT)
  have hqz := hq.of_block (hs.keep q hqT)
  clear f0 f1 f2 f3 f4 f5 f6 t0 t1 t2 t3 t4 t5 t6 q0 q1 q2 q3 q4 q5 q6 hp hq
  generalize ((((((w.setCell ⟨T, 0, none⟩ (.int .i32 a0)).setCell ⟨T, 1, none⟩ (.int .i32 a1)).setCell ⟨T, 2, none⟩ (.int .i32 b0)).setCell ⟨T, 3, none⟩ (.int .i32 b1)).setCell ⟨T, 4, none⟩ (.int .i32 c0)).setCell ⟨T, 5, none⟩ (.int .i32 c1)) = wz at hs hpz hqz ⊢
  have f6 : wz.cell? ⟨F, 6, none⟩ = some (.slice (some ⟨p, 0, none⟩) ((n + 1 : Nat)) ((n + 1 : Nat))) := hs.f.cell (i := 6) (by omega)
  have t6 : wz.cell? ⟨T, 6, none⟩ = some (.slice (some ⟨q, 0, none⟩) ((m + 1 : Nat)) ((m + 1 : Nat))) := hs.t.cell (i := 6) (by omega)
  have hs := hs.drew
  have hpz := hpz.drew
  have hqz := hqz.drew
  have hown := own_of_row (B := B) hqz hBq (by simp only [maxLen]; omega)
  have hnews : ∀ j u, (cellsL ((n + 1) * 2) (two fS fL))[j]? = some u → wz.drew.cell? ((⟨p, 0, none⟩ : Addr).add j) = some u := fun j u hu => by
    obtain ⟨hj, rfl⟩ := cellsL_get hu
    rw [add_plain, Nat.zero_add]
    exact hpz.cell hj
  have hone : ∀ u ∈ cellsL ((n + 1) * 2) (two fS fL), u.oneCell' = true := fun u hu => by
    obtain ⟨j, _, rfl⟩ := List.mem_map.1 hu
    unfold two
    split <;> rfl
  have hll : (cellsL ((n + 1) * 2) (two fS fL)).length = (n + 1) * 2 := by simp [cellsL]
  have hk1 : m + 1 + (n + 1) ≤ maxLen := by simp only [maxLen]; omega
  have hk2 : (m + 1 + (n + 1)) * 8 ≤ 140737488355328 := by omega
  have hk3 : B ≤ wz.drew.heap.size := by have := hqz.lt; omega
  replace hnews := Lib.hid hnews
  replace hone := Lib.hid hone
  replace hll := Lib.hid hll
  replace hown := Lib.hid hown
  have HS := Lib.hid hs
  replace hpz := Lib.hid hpz
  clear hs hqz
  go_region_law ((refine step_append_own rfl (.tmp 59) (.tmp 63) _ rfl B 66 i0 (.agg #[.int .i32 0, .int .i32 0]) 2 8 Try.underlying158 hi hz0 hz1 hz2 rfl (by omega) (.slice (some ⟨q, 0, none⟩) (m + 1) (m + 1)) (m + 1) (cellsL ((m + 1) * 2) (two tS tL)) rfl hown.out ⟨p, 0, none⟩ (n + 1) (n + 1) (cellsL ((n + 1) * 2) (two fS fL)) rfl hll.out hnews.out hone.out hk1 hk2 hk3 ?_; intro v' w1 ho hg hv; rw [two_cat] at ho; obtain ⟨o', c', rfl, hI, hn0, ht⟩ := pairs_of_own ho; have hT := HS.out.t.of_block (hg.block T HS.out.t.lt (fun e => by cases e; exact hqT rfl)); have hT6 := hT.cell (i := 6) (by omega); have hq6 := hT.frozen 6; replace hT := Lib.hid hT; replace ht := Lib.hid ht; replace hn0 := Lib.hid hn0; clear ho hv))
  all_goals
    go_end0
    exact ⟨rfl, fin_mk HS.out (by assumption) hBq hqF hqT hpq hpT hpz.out (by assumption) (Hid.out (by assumption)) (Hid.out (by assumption))⟩
set_option maxRecDepth 100000 in
set_option maxHeartbeats 8000000 in
theorem merge2_1 (B F T : Nat) (a0 a1 b0 b1 c0 c1 x0 x1 y0 y1 z0 z1 : Int) (p q m n : Nat) (fS fL tS tL : Nat → Int) (w : World) (hn : n ≤ 65536) (hm : m ≤ 65536) (hpq : p ≠ q) (hBq : B ≤ q)
    (hp : w.rowIs p 66 ((n + 1) * 2) (two fS fL)) (hq : w.rowIs q 66 ((m + 1) * 2) (two tS tL)) (h : Src B w w F T a0 a1 b0 b1 c0 c1 x0 x1 y0 y1 z0 z1 (.slice (some ⟨p, 0, none⟩) ((n + 1 : Nat)) ((n + 1 : Nat))) (.slice (some ⟨q, 0, none⟩) ((m + 1 : Nat)) ((m + 1 : Nat)))) (ha : 0 < a1) (hb : 0 < b1) (hc : ¬ 0 < c1) :
    Calls Try.prog 23 #[.pointer (some ⟨F, 0, none⟩), .pointer (some ⟨T, 0, none⟩)] w fun e w' => e = .returned (.tuple #[]) ∧ Fin B w w' F T a0 a1 b0 b1 c0 c1 (pk a1 a0 x0) (pk a1 a1 x1) (pk b1 b0 y0) (pk b1 b1 y1) (pk c1 c0 z0) (pk c1 c1 z1) (some ⟨p, 0, none⟩) (n + 1) (n + 1) (m + 1 + (n + 1)) fS fL (cat tS (m + 1) fS) (cat tL (m + 1) fL) := by
  rw [pk_pos ha, pk_pos ha, pk_pos hb, pk_pos hb, pk_neg hc, pk_neg hc]
  obtain ⟨i0, hi, hz0, hz1, hz2⟩ := info_parts info66
  have hpF := row_ne hp h.f (by decide)
  have hpT := row_ne hp h.t (by decide)
  have hqF := row_ne hq h.f (by decide)
  have hqT := row_ne hq h.t (by decide)
  have f0 : w.cell? ⟨F, 0, none⟩ = some (.int .i32 a0) := h.f.cell (i := 0) (by omega)
  have f1 : w.cell? ⟨F, 1, none⟩ = some (.int .i32 a1) := h.f.cell (i := 1) (by omega)
  have f2 : w.cell? ⟨F, 2, none⟩ = some (.int .i32 b0) := h.f.cell (i := 2) (by omega)
  have f3 : w.cell? ⟨F, 3, none⟩ = some (.int .i32 b1) := h.f.cell (i := 3) (by omega)
  have f4 : w.cell? ⟨F, 4, none⟩ = some (.int .i32 c0) := h.f.cell (i := 4) (by omega)
  have f5 : w.cell? ⟨F, 5, none⟩ = some (.int .i32 c1) := h.f.cell (i := 5) (by omega)
  have t0 : w.cell? ⟨T, 0, none⟩ = some (.int .i32 x0) := h.t.cell (i := 0) (by omega)
  have t1 : w.cell? ⟨T, 1, none⟩ = some (.int .i32 x1) := h.t.cell (i := 1) (by omega)
  have t2 : w.cell? ⟨T, 2, none⟩ = some (.int .i32 y0) := h.t.cell (i := 2) (by omega)
  have t3 : w.cell? ⟨T, 3, none⟩ = some (.int .i32 y1) := h.t.cell (i := 3) (by omega)
  have t4 : w.cell? ⟨T, 4, none⟩ = some (.int .i32 z0) := h.t.cell (i := 4) (by omega)
  have t5 : w.cell? ⟨T, 5, none⟩ = some (.int .i32 z1) := h.t.cell (i := 5) (by omega)
  have q0 := h.t.frozen 0
  have q1 := h.t.frozen 1
  have q2 := h.t.frozen 2
  have q3 := h.t.frozen 3
  have q4 := h.t.frozen 4
  have q5 := h.t.frozen 5
  have q6 := h.t.frozen 6
  have ne := h.ne
  have ne' := h.ne.symm
  have f6 : w.cell? ⟨F, 6, none⟩ = some (.slice (some ⟨p, 0, none⟩) ((n + 1 : Nat)) ((n + 1 : Nat))) := h.f.cell (i := 6) (by omega)
  have t6 : w.cell? ⟨T, 6, none⟩ = some (.slice (some ⟨q, 0, none⟩) ((m + 1 : Nat)) ((m + 1 : Nat))) := h.t.cell (i := 6) (by omega)
  go_enter Try.func23, Try.ntmps23
  go_wp2_with fail
  have hs := h.A.Bb
  have hpz := hp.of_block (hs.keep p hpT)
  have hqz := hq.of_block (hs.keep q hqT)
  clear f0 f1 f2 f3 f4 f5 f6 t0 t1 t2 t3 t4 t5 t6 q0 q1 q2 q3 q4 q5 q6 hp hq
  generalize ((((w.setCell ⟨T, 0, none⟩ (.int .i32 a0)).setCell ⟨T, 1, none⟩ (.int .i32 a1)).setCell ⟨T, 2, none⟩ (.int .i32 b0)).setCell ⟨T, 3, none⟩ (.int .i32 b1)) = wz at hs hpz hqz ⊢
  have f6 : wz.cell? ⟨F, 6, none⟩ = some (.slice (some ⟨p, 0, none⟩) ((n + 1 : Nat)) ((n + 1 : Nat))) := hs.f.cell (i := 6) (by omega)
  have t6 : wz.cell? ⟨T, 6, none⟩ = some (.slice (some ⟨q, 0, none⟩) ((m + 1 : Nat)) ((m + 1 : Nat))) := hs.t.cell (i := 6) (by omega)
  have hs := hs.drew
  have hpz := hpz.drew
  have hqz := hqz.drew
  have hown := own_of_row (B := B) hqz hBq (by simp only [maxLen]; omega)
  have hnews : ∀ j u, (cellsL ((n + 1) * 2) (two fS fL))[j]? = some u → wz.drew.cell? ((⟨p, 0, none⟩ : Addr).add j) = some u := fun j u hu => by
    obtain ⟨hj, rfl⟩ := cellsL_get hu
    rw [add_plain, Nat.zero_add]
    exact hpz.cell hj
  have hone : ∀ u ∈ cellsL ((n + 1) * 2) (two fS fL), u.oneCell' = true := fun u hu => by
    obtain ⟨j, _, rfl⟩ := List.mem_map.1 hu
    unfold two
    split <;> rfl
  have hll : (cellsL ((n + 1) * 2) (two fS fL)).length = (n + 1) * 2 := by simp [cellsL]
  have hk1 : m + 1 + (n + 1) ≤ maxLen := by simp only [maxLen]; omega
  have hk2 : (m + 1 + (n + 1)) * 8 ≤ 140737488355328 := by omega
  have hk3 : B ≤ wz.drew.heap.size := by have := hqz.lt; omega
  replace hnews := Lib.hid hnews
  replace hone := Lib.hid hone
  replace hll := Lib.hid hll
  replace hown := Lib.hid hown
  have HS := Lib.hid hs
  replace hpz := Lib.hid hpz
  clear hs hqz
  go_region_law ((refine step_append_own rfl (.tmp 59) (.tmp 63) _ rfl B 66 i0 (.agg #[.int .i32 0, .int .i32 0]) 2 8 Try.underlying158 hi hz0 hz1 hz2 rfl (by omega) (.slice (some ⟨q, 0, none⟩) (m + 1) (m + 1)) (m + 1) (cellsL ((m + 1) * 2) (two tS tL)) rfl hown.out ⟨p, 0, none⟩ (n + 1) (n + 1) (cellsL ((n + 1) * 2) (two fS fL)) rfl hll.out hnews.out hone.out hk1 hk2 hk3 ?_; intro v' w1 ho hg hv; rw [two_cat] at ho; obtain ⟨o', c', rfl, hI, hn0, ht⟩ := pairs_of_own ho; have hT := HS.out.t.of_block (hg.block T HS.out.t.lt (fun e => by cases e; exact hqT rfl)); have hT6 := hT.cell (i := 6) (by omega); have hq6 := hT.frozen 6; replace hT := Lib.hid hT; replace ht := Lib.hid ht; replace hn0 := Lib.hid hn0; clear ho hv))
  all_goals
    go_end0
    exact ⟨rfl, fin_mk HS.out (by assumption) hBq hqF hqT hpq hpT hpz.out (by assumption) (Hid.out (by assumption)) (Hid.out (by assumption))⟩
set_option maxRecDepth 100000 in
set_option maxHeartbeats 8000000 in
theorem merge2_2 (B F T : Nat) (a0 a1 b0 b1 c0 c1 x0 x1 y0 y1 z0 z1 : Int) (p q m n : Nat) (fS fL tS tL : Nat → Int) (w : World) (hn : n ≤ 65536) (hm : m ≤ 65536) (hpq : p ≠ q) (hBq : B ≤ q)
    (hp : w.rowIs p 66 ((n + 1) * 2) (two fS fL)) (hq : w.rowIs q 66 ((m + 1) * 2) (two tS tL)) (h : Src B w w F T a0 a1 b0 b1 c0 c1 x0 x1 y0 y1 z0 z1 (.slice (some ⟨p, 0, none⟩) ((n + 1 : Nat)) ((n + 1 : Nat))) (.slice (some ⟨q, 0, none⟩) ((m + 1 : Nat)) ((m + 1 : Nat)))) (ha : 0 < a1) (hb : ¬ 0 < b1) (hc : 0 < c1) :
    Calls Try.prog 23 #[.pointer (some ⟨F, 0, none⟩), .pointer (some ⟨T, 0, none⟩)] w fun e w' => e = .returned (.tuple #[]) ∧ Fin B w w' F T a0 a1 b0 b1 c0 c1 (pk a1 a0 x0) (pk a1 a1 x1) (pk b1 b0 y0) (pk b1 b1 y1) (pk c1 c0 z0) (pk c1 c1 z1) (some ⟨p, 0, none⟩) (n + 1) (n + 1) (m + 1 + (n + 1)) fS fL (cat tS (m + 1) fS) (cat tL (m + 1) fL) := by
  rw [pk_pos ha, pk_pos ha, pk_neg hb, pk_neg hb, pk_pos hc, pk_pos hc]
  obtain ⟨i0, hi, hz0, hz1, hz2⟩ := info_parts info66
  have hpF := row_ne hp h.f (by decide)
  have hpT := row_ne hp h.t (by decide)
  have hqF := row_ne hq h.f (by decide)
  have hqT := row_ne hq h.t (by decide)
  have f0 : w.cell? ⟨F, 0, none⟩ = some (.int .i32 a0) := h.f.cell (i := 0) (by omega)
  have f1 : w.cell? ⟨F, 1, none⟩ = some (.int .i32 a1) := h.f.cell (i := 1) (by omega)
  have f2 : w.cell? ⟨F, 2, none⟩ = some (.int .i32 b0) := h.f.cell (i := 2) (by omega)
  have f3 : w.cell? ⟨F, 3, none⟩ = some (.int .i32 b1) := h.f.cell (i := 3) (by omega)
  have f4 : w.cell? ⟨F, 4, none⟩ = some (.int .i32 c0) := h.f.cell (i := 4) (by omega)
  have f5 : w.cell? ⟨F, 5, none⟩ = some (.int .i32 c1) := h.f.cell (i := 5) (by omega)
  have t0 : w.cell? ⟨T, 0, none⟩ = some (.int .i32 x0) := h.t.cell (i := 0) (by omega)
  have t1 : w.cell? ⟨T, 1, none⟩ = some (.int .i32 x1) := h.t.cell (i := 1) (by omega)
  have t2 : w.cell? ⟨T, 2, none⟩ = some (.int .i32 y0) := h.t.cell (i := 2) (by omega)
  have t3 : w.cell? ⟨T, 3, none⟩ = some (.int .i32 y1) := h.t.cell (i := 3) (by omega)
  have t4 : w.cell? ⟨T, 4, none⟩ = some (.int .i32 z0) := h.t.cell (i := 4) (by omega)
  have t5 : w.cell? ⟨T, 5, none⟩ = some (.int .i32 z1) := h.t.cell (i := 5) (by omega)
  have q0 := h.t.frozen 0
  have q1 := h.t.frozen 1
  have q2 := h.t.frozen 2
  have q3 := h.t.frozen 3
  have q4 := h.t.frozen 4
  have q5 := h.t.frozen 5
  have q6 := h.t.frozen 6
  have ne := h.ne
  have ne' := h.ne.symm
  have f6 : w.cell? ⟨F, 6, none⟩ = some (.slice (some ⟨p, 0, none⟩) ((n + 1 : Nat)) ((n + 1 : Nat))) := h.f.cell (i := 6) (by omega)
  have t6 : w.cell? ⟨T, 6, none⟩ = some (.slice (some ⟨q, 0, none⟩) ((m + 1 : Nat)) ((m + 1 : Nat))) := h.t.cell (i := 6) (by omega)
  go_enter Try.func23, Try.ntmps23
  go_wp2_with fail
  have hs := h.A.C
  have hpz := hp.of_block (hs.keep p hpT)
  have hqz := hq.of_block (hs.keep q hqT)
  clear f0 f1 f2 f3 f4 f5 f6 t0 t1 t2 t3 t4 t5 t6 q0 q1 q2 q3 q4 q5 q6 hp hq
  generalize ((((w.setCell ⟨T, 0, none⟩ (.int .i32 a0)).setCell ⟨T, 1, none⟩ (.int .i32 a1)).setCell ⟨T, 4, none⟩ (.int .i32 c0)).setCell ⟨T, 5, none⟩ (.int .i32 c1)) = wz at hs hpz hqz ⊢
  have f6 : wz.cell? ⟨F, 6, none⟩ = some (.slice (some ⟨p, 0, none⟩) ((n + 1 : Nat)) ((n + 1 : Nat))) := hs.f.cell (i := 6) (by omega)
  have t6 : wz.cell? ⟨T, 6, none⟩ = some (.slice (some ⟨q, 0, none⟩) ((m + 1 : Nat)) ((m + 1 : Nat))) := hs.t.cell (i := 6) (by omega)
  have hs := hs.drew
  have hpz := hpz.drew
  have hqz := hqz.drew
  have hown := own_of_row (B := B) hqz hBq (by simp only [maxLen]; omega)
  have hnews : ∀ j u, (cellsL ((n + 1) * 2) (two fS fL))[j]? = some u → wz.drew.cell? ((⟨p, 0, none⟩ : Addr).add j) = some u := fun j u hu => by
    obtain ⟨hj, rfl⟩ := cellsL_get hu
    rw [add_plain, Nat.zero_add]
    exact hpz.cell hj
  have hone : ∀ u ∈ cellsL ((n + 1) * 2) (two fS fL), u.oneCell' = true := fun u hu => by
    obtain ⟨j, _, rfl⟩ := List.mem_map.1 hu
    unfold two
    split <;> rfl
  have hll : (cellsL ((n + 1) * 2) (two fS fL)).length = (n + 1) * 2 := by simp [cellsL]
  have hk1 : m + 1 + (n + 1) ≤ maxLen := by simp only [maxLen]; omega
  have hk2 : (m + 1 + (n + 1)) * 8 ≤ 140737488355328 := by omega
  have hk3 : B ≤ wz.drew.heap.size := by have := hqz.lt; omega
  replace hnews := Lib.hid hnews
  replace hone := Lib.hid hone
  replace hll := Lib.hid hll
  replace hown := Lib.hid hown
  have HS := Lib.hid hs
  replace hpz := Lib.hid hpz
  clear hs hqz
  go_region_law ((refine step_append_own rfl (.tmp 59) (.tmp 63) _ rfl B 66 i0 (.agg #[.int .i32 0, .int .i32 0]) 2 8 Try.underlying158 hi hz0 hz1 hz2 rfl (by omega) (.slice (some ⟨q, 0, none⟩) (m + 1) (m + 1)) (m + 1) (cellsL ((m + 1) * 2) (two tS tL)) rfl hown.out ⟨p, 0, none⟩ (n + 1) (n + 1) (cellsL ((n + 1) * 2) (two fS fL)) rfl hll.out hnews.out hone.out hk1 hk2 hk3 ?_; intro v' w1 ho hg hv; rw [two_cat] at ho; obtain ⟨o', c', rfl, hI, hn0, ht⟩ := pairs_of_own ho; have hT := HS.out.t.of_block (hg.block T HS.out.t.lt (fun e => by cases e; exact hqT rfl)); have hT6 := hT.cell (i := 6) (by omega); have hq6 := hT.frozen 6; replace hT := Lib.hid hT; replace ht := Lib.hid ht; replace hn0 := Lib.hid hn0; clear ho hv))
  all_goals
    go_end0
    exact ⟨rfl, fin_mk HS.out (by assumption) hBq hqF hqT hpq hpT hpz.out (by assumption) (Hid.out (by assumption)) (Hid.out (by assumption))⟩
set_option maxRecDepth 100000 in
set_option maxHeartbeats 8000000 in
theorem merge2_3 (B F T : Nat) (a0 a1 b0 b1 c0 c1 x0 x1 y0 y1 z0 z1 : Int) (p q m n : Nat) (fS fL tS tL : Nat → Int) (w : World) (hn : n ≤ 65536) (hm : m ≤ 65536) (hpq : p ≠ q) (hBq : B ≤ q)
    (hp : w.rowIs p 66 ((n + 1) * 2) (two fS fL)) (hq : w.rowIs q 66 ((m + 1) * 2) (two tS tL)) (h : Src B w w F T a0 a1 b0 b1 c0 c1 x0 x1 y0 y1 z0 z1 (.slice (some ⟨p, 0, none⟩) ((n + 1 : Nat)) ((n + 1 : Nat))) (.slice (some ⟨q, 0, none⟩) ((m + 1 : Nat)) ((m + 1 : Nat)))) (ha : 0 < a1) (hb : ¬ 0 < b1) (hc : ¬ 0 < c1) :
    Calls Try.prog 23 #[.pointer (some ⟨F, 0, none⟩), .pointer (some ⟨T, 0, none⟩)] w fun e w' => e = .returned (.tuple #[]) ∧ Fin B w w' F T a0 a1 b0 b1 c0 c1 (pk a1 a0 x0) (pk a1 a1 x1) (pk b1 b0 y0) (pk b1 b1 y1) (pk c1 c0 z0) (pk c1 c1 z1) (some ⟨p, 0, none⟩) (n + 1) (n + 1) (m + 1 + (n + 1)) fS fL (cat tS (m + 1) fS) (cat tL (m + 1) fL) := by
  rw [pk_pos ha, pk_pos ha, pk_neg hb, pk_neg hb, pk_neg hc, pk_neg hc]
  obtain ⟨i0, hi, hz0, hz1, hz2⟩ := info_parts info66
  have hpF := row_ne hp h.f (by decide)
  have hpT := row_ne hp h.t (by decide)
  have hqF := row_ne hq h.f (by decide)
  have hqT := row_ne hq h.t (by decide)
  have f0 : w.cell? ⟨F, 0, none⟩ = some (.int .i32 a0) := h.f.cell (i := 0) (by omega)
  have f1 : w.cell? ⟨F, 1, none⟩ = some (.int .i32 a1) := h.f.cell (i := 1) (by omega)
  have f2 : w.cell? ⟨F, 2, none⟩ = some (.int .i32 b0) := h.f.cell (i := 2) (by omega)
  have f3 : w.cell? ⟨F, 3, none⟩ = some (.int .i32 b1) := h.f.cell (i := 3) (by omega)
  have f4 : w.cell? ⟨F, 4, none⟩ = some (.int .i32 c0) := h.f.cell (i := 4) (by omega)
  have f5 : w.cell? ⟨F, 5, none⟩ = some (.int .i32 c1) := h.f.cell (i := 5) (by omega)
  have t0 : w.cell? ⟨T, 0, none⟩ = some (.int .i32 x0) := h.t.cell (i := 0) (by omega)
  have t1 : w.cell? ⟨T, 1, none⟩ = some (.int .i32 x1) := h.t.cell (i := 1) (by omega)
  have t2 : w.cell? ⟨T, 2, none⟩ = some (.int .i32 y0) := h.t.cell (i := 2) (by omega)
  have t3 : w.cell? ⟨T, 3, none⟩ = some (.int .i32 y1) := h.t.cell (i := 3) (by omega)
  have t4 : w.cell? ⟨T, 4, none⟩ = some (.int .i32 z0) := h.t.cell (i := 4) (by omega)
  have t5 : w.cell? ⟨T, 5, none⟩ = some (.int .i32 z1) := h.t.cell (i := 5) (by omega)
  have q0 := h.t.frozen 0
  have q1 := h.t.frozen 1
  have q2 := h.t.frozen 2
  have q3 := h.t.frozen 3
  have q4 := h.t.frozen 4
  have q5 := h.t.frozen 5
  have q6 := h.t.frozen 6
  have ne := h.ne
  have ne' := h.ne.symm
  have f6 : w.cell? ⟨F, 6, none⟩ = some (.slice (some ⟨p, 0, none⟩) ((n + 1 : Nat)) ((n + 1 : Nat))) := h.f.cell (i := 6) (by omega)
  have t6 : w.cell? ⟨T, 6, none⟩ = some (.slice (some ⟨q, 0, none⟩) ((m + 1 : Nat)) ((m + 1 : Nat))) := h.t.cell (i := 6) (by omega)
  go_enter Try.func23, Try.ntmps23
  go_wp2_with fail
  have hs := h.A
  have hpz := hp.of_block (hs.keep p hpT)
  have hqz := hq.of_block (hs.keep q hqT)
  clear f0 f1 f2 f3 f4 f5 f6 t0 t1 t2 t3 t4 t5 t6 q0 q1 q2 q3 q4 q5 q6 hp hq
  generalize ((w.setCell ⟨T, 0, none⟩ (.int .i32 a0)).setCell ⟨T, 1, none⟩ (.int .i32 a1)) = wz at hs hpz hqz ⊢
  have f6 : wz.cell? ⟨F, 6, none⟩ = some (.slice (some ⟨p, 0, none⟩) ((n + 1 : Nat)) ((n + 1 : Nat))) := hs.f.cell (i := 6) (by omega)
  have t6 : wz.cell? ⟨T, 6, none⟩ = some (.slice (some ⟨q, 0, none⟩) ((m + 1 : Nat)) ((m + 1 : Nat))) := hs.t.cell (i := 6) (by omega)
  have hs := hs.drew
  have hpz := hpz.drew
  have hqz := hqz.drew
  have hown := own_of_row (B := B) hqz hBq (by simp only [maxLen]; omega)
  have hnews : ∀ j u, (cellsL ((n + 1) * 2) (two fS fL))[j]? = some u → wz.drew.cell? ((⟨p, 0, none⟩ : Addr).add j) = some u := fun j u hu => by
    obtain ⟨hj, rfl⟩ := cellsL_get hu
    rw [add_plain, Nat.zero_add]
    exact hpz.cell hj
  have hone : ∀ u ∈ cellsL ((n + 1) * 2) (two fS fL), u.oneCell' = true := fun u hu => by
    obtain ⟨j, _, rfl⟩ := List.mem_map.1 hu
    unfold two
    split <;> rfl
  have hll : (cellsL ((n + 1) * 2) (two fS fL)).length = (n + 1) * 2 := by simp [cellsL]
  have hk1 : m + 1 + (n + 1) ≤ maxLen := by simp only [maxLen]; omega
  have hk2 : (m + 1 + (n + 1)) * 8 ≤ 140737488355328 := by omega
  have hk3 : B ≤ wz.drew.heap.size := by have := hqz.lt; omega
  replace hnews := Lib.hid hnews
  replace hone := Lib.hid hone
  replace hll := Lib.hid hll
  replace hown := Lib.hid hown
  have HS := Lib.hid hs
  replace hpz := Lib.hid hpz
  clear hs hqz
  go_region_law ((refine step_append_own rfl (.tmp 59) (.tmp 63) _ rfl B 66 i0 (.agg #[.int .i32 0, .int .i32 0]) 2 8 Try.underlying158 hi hz0 hz1 hz2 rfl (by omega) (.slice (some ⟨q, 0, none⟩) (m + 1) (m + 1)) (m + 1) (cellsL ((m + 1) * 2) (two tS tL)) rfl hown.out ⟨p, 0, none⟩ (n + 1) (n + 1) (cellsL ((n + 1) * 2) (two fS fL)) rfl hll.out hnews.out hone.out hk1 hk2 hk3 ?_; intro v' w1 ho hg hv; rw [two_cat] at ho; obtain ⟨o', c', rfl, hI, hn0, ht⟩ := pairs_of_own ho; have hT := HS.out.t.of_block (hg.block T HS.out.t.lt (fun e => by cases e; exact hqT rfl)); have hT6 := hT.cell (i := 6) (by omega); have hq6 := hT.frozen 6; replace hT := Lib.hid hT; replace ht := Lib.hid ht; replace hn0 := Lib.hid hn0; clear ho hv))
  all_goals
    go_end0
    exact ⟨rfl, fin_mk HS.out (by assumption) hBq hqF hqT hpq hpT hpz.out (by assumption) (Hid.out (by assumption)) (Hid.out (by assumption))⟩
set_option maxRecDepth 100000 in
set_option maxHeartbeats 8000000 in
theorem merge2_4 (B F T : Nat) (a0 a1 b0 b1 c0 c1 x0 x1 y0 y1 z0 z1 : Int) (p q m n : Nat) (fS fL tS tL : Nat → Int) (w : World) (hn : n ≤ 65536) (hm : m ≤ 65536) (hpq : p ≠ q) (hBq : B ≤ q)
    (hp : w.rowIs p 66 ((n + 1) * 2) (two fS fL)) (hq : w.rowIs q 66 ((m + 1) * 2) (two tS tL)) (h : Src B w w F T a0 a1 b0 b1 c0 c1 x0 x1 y0 y1 z0 z1 (.slice (some ⟨p, 0, none⟩) ((n + 1 : Nat)) ((n + 1 : Nat))) (.slice (some ⟨q, 0, none⟩) ((m + 1 : Nat)) ((m + 1 : Nat)))) (ha : ¬ 0 < a1) (hb : 0 < b1) (hc : 0 < c1) :
    Calls Try.prog 23 #[.pointer (some ⟨F, 0, none⟩), .pointer (some ⟨T, 0, none⟩)] w fun e w' => e = .returned (.tuple #[]) ∧ Fin B w w' F T a0 a1 b0 b1 c0 c1 (pk a1 a0 x0) (pk a1 a1 x1) (pk b1 b0 y0) (pk b1 b1 y1) (pk c1 c0 z0) (pk c1 c1 z1) (some ⟨p, 0, none⟩) (n + 1) (n + 1) (m + 1 + (n + 1)) fS fL (cat tS (m + 1) fS) (cat tL (m + 1) fL) := by
  rw [pk_neg ha, pk_neg ha, pk_pos hb, pk_pos hb, pk_pos hc, pk_pos hc]
  obtain ⟨i0, hi, hz0, hz1, hz2⟩ := info_parts info66
  have hpF := row_ne hp h.f (by decide)
  have hpT := row_ne hp h.t (by decide)
  have hqF := row_ne hq h.f (by decide)
  have hqT := row_ne hq h.t (by decide)
  have f0 : w.cell? ⟨F, 0, none⟩ = some (.int .i32 a0) := h.f.cell (i := 0) (by omega)
  have f1 : w.cell? ⟨F, 1, none⟩ = some (.int .i32 a1) := h.f.cell (i := 1) (by omega)
  have f2 : w.cell? ⟨F, 2, none⟩ = some (.int .i32 b0) := h.f.cell (i := 2) (by omega)
  have f3 : w.cell? ⟨F, 3, none⟩ = some (.int .i32 b1) := h.f.cell (i := 3) (by omega)
  have f4 : w.cell? ⟨F, 4, none⟩ = some (.int .i32 c0) := h.f.cell (i := 4) (by omega)
  have f5 : w.cell? ⟨F, 5, none⟩ = some (.int .i32 c1) := h.f.cell (i := 5) (by omega)
  have t0 : w.cell? ⟨T, 0, none⟩ = some (.int .i32 x0) := h.t.cell (i := 0) (by omega)
  have t1 : w.cell? ⟨T, 1, none⟩ = some (.int .i32 x1) := h.t.cell (i := 1) (by omega)
  have t2 : w.cell? ⟨T, 2, none⟩ = some (.int .i32 y0) := h.t.cell (i := 2) (by omega)
  have t3 : w.cell? ⟨T, 3, none⟩ = some (.int .i32 y1) := h.t.cell (i := 3) (by omega)
  have t4 : w.cell? ⟨T, 4, none⟩ = some (.int .i32 z0) := h.t.cell (i := 4) (by omega)
  have t5 : w.cell? ⟨T, 5, none⟩ = some (.int .i32 z1) := h.t.cell (i := 5) (by omega)
  have q0 := h.t.frozen 0
  have q1 := h.t.frozen 1
  have q2 := h.t.frozen 2
  have q3 := h.t.frozen 3
  have q4 := h.t.frozen 4
  have q5 := h.t.frozen 5
  have q6 := h.t.frozen 6
  have ne := h.ne
  have ne' := h.ne.symm
  have f6 : w.cell? ⟨F, 6, none⟩ = some (.slice (some ⟨p, 0, none⟩) ((n + 1 : Nat)) ((n + 1 : Nat))) := h.f.cell (i := 6) (by omega)
  have t6 : w.cell? ⟨T, 6, none⟩ = some (.slice (some ⟨q, 0, none⟩) ((m + 1 : Nat)) ((m + 1 : Nat))) := h.t.cell (i := 6) (by omega)
  go_enter Try.func23, Try.ntmps23
  go_wp2_with fail
  have hs := h.Bb.C
  have hpz := hp.of_block (hs.keep p hpT)
  have hqz := hq.of_block (hs.keep q hqT)
  clear f0 f1 f2 f3 f4 f5 f6 t0 t1 t2 t3 t4 t5 t6 q0 q1 q2 q3 q4 q5 q6 hp hq
  generalize ((((w.setCell ⟨T, 2, none⟩ (.int .i32 b0)).setCell ⟨T, 3, none⟩ (.int .i32 b1)).setCell ⟨T, 4, none⟩ (.int .i32 c0)).setCell ⟨T, 5, none⟩ (.int .i32 c1)) = wz at hs hpz hqz ⊢
  have f6 : wz.cell? ⟨F, 6, none⟩ = some (.slice (some ⟨p, 0, none⟩) ((n + 1 : Nat)) ((n + 1 : Nat))) := hs.f.cell (i := 6) (by omega)
  have t6 : wz.cell? ⟨T, 6, none⟩ = some (.slice (some ⟨q, 0, none⟩) ((m + 1 : Nat)) ((m + 1 : Nat))) := hs.t.cell (i := 6) (by omega)
  have hs := hs.drew
  have hpz := hpz.drew
  have hqz := hqz.drew
  have hown := own_of_row (B := B) hqz hBq (by simp only [maxLen]; omega)
  have hnews : ∀ j u, (cellsL ((n + 1) * 2) (two fS fL))[j]? = some u → wz.drew.cell? ((⟨p, 0, none⟩ : Addr).add j) = some u := fun j u hu => by
    obtain ⟨hj, rfl⟩ := cellsL_get hu
    rw [add_plain, Nat.zero_add]
    exact hpz.cell hj
  have hone : ∀ u ∈ cellsL ((n + 1) * 2) (two fS fL), u.oneCell' = true := fun u hu => by
    obtain ⟨j, _, rfl⟩ := List.mem_map.1 hu
    unfold two
    split <;> rfl
  have hll : (cellsL ((n + 1) * 2) (two fS fL)).length = (n + 1) * 2 := by simp [cellsL]
  have hk1 : m + 1 + (n + 1) ≤ maxLen := by simp only [maxLen]; omega
  have hk2 : (m + 1 + (n + 1)) * 8 ≤ 140737488355328 := by omega
  have hk3 : B ≤ wz.drew.heap.size := by have := hqz.lt; omega
  replace hnews := Lib.hid hnews
  replace hone := Lib.hid hone
  replace hll := Lib.hid hll
  replace hown := Lib.hid hown
  have HS := Lib.hid hs
  replace hpz := Lib.hid hpz
  clear hs hqz
  go_region_law ((refine step_append_own rfl (.tmp 59) (.tmp 63) _ rfl B 66 i0 (.agg #[.int .i32 0, .int .i32 0]) 2 8 Try.underlying158 hi hz0 hz1 hz2 rfl (by omega) (.slice (some ⟨q, 0, none⟩) (m + 1) (m + 1)) (m + 1) (cellsL ((m + 1) * 2) (two tS tL)) rfl hown.out ⟨p, 0, none⟩ (n + 1) (n + 1) (cellsL ((n + 1) * 2) (two fS fL)) rfl hll.out hnews.out hone.out hk1 hk2 hk3 ?_; intro v' w1 ho hg hv; rw [two_cat] at ho; obtain ⟨o', c', rfl, hI, hn0, ht⟩ := pairs_of_own ho; have hT := HS.out.t.of_block (hg.block T HS.out.t.lt (fun e => by cases e; exact hqT rfl)); have hT6 := hT.cell (i := 6) (by omega); have hq6 := hT.frozen 6; replace hT := Lib.hid hT; replace ht := Lib.hid ht; replace hn0 := Lib.hid hn0; clear ho hv))
  all_goals
    go_end0
    exact ⟨rfl, fin_mk HS.out (by assumption) hBq hqF hqT hpq hpT hpz.out (by assumption) (Hid.out (by assumption)) (Hid.out (by assumption))⟩
set_option maxRecDepth 100000 in
set_option maxHeartbeats 8000000 in
theorem merge2_5 (B F T : Nat) (a0 a1 b0 b1 c0 c1 x0 x1 y0 y1 z0 z1 : Int) (p q m n : Nat) (fS fL tS tL : Nat → Int) (w : World) (hn : n ≤ 65536) (hm : m ≤ 65536) (hpq : p ≠ q) (hBq : B ≤ q)
    (hp : w.rowIs p 66 ((n + 1) * 2) (two fS fL)) (hq : w.rowIs q 66 ((m + 1) * 2) (two tS tL)) (h : Src B w w F T a0 a1 b0 b1 c0 c1 x0 x1 y0 y1 z0 z1 (.slice (some ⟨p, 0, none⟩) ((n + 1 : Nat)) ((n + 1 : Nat))) (.slice (some ⟨q, 0, none⟩) ((m + 1 : Nat)) ((m + 1 : Nat)))) (ha : ¬ 0 < a1) (hb : 0 < b1) (hc : ¬ 0 < c1) :
    Calls Try.prog 23 #[.pointer (some ⟨F, 0, none⟩), .pointer (some ⟨T, 0, none⟩)] w fun e w' => e = .returned (.tuple #[]) ∧ Fin B w w' F T a0 a1 b0 b1 c0 c1 (pk a1 a0 x0) (pk a1 a1 x1) (pk b1 b0 y0) (pk b1 b1 y1) (pk c1 c0 z0) (pk c1 c1 z1) (some ⟨p, 0, none⟩) (n + 1) (n + 1) (m + 1 + (n + 1)) fS fL (cat tS (m + 1) fS) (cat tL (m + 1) fL) := by
  rw [pk_neg ha, pk_neg ha, pk_pos hb, pk_pos hb, pk_neg hc, pk_neg hc]
  obtain ⟨i0, hi, hz0, hz1, hz2⟩ := info_parts info66
  have hpF := row_ne hp h.f (by decide)
  have hpT := row_ne hp h.t (by decide)
  have hqF := row_ne hq h.f (by decide)
  have hqT := row_ne hq h.t (by decide)
  have f0 : w.cell? ⟨F, 0, none⟩ = some (.int .i32 a0) := h.f.cell (i := 0) (by omega)
  have f1 : w.cell? ⟨F, 1, none⟩ = some (.int .i32 a1) := h.f.cell (i := 1) (by omega)
  have f2 : w.cell? ⟨F, 2, none⟩ = some (.int .i32 b0) := h.f.cell (i := 2) (by omega)
  have f3 : w.cell? ⟨F, 3, none⟩ = some (.int .i32 b1) := h.f.cell (i := 3) (by omega)
  have f4 : w.cell? ⟨F, 4, none⟩ = some (.int .i32 c0) := h.f.cell (i := 4) (by omega)
  have f5 : w.cell? ⟨F, 5, none⟩ = some (.int .i32 c1) := h.f.cell (i := 5) (by omega)
  have t0 : w.cell? ⟨T, 0, none⟩ = some (.int .i32 x0) := h.t.cell (i := 0) (by omega)
  have t1 : w.cell? ⟨T, 1, none⟩ = some (.int .i32 x1) := h.t.cell (i := 1) (by omega)
  have t2 : w.cell? ⟨T, 2, none⟩ = some (.int .i32 y0) := h.t.cell (i := 2) (by omega)
  have t3 : w.cell? ⟨T, 3, none⟩ = some (.int .i32 y1) := h.t.cell (i := 3) (by omega)
  have t4 : w.cell? ⟨T, 4, none⟩ = some (.int .i32 z0) := h.t.cell (i := 4) (by omega)
  have t5 : w.cell? ⟨T, 5, none⟩ = some (.int .i32 z1) := h.t.cell (i := 5) (by omega)
  have q0 := h.t.frozen 0
  have q1 := h.t.frozen 1
  have q2 := h.t.frozen 2
  have q3 := h.t.frozen 3
  have q4 := h.t.frozen 4
  have q5 := h.t.frozen 5
  have q6 := h.t.frozen 6
  have ne := h.ne
  have ne' := h.ne.symm
  have f6 : w.cell? ⟨F, 6, none⟩ = some (.slice (some ⟨p, 0, none⟩) ((n + 1 : Nat)) ((n + 1 : Nat))) := h.f.cell (i := 6) (by omega)
  have t6 : w.cell? ⟨T, 6, none⟩ = some (.slice (some ⟨q, 0, none⟩) ((m + 1 : Nat)) ((m + 1 : Nat))) := h.t.cell (i := 6) (by omega)
  go_enter Try.func23, Try.ntmps23
  go_wp2_with fail
  have hs := h.Bb
  have hpz := hp.of_block (hs.keep p hpT)
  have hqz := hq.of_block (hs.keep q hqT)
  clear f0 f1 f2 f3 f4 f5 f6 t0 t1 t2 t3 t4 t5 t6 q0 q1 q2 q3 q4 q5 q6 hp hq
  generalize ((w.setCell ⟨T, 2, none⟩ (.int .i32 b0)).setCell ⟨T, 3, none⟩ (.int .i32 b1)) = wz at hs hpz hqz ⊢
  have f6 : wz.cell? ⟨F, 6, none⟩ = some (.slice (some ⟨p, 0, none⟩) ((n + 1 : Nat)) ((n + 1 : Nat))) := hs.f.cell (i := 6) (by omega)
  have t6 : wz.cell? ⟨T, 6, none⟩ = some (.slice (some ⟨q, 0, none⟩) ((m + 1 : Nat)) ((m + 1 : Nat))) := hs.t.cell (i := 6) (by omega)
  have hs := hs.drew
  have hpz := hpz.drew
  have hqz := hqz.drew
  have hown := own_of_row (B := B) hqz hBq (by simp only [maxLen]; omega)
  have hnews : ∀ j u, (cellsL ((n + 1) * 2) (two fS fL))[j]? = some u → wz.drew.cell? ((⟨p, 0, none⟩ : Addr).add j) = some u := fun j u hu => by
    obtain ⟨hj, rfl⟩ := cellsL_get hu
    rw [add_plain, Nat.zero_add]
    exact hpz.cell hj
  have hone : ∀ u ∈ cellsL ((n + 1) * 2) (two fS fL), u.oneCell' = true := fun u hu => by
    obtain ⟨j, _, rfl⟩ := List.mem_map.1 hu
    unfold two
    split <;> rfl
  have hll : (cellsL ((n + 1) * 2) (two fS fL)).length = (n + 1) * 2 := by simp [cellsL]
  have hk1 : m + 1 + (n + 1) ≤ maxLen := by simp only [maxLen]; omega
  have hk2 : (m + 1 + (n + 1)) * 8 ≤ 140737488355328 := by omega
  have hk3 : B ≤ wz.drew.heap.size := by have := hqz.lt; omega
  replace hnews := Lib.hid hnews
  replace hone := Lib.hid hone
  replace hll := Lib.hid hll
  replace hown := Lib.hid hown
  have HS := Lib.hid hs
  replace hpz := Lib.hid hpz
  clear hs hqz
  go_region_law ((refine step_append_own rfl (.tmp 59) (.tmp 63) _ rfl B 66 i0 (.agg #[.int .i32 0, .int .i32 0]) 2 8 Try.underlying158 hi hz0 hz1 hz2 rfl (by omega) (.slice (some ⟨q, 0, none⟩) (m + 1) (m + 1)) (m + 1) (cellsL ((m + 1) * 2) (two tS tL)) rfl hown.out ⟨p, 0, none⟩ (n + 1) (n + 1) (cellsL ((n + 1) * 2) (two fS fL)) rfl hll.out hnews.out hone.out hk1 hk2 hk3 ?_; intro v' w1 ho hg hv; rw [two_cat] at ho; obtain ⟨o', c', rfl, hI, hn0, ht⟩ := pairs_of_own ho; have hT := HS.out.t.of_block (hg.block T HS.out.t.lt (fun e => by cases e; exact hqT rfl)); have hT6 := hT.cell (i := 6) (by omega); have hq6 := hT.frozen 6; replace hT := Lib.hid hT; replace ht := Lib.hid ht; replace hn0 := Lib.hid hn0; clear ho hv))
  all_goals
    go_end0
    exact ⟨rfl, fin_mk HS.out (by assumption) hBq hqF hqT hpq hpT hpz.out (by assumption) (Hid.out (by assumption)) (Hid.out (by assumption))⟩
set_option maxRecDepth 100000 in
set_option maxHeartbeats 8000000 in
theorem merge2_6 (B F T : Nat) (a0 a1 b0 b1 c0 c1 x0 x1 y0 y1 z0 z1 : Int) (p q m n : Nat) (fS fL tS tL : Nat → Int) (w : World) (hn : n ≤ 65536) (hm : m ≤ 65536) (hpq : p ≠ q) (hBq : B ≤ q)
    (hp : w.rowIs p 66 ((n + 1) * 2) (two fS fL)) (hq : w.rowIs q 66 ((m + 1) * 2) (two tS tL)) (h : Src B w w F T a0 a1 b0 b1 c0 c1 x0 x1 y0 y1 z0 z1 (.slice (some ⟨p, 0, none⟩) ((n + 1 : Nat)) ((n + 1 : Nat))) (.slice (some ⟨q, 0, none⟩) ((m + 1 : Nat)) ((m + 1 : Nat)))) (ha : ¬ 0 < a1) (hb : ¬ 0 < b1) (hc : 0 < c1) :
    Calls Try.prog 23 #[.pointer (some ⟨F, 0, none⟩), .pointer (some ⟨T, 0, none⟩)] w fun e w' => e = .returned (.tuple #[]) ∧ Fin B w w' F T a0 a1 b0 b1 c0 c1 (pk a1 a0 x0) (pk a1 a1 x1) (pk b1 b0 y0) (pk b1 b1 y1) (pk c1 c0 z0) (pk c1 c1 z1) (some ⟨p, 0, none⟩) (n + 1) (n + 1) (m + 1 + (n + 1)) fS fL (cat tS (m + 1) fS) (cat tL (m + 1) fL) := by
  rw [pk_neg ha, pk_neg ha, pk_neg hb, pk_neg hb, pk_pos hc, pk_pos hc]
  obtain ⟨i0, hi, hz0, hz1, hz2⟩ := info_parts info66
  have hpF := row_ne hp h.f (by decide)
  have hpT := row_ne hp h.t (by decide)
  have hqF := row_ne hq h.f (by decide)
  have hqT := row_ne hq h.t (by decide)
  have f0 : w.cell? ⟨F, 0, none⟩ = some (.int .i32 a0) := h.f.cell (i := 0) (by omega)
  have f1 : w.cell? ⟨F, 1, none⟩ = some (.int .i32 a1) := h.f.cell (i := 1) (by omega)
  have f2 : w.cell? ⟨F, 2, none⟩ = some (.int .i32 b0) := h.f.cell (i := 2) (by omega)
  have f3 : w.cell? ⟨F, 3, none⟩ = some (.int .i32 b1) := h.f.cell (i := 3) (by omega)
  have f4 : w.cell? ⟨F, 4, none⟩ = some (.int .i32 c0) := h.f.cell (i := 4) (by omega)
  have f5 : w.cell? ⟨F, 5, none⟩ = some (.int .i32 c1) := h.f.cell (i := 5) (by omega)
  have t0 : w.cell? ⟨T, 0, none⟩ = some (.int .i32 x0) := h.t.cell (i := 0) (by omega)
  have t1 : w.cell? ⟨T, 1, none⟩ = some (.int .i32 x1) := h.t.cell (i := 1) (by omega)
  have t2 : w.cell? ⟨T, 2, none⟩ = some (.int .i32 y0) := h.t.cell (i := 2) (by omega)
  have t3 : w.cell? ⟨T, 3, none⟩ = some (.int .i32 y1) := h.t.cell (i := 3) (by omega)
  have t4 : w.cell? ⟨T, 4, none⟩ = some (.int .i32 z0) := h.t.cell (i := 4) (by omega)
  have t5 : w.cell? ⟨T, 5, none⟩ = some (.int .i32 z1) := h.t.cell (i := 5) (by omega)
  have q0 := h.t.frozen 0
  have q1 := h.t.frozen 1
  have q2 := h.t.frozen 2
  have q3 := h.t.frozen 3
  have q4 := h.t.frozen 4
  have q5 := h.t.frozen 5
  have q6 := h.t.frozen 6
  have ne := h.ne
  have ne' := h.ne.symm
  have f6 : w.cell? ⟨F, 6, none⟩ = some (.slice (some ⟨p, 0, none⟩) ((n + 1 : Nat)) ((n + 1 : Nat))) := h.f.cell (i := 6) (by omega)
  have t6 : w.cell? ⟨T, 6, none⟩ = some (.slice (some ⟨q, 0, none⟩) ((m + 1 : Nat)) ((m + 1 : Nat))) := h.t.cell (i := 6) (by omega)
  go_enter Try.func23, Try.ntmps23
  go_wp2_with fail
  have hs := h.C
  have hpz := hp.of_block (hs.keep p hpT)
  have hqz := hq.of_block (hs.keep q hqT)
  clear f0 f1 f2 f3 f4 f5 f6 t0 t1 t2 t3 t4 t5 t6 q0 q1 q2 q3 q4 q5 q6 hp hq
  generalize ((w.setCell ⟨T, 4, none⟩ (.int .i32 c0)).setCell ⟨T, 5, none⟩ (.int .i32 c1)) = wz at hs hpz hqz ⊢
  have f6 : wz.cell? ⟨F, 6, none⟩ = some (.slice (some ⟨p, 0, none⟩) ((n + 1 : Nat)) ((n + 1 : Nat))) := hs.f.cell (i := 6) (by omega)
  have t6 : wz.cell? ⟨T, 6, none⟩ = some (.slice (some ⟨q, 0, none⟩) ((m + 1 : Nat)) ((m + 1 : Nat))) := hs.t.cell (i := 6) (by omega)
  have hs := hs.drew
  have hpz := hpz.drew
  have hqz := hqz.drew
  have hown := own_of_row (B := B) hqz hBq (by simp only [maxLen]; omega)
  have hnews : ∀ j u, (cellsL ((n + 1) * 2) (two fS fL))[j]? = some u → wz.drew.cell? ((⟨p, 0, none⟩ : Addr).add j) = some u := fun j u hu => by
    obtain ⟨hj, rfl⟩ := cellsL_get hu
    rw [add_plain, Nat.zero_add]
    exact hpz.cell hj
  have hone : ∀ u ∈ cellsL ((n + 1) * 2) (two fS fL), u.oneCell' = true := fun u hu => by
    obtain ⟨j, _, rfl⟩ := List.mem_map.1 hu
    unfold two
    split <;> rfl
  have hll : (cellsL ((n + 1) * 2) (two fS fL)).length = (n + 1) * 2 := by simp [cellsL]
  have hk1 : m + 1 + (n + 1) ≤ maxLen := by simp only [maxLen]; omega
  have hk2 : (m + 1 + (n + 1)) * 8 ≤ 140737488355328 := by omega
  have hk3 : B ≤ wz.drew.heap.size := by have := hqz.lt; omega
  replace hnews := Lib.hid hnews
  replace hone := Lib.hid hone
  replace hll := Lib.hid hll
  replace hown := Lib.hid hown
  have HS := Lib.hid hs
  replace hpz := Lib.hid hpz
  clear hs hqz
  go_region_law ((refine step_append_own rfl (.tmp 59) (.tmp 63) _ rfl B 66 i0 (.agg #[.int .i32 0, .int .i32 0]) 2 8 Try.underlying158 hi hz0 hz1 hz2 rfl (by omega) (.slice (some ⟨q, 0, none⟩) (m + 1) (m + 1)) (m + 1) (cellsL ((m + 1) * 2) (two tS tL)) rfl hown.out ⟨p, 0, none⟩ (n + 1) (n + 1) (cellsL ((n + 1) * 2) (two fS fL)) rfl hll.out hnews.out hone.out hk1 hk2 hk3 ?_; intro v' w1 ho hg hv; rw [two_cat] at ho; obtain ⟨o', c', rfl, hI, hn0, ht⟩ := pairs_of_own ho; have hT := HS.out.t.of_block (hg.block T HS.out.t.lt (fun e => by cases e; exact hqT rfl)); have hT6 := hT.cell (i := 6) (by omega); have hq6 := hT.frozen 6; replace hT := Lib.hid hT; replace ht := Lib.hid ht; replace hn0 := Lib.hid hn0; clear ho hv))
  all_goals
    go_end0
    exact ⟨rfl, fin_mk HS.out (by assumption) hBq hqF hqT hpq hpT hpz.out (by assumption) (Hid.out (by assumption)) (Hid.out (by assumption))⟩
set_option maxRecDepth 100000 in
set_option maxHeartbeats 8000000 in
theorem merge2_7 (B F T : Nat) (a0 a1 b0 b1 c0 c1 x0 x1 y0 y1 z0 z1 : Int) (p q m n : Nat) (fS fL tS tL : Nat → Int) (w : World) (hn : n ≤ 65536) (hm : m ≤ 65536) (hpq : p ≠ q) (hBq : B ≤ q)
    (hp : w.rowIs p 66 ((n + 1) * 2) (two fS fL)) (hq : w.rowIs q 66 ((m + 1) * 2) (two tS tL)) (h : Src B w w F T a0 a1 b0 b1 c0 c1 x0 x1 y0 y1 z0 z1 (.slice (some ⟨p, 0, none⟩) ((n + 1 : Nat)) ((n + 1 : Nat))) (.slice (some ⟨q, 0, none⟩) ((m + 1 : Nat)) ((m + 1 : Nat)))) (ha : ¬ 0 < a1) (hb : ¬ 0 < b1) (hc : ¬ 0 < c1) :
    Calls Try.prog 23 #[.pointer (some ⟨F, 0, none⟩), .pointer (some ⟨T, 0, none⟩)] w fun e w' => e = .returned (.tuple #[]) ∧ Fin B w w' F T a0 a1 b0 b1 c0 c1 (pk a1 a0 x0) (pk a1 a1 x1) (pk b1 b0 y0) (pk b1 b1 y1) (pk c1 c0 z0) (pk c1 c1 z1) (some ⟨p, 0, none⟩) (n + 1) (n + 1) (m + 1 + (n + 1)) fS fL (cat tS (m + 1) fS) (cat tL (m + 1) fL) := by
  rw [pk_neg ha, pk_neg ha, pk_neg hb, pk_neg hb, pk_neg hc, pk_neg hc]
  obtain ⟨i0, hi, hz0, hz1, hz2⟩ := info_parts info66
  have hpF := row_ne hp h.f (by decide)
  have hpT := row_ne hp h.t (by decide)
  have hqF := row_ne hq h.f (by decide)
  have hqT := row_ne hq h.t (by decide)
  have f0 : w.cell? ⟨F, 0, none⟩ = some (.int .i32 a0) := h.f.cell (i := 0) (by omega)
  have f1 : w.cell? ⟨F, 1, none⟩ = some (.int .i32 a1) := h.f.cell (i := 1) (by omega)
  have f2 : w.cell? ⟨F, 2, none⟩ = some (.int .i32 b0) := h.f.cell (i := 2) (by omega)
  have f3 : w.cell? ⟨F, 3, none⟩ = some (.int .i32 b1) := h.f.cell (i := 3) (by omega)
  have f4 : w.cell? ⟨F, 4, none⟩ = some (.int .i32 c0) := h.f.cell (i := 4) (by omega)
  have f5 : w.cell? ⟨F, 5, none⟩ = some (.int .i32 c1) := h.f.cell (i := 5) (by omega)
  have t0 : w.cell? ⟨T, 0, none⟩ = some (.int .i32 x0) := h.t.cell (i := 0) (by omega)
  have t1 : w.cell? ⟨T, 1, none⟩ = some (.int .i32 x1) := h.t.cell (i := 1) (by omega)
  have t2 : w.cell? ⟨T, 2, none⟩ = some (.int .i32 y0) := h.t.cell (i := 2) (by omega)
  have t3 : w.cell? ⟨T, 3, none⟩ = some (.int .i32 y1) := h.t.cell (i := 3) (by omega)
  have t4 : w.cell? ⟨T, 4, none⟩ = some (.int .i32 z0) := h.t.cell (i := 4) (by omega)
  have t5 : w.cell? ⟨T, 5, none⟩ = some (.int .i32 z1) := h.t.cell (i := 5) (by omega)
  have q0 := h.t.frozen 0
  have q1 := h.t.frozen 1
  have q2 := h.t.frozen 2
  have q3 := h.t.frozen 3
  have q4 := h.t.frozen 4
  have q5 := h.t.frozen 5
  have q6 := h.t.frozen 6
  have ne := h.ne
  have ne' := h.ne.symm
  have f6 : w.cell? ⟨F, 6, none⟩ = some (.slice (some ⟨p, 0, none⟩) ((n + 1 : Nat)) ((n + 1 : Nat))) := h.f.cell (i := 6) (by omega)
  have t6 : w.cell? ⟨T, 6, none⟩ = some (.slice (some ⟨q, 0, none⟩) ((m + 1 : Nat)) ((m + 1 : Nat))) := h.t.cell (i := 6) (by omega)
  go_enter Try.func23, Try.ntmps23
  go_wp2_with fail
  have hs := h
  have hpz := hp.of_block (hs.keep p hpT)
  have hqz := hq.of_block (hs.keep q hqT)
  clear f0 f1 f2 f3 f4 f5 f6 t0 t1 t2 t3 t4 t5 t6 q0 q1 q2 q3 q4 q5 q6 hp hq
  have f6 : w.cell? ⟨F, 6, none⟩ = some (.slice (some ⟨p, 0, none⟩) ((n + 1 : Nat)) ((n + 1 : Nat))) := hs.f.cell (i := 6) (by omega)
  have t6 : w.cell? ⟨T, 6, none⟩ = some (.slice (some ⟨q, 0, none⟩) ((m + 1 : Nat)) ((m + 1 : Nat))) := hs.t.cell (i := 6) (by omega)
  have hs := hs.drew
  have hpz := hpz.drew
  have hqz := hqz.drew
  have hown := own_of_row (B := B) hqz hBq (by simp only [maxLen]; omega)
  have hnews : ∀ j u, (cellsL ((n + 1) * 2) (two fS fL))[j]? = some u → w.drew.cell? ((⟨p, 0, none⟩ : Addr).add j) = some u := fun j u hu => by
    obtain ⟨hj, rfl⟩ := cellsL_get hu
    rw [add_plain, Nat.zero_add]
    exact hpz.cell hj
  have hone : ∀ u ∈ cellsL ((n + 1) * 2) (two fS fL), u.oneCell' = true := fun u hu => by
    obtain ⟨j, _, rfl⟩ := List.mem_map.1 hu
    unfold two
    split <;> rfl
  have hll : (cellsL ((n + 1) * 2) (two fS fL)).length = (n + 1) * 2 := by simp [cellsL]
  have hk1 : m + 1 + (n + 1) ≤ maxLen := by simp only [maxLen]; omega
  have hk2 : (m + 1 + (n + 1)) * 8 ≤ 140737488355328 := by omega
  have hk3 : B ≤ w.drew.heap.size := by have := hqz.lt; omega
  replace hnews := Lib.hid hnews
  replace hone := Lib.hid hone
  replace hll := Lib.hid hll
  replace hown := Lib.hid hown
  have HS := Lib.hid hs
  replace hpz := Lib.hid hpz
  clear hs hqz
  go_region_law ((refine step_append_own rfl (.tmp 59) (.tmp 63) _ rfl B 66 i0 (.agg #[.int .i32 0, .int .i32 0]) 2 8 Try.underlying158 hi hz0 hz1 hz2 rfl (by omega) (.slice (some ⟨q, 0, none⟩) (m + 1) (m + 1)) (m + 1) (cellsL ((m + 1) * 2) (two tS tL)) rfl hown.out ⟨p, 0, none⟩ (n + 1) (n + 1) (cellsL ((n + 1) * 2) (two fS fL)) rfl hll.out hnews.out hone.out hk1 hk2 hk3 ?_; intro v' w1 ho hg hv; rw [two_cat] at ho; obtain ⟨o', c', rfl, hI, hn0, ht⟩ := pairs_of_own ho; have hT := HS.out.t.of_block (hg.block T HS.out.t.lt (fun e => by cases e; exact hqT rfl)); have hT6 := hT.cell (i := 6) (by omega); have hq6 := hT.frozen 6; replace hT := Lib.hid hT; replace ht := Lib.hid ht; replace hn0 := Lib.hid hn0; clear ho hv))
  all_goals
    go_end0
    exact ⟨rfl, fin_mk HS.out (by assumption) hBq hqF hqT hpq hpT hpz.out (by assumption) (Hid.out (by assumption)) (Hid.out (by assumption))⟩
theorem pairs_congr {w : World} {o : Option Addr} {n : Nat} {S L S' L' : Nat → Int} (h : PairsAt w o n S L) (e : ∀ i, i < n → S i = S' i) (e' : ∀ i, i < n → L i = L' i) : PairsAt w o n S' L' := by
  rcases h with h | ⟨b, off, eo, hb, hc⟩
  · exact .inl h
  · exact .inr ⟨b, off, eo, hb, fun i hi => by rw [← e i hi, ← e' i hi]; exact hc i hi⟩
theorem pairs_src {w : World} {o : Option Addr} {n : Nat} {S L : Nat → Int} (h : (o = none ∧ n = 0) ∨ ∃ p, o = some ⟨p, 0, none⟩ ∧ w.rowIs p 66 (n * 2) (two S L)) : PairsAt w o n S L := by
  rcases h with ⟨_, h⟩ | ⟨p, rfl, h⟩
  · exact .inl h
  · exact pairs_of_row h
/-- A list lies on where only block T is written. -/
theorem pairs_keep {B : Nat} {w0 w : World} {F T : Nat} {a0 a1 b0 b1 c0 c1 x0 x1 y0 y1 z0 z1 : Int} {v u : Value} (h : Src B w0 w F T a0 a1 b0 b1 c0 c1 x0 x1 y0 y1 z0 z1 v u) {x1' x2' x3' x4' x5' x6' : Int} {v' u' : Value} (h0 : Src B w0 w0 F T a0 a1 b0 b1 c0 c1 x1' x2' x3' x4' x5' x6' v' u') {o : Option Addr} {n : Nat} {S L : Nat → Int}
    (hp : (o = none ∧ n = 0) ∨ ∃ p, o = some ⟨p, 0, none⟩ ∧ w0.rowIs p 66 (n * 2) (two S L)) : PairsAt w o n S L := by
  rcases hp with ⟨_, h⟩ | ⟨p, rfl, hp⟩
  · exact .inl h
  · exact pairs_of_row (hp.of_block (h.keep p (row_ne hp h0.t (by decide))))
set_option maxHeartbeats 1000000 in
theorem merge (B F T : Nat) (a0 a1 b0 b1 c0 c1 x0 x1 y0 y1 z0 z1 : Int) (fo to : Option Addr) (m n : Nat) (fS fL tS tL : Nat → Int) (w : World) (hn : n ≤ 65536) (hm : m ≤ 65536)
    (hf : (fo = none ∧ n = 0) ∨ ∃ p, fo = some ⟨p, 0, none⟩ ∧ w.rowIs p 66 (n * 2) (two fS fL)) (ht : (to = none ∧ m = 0) ∨ ∃ p, to = some ⟨p, 0, none⟩ ∧ w.rowIs p 66 (m * 2) (two tS tL))
    (hq : ∀ q, to = some ⟨q, 0, none⟩ → B ≤ q ∧ fo ≠ some ⟨q, 0, none⟩) (h : Src B w w F T a0 a1 b0 b1 c0 c1 x0 x1 y0 y1 z0 z1 (.slice fo n n) (.slice to m m)) :
    Calls Try.prog 23 #[.pointer (some ⟨F, 0, none⟩), .pointer (some ⟨T, 0, none⟩)] w fun e w' => e = .returned (.tuple #[]) ∧ Fin B w w' F T a0 a1 b0 b1 c0 c1 (pk a1 a0 x0) (pk a1 a1 x1) (pk b1 b0 y0) (pk b1 b1 y1) (pk c1 c0 z0) (pk c1 c1 z1) fo n n (m + n) fS fL (cat tS m fS) (cat tL m fL) := by
  cases n with
  | zero =>
    refine (merge0 B F T a0 a1 b0 b1 c0 c1 x0 x1 y0 y1 z0 z1 fo to m 0 0 m w hn h).mono ?_
    rintro e w' ⟨rfl, hs⟩
    refine ⟨rfl, hs.f, ⟨to, m, hs.t, pairs_congr (n := m) (pairs_keep hs h ht) (fun i hi => by simp [cat, show i < m by omega]) (fun i hi => by simp [cat, show i < m by omega]), ?_, ?_⟩, hs.below, .inl rfl⟩
    · intro e
      rcases ht with ⟨_, h⟩ | ⟨p, h, _⟩
      · exact ⟨h, h⟩
      · rw [h] at e; cases e
    · intro a e
      rcases ht with ⟨h', _⟩ | ⟨p, h', hp⟩
      · rw [h'] at e; cases e
      · rw [h'] at e; cases e
        have hne := row_ne hp h.t (by decide)
        obtain ⟨cur, hc, _⟩ := hp
        exact ⟨cur, (hs.keep p hne).trans hc⟩
  | succ n =>
    obtain ⟨p, rfl, hp⟩ : ∃ p, fo = some ⟨p, 0, none⟩ ∧ w.rowIs p 66 ((n + 1) * 2) (two fS fL) := by
      rcases hf with ⟨_, h⟩ | h
      · cases h
      · exact h
    cases m with
    | zero =>
      refine (merge1 B F T a0 a1 b0 b1 c0 c1 x0 x1 y0 y1 z0 z1 _ to 0 n _ 0 w (by omega) h).mono ?_
      rintro e w' ⟨rfl, hs⟩
      have hp' := pairs_keep hs h (.inr ⟨p, rfl, hp⟩)
      rw [Nat.zero_add]
      refine ⟨rfl, hs.f, ⟨_, _, hs.t, pairs_congr hp' (fun i _ => by simp [cat]) (fun i _ => by simp [cat]), (fun e => by cases e), (fun a e => ?_)⟩, hs.below, hp'⟩
      cases e
      have hne := row_ne hp h.t (by decide)
      obtain ⟨cur, hc, _⟩ := hp
      exact ⟨cur, (hs.keep p hne).trans hc⟩
    | succ m =>
      obtain ⟨q, rfl, hqr⟩ : ∃ q, to = some ⟨q, 0, none⟩ ∧ w.rowIs q 66 ((m + 1) * 2) (two tS tL) := by
        rcases ht with ⟨_, h⟩ | h
        · cases h
        · exact h
      obtain ⟨hBq, hne⟩ := hq q rfl
      have hpq : p ≠ q := fun e => hne (by rw [e])
      rcases Classical.em (0 < a1) with ha | ha <;> rcases Classical.em (0 < b1) with hb | hb <;> rcases Classical.em (0 < c1) with hc | hc
      · exact merge2_0 B F T a0 a1 b0 b1 c0 c1 x0 x1 y0 y1 z0 z1 p q m n fS fL tS tL w (by omega) (by omega) hpq hBq hp hqr h ha hb hc
      · exact merge2_1 B F T a0 a1 b0 b1 c0 c1 x0 x1 y0 y1 z0 z1 p q m n fS fL tS tL w (by omega) (by omega) hpq hBq hp hqr h ha hb hc
      · exact merge2_2 B F T a0 a1 b0 b1 c0 c1 x0 x1 y0 y1 z0 z1 p q m n fS fL tS tL w (by omega) (by omega) hpq hBq hp hqr h ha hb hc
      · exact merge2_3 B F T a0 a1 b0 b1 c0 c1 x0 x1 y0 y1 z0 z1 p q m n fS fL tS tL w (by omega) (by omega) hpq hBq hp hqr h ha hb hc
      · exact merge2_4 B F T a0 a1 b0 b1 c0 c1 x0 x1 y0 y1 z0 z1 p q m n fS fL tS tL w (by omega) (by omega) hpq hBq hp hqr h ha hb hc
      · exact merge2_5 B F T a0 a1 b0 b1 c0 c1 x0 x1 y0 y1 z0 z1 p q m n fS fL tS tL w (by omega) (by omega) hpq hBq hp hqr h ha hb hc
      · exact merge2_6 B F T a0 a1 b0 b1 c0 c1 x0 x1 y0 y1 z0 z1 p q m n fS fL tS tL w (by omega) (by omega) hpq hBq hp hqr h ha hb hc
      · exact merge2_7 B F T a0 a1 b0 b1 c0 c1 x0 x1 y0 y1 z0 z1 p q m n fS fL tS tL w (by omega) (by omega) hpq hBq hp hqr h ha hb hc
end Go.Proofs.Ythhhmildgnoniaa.Merge
