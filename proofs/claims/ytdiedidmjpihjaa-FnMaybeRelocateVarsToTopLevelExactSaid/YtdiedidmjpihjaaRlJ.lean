/-
  The set-up of the relocation law: the chain of scopes, the parser, the bindings. Condition: lengths.
-/
import Derived.Test.YtdiedidmjpihjaaRlI
namespace Go.Proofs.Ytdiedidmjpihjaa.Rl
open Go.RowKit Go.ChangeShapes Go.WideShapes Go.ChangeAt Go.Proofs.Ytdiedidmjpihjaa.Ints

def anyT (fn : Nat → Bool) : Nat → Bool
  | 0 => false
  | i + 1 => anyT fn i || fn i
theorem anyT_false {fn : Nat → Bool} {m : Nat} : anyT fn m = false ↔ ∀ i, i < m → fn i = false := by
  induction m with
  | zero => exact ⟨fun _ i hi => by omega, fun _ => rfl⟩
  | succ m ih =>
    rw [anyT, Bool.or_eq_false_iff, ih]
    refine ⟨fun h i hi => ?_, fun h => ⟨fun i hi => h i (by omega), h m (by omega)⟩⟩
    rcases Nat.lt_or_ge i m with g | g
    · exact h.1 i g
    · rw [show i = m by omega]; exact h.2
/-- The chain while it grows: block M + i is the i-th scope. -/
structure Gr (M : Nat) (fn : Nat → Bool) (i : Nat) (w wr : World) : Prop where
  size : wr.heap.size = M + i + 1
  below : Below M w wr
  sch : Sch (fun j => M + j) fn i wr
theorem gr_start {w : World} {C : Array Value} (fn : Nat → Bool) (h : C[15]? = some (.int .u8 6)) : Gr w.heap.size fn 0 w (w.alloc (.cells C 58)) := by
  have hb := heap_alloc_new w (.cells C 58)
  refine ⟨by simp, (Below.refl _ _).alloc (Nat.le_refl _) _, ⟨fun i hi => ?_, fun i hi => by omega, fun i h1 h2 => by omega, fun i hi => ?_⟩⟩
  · obtain rfl : i = 0 := by omega
    exact (cell_of_row _ _ 15 _ _ _ hb).trans h
  · obtain rfl : i = 0 := by omega
    exact ⟨C, hb⟩
theorem Gr.next {M i : Nat} {fn : Nat → Bool} {w wr : World} {C : Array Value} (h : Gr M fn i w wr) (h1 : C[15]? = some (.int .u8 (if fn i then 8 else 0))) (h2 : C[1]? = some (.pointer (some ⟨M + i, 0, none⟩))) : Gr M fn (i + 1) w (wr.alloc (.cells C 58)) := by
  have hb := heap_alloc_new wr (.cells C 58)
  have hbl : Below wr.heap.size wr (wr.alloc (.cells C 58)) := (Below.refl _ _).alloc (Nat.le_refl _) _
  have hs := h.sch.below hbl
  have hz := h.size
  rw [show wr.heap.size = M + (i + 1) by omega] at hb
  refine ⟨by simp; omega, h.below.alloc (by omega) _, ⟨fun j hj => ?_, fun j hj => ?_, fun j h1 _ => by show M + j ≠ M + 0; omega, fun j hj => ?_⟩⟩
  · rcases Nat.lt_or_ge j (i + 1) with g | g
    · exact hs.kind j (by omega)
    · obtain rfl : j = i + 1 := by omega
      exact (cell_of_row _ _ 15 _ _ _ hb).trans h1
  · rcases Nat.lt_or_ge j i with g | g
    · exact hs.par j g
    · obtain rfl : j = i := by omega
      exact (cell_of_row _ _ 1 _ _ _ hb).trans h2
  · rcases Nat.lt_or_ge j (i + 1) with g | g
    · exact hs.blk j (by omega)
    · obtain rfl : j = i + 1 := by omega
      exact ⟨C, hb⟩
def zd : Array Value := #[.nilIface, .int .i32 0, .nilIface, .int .i32 0]
theorem infoD : (Try.prog.info? 74).map (fun i => (i.zero, i.size, i.bytes)) = some (some (.agg zd), 4, 48) := by kernel_rfl
theorem makeD (n : Nat) (hn : n ≤ 65536) (w : World) : (Instr.makeSlice 27 (.int .i64 (n : Int)) (.int .i64 (n : Int))).run Try.prog w =
    .ok (.slice (some ⟨w.heap.size, 0, none⟩) n n) (w.alloc (.cells (madeCells zd (n * 4)) 74)) := by
  obtain ⟨i, hi, hz, hs, hb⟩ := info_parts infoD
  have h := run_make_rowN (P := Try.prog) 27 74 i _ Try.underlying27 hi hz .i64 .i64 n n (Nat.le_refl _) (by rw [hb]; omega) (by omega) w
  rw [hs] at h
  exact h
/-- The bindings' row while it fills: i of them are there. -/
structure Fi (D n : Nat) (r : Nat → Nat) (lc : Nat → Int) (vl : Nat → Bool) (i : Nat) (b : Nat → Nat) (w wr : World) : Prop where
  below : Below D w wr
  gt : D < wr.heap.size
  row : ∃ f, wr.rowIs D 74 (n * 4) f ∧ (∀ j, j < i → f (j * 4) = .iface 62 (.pointer (some ⟨b j, 0, none⟩)) ∧ f (j * 4 + 1) = .int .i32 (lc j) ∧
    (vl j = false → f (j * 4 + 2) = .nilIface ∧ f (j * 4 + 3) = .int .i32 0) ∧ (vl j = true → ∃ t p m, f (j * 4 + 2) = .iface t p ∧ f (j * 4 + 3) = .int .i32 m)) ∧
    ∀ j, i ≤ j → j < n → f (j * 4) = .nilIface ∧ f (j * 4 + 1) = .int .i32 0 ∧ f (j * 4 + 2) = .nilIface ∧ f (j * 4 + 3) = .int .i32 0
  blk : ∀ j, j < i → wr.heap[b j]? = some (.cells #[.int .u32 0, .int .u32 (r j : Nat)] 64 (0, 0))
theorem fi_start (w : World) (n : Nat) (r : Nat → Nat) (lc : Nat → Int) (vl : Nat → Bool) (b : Nat → Nat) : Fi w.heap.size n r lc vl 0 b w (w.alloc (.cells (madeCells zd (n * 4)) 74)) := by
  refine ⟨(Below.refl _ _).alloc (Nat.le_refl _) _, by simp, ⟨fun i => (madeCells zd (n * 4)).getD i undef, ?_, fun j hj => by omega, fun j _ hj => ?_⟩, fun j hj => by omega⟩
  · have h := World.rowIs_alloc w (madeCells zd (n * 4)) 74 (fun i => (madeCells zd (n * 4)).getD i undef) (fun i hi => by simp [Array.getD, hi])
    rwa [size_madeCells] at h
  · have h1 : j * 4 < n * 4 := by omega
    have h2 : j * 4 + 1 < n * 4 := by omega
    have h3 : j * 4 + 2 < n * 4 := by omega
    have h4 : j * 4 + 3 < n * 4 := by omega
    have e1 : j * 4 % 4 = 0 := by omega
    have e2 : (j * 4 + 1) % 4 = 1 := by omega
    have e3 : (j * 4 + 2) % 4 = 2 := by omega
    have e4 : (j * 4 + 3) % 4 = 3 := by omega
    simp [madeCells, h1, h2, h3, h4, zd, e1, e2, e3, e4]
section
variable {D n i : Nat} {r : Nat → Nat} {lc : Nat → Int} {vl : Nat → Bool} {b : Nat → Nat} {w wr w1 : World}
theorem Fi.step (h : Fi D n r lc vl i b w wr) (hb : Below wr.heap.size wr w1) : Fi D n r lc vl i b w w1 := by
  obtain ⟨f, hf, h1, h2⟩ := h.row
  exact ⟨h.below.trans (hb.mono (Nat.le_of_lt h.gt)), Nat.lt_of_lt_of_le h.gt hb.size, ⟨f, hf.of_block (hb.block _ hf.lt), h1, h2⟩, fun j hj => (hb.block _ (Array.getElem?_eq_some_iff.1 (h.blk j hj)).1).trans (h.blk j hj)⟩
theorem Fi.cells (h : Fi D n r lc vl i b w wr) (hi : i < n) : wr.cell? ⟨D, i * 4, none⟩ = some .nilIface ∧ wr.cell? ⟨D, i * 4 + 1, none⟩ = some (.int .i32 0) ∧ wr.cell? ⟨D, i * 4 + 2, none⟩ = some .nilIface ∧ wr.cell? ⟨D, i * 4 + 3, none⟩ = some (.int .i32 0) ∧ ∀ j, wr.frozen? ⟨D, j, none⟩ = false := by
  obtain ⟨f, hf, h1, h2⟩ := h.row
  obtain ⟨a0, a1, a2, a3⟩ := h2 i (Nat.le_refl _) hi
  exact ⟨a0 ▸ hf.cell (i := i * 4) (by omega), a1 ▸ hf.cell (i := i * 4 + 1) (by omega), a2 ▸ hf.cell (i := i * 4 + 2) (by omega), a3 ▸ hf.cell (i := i * 4 + 3) (by omega), fun j => hf.frozen j⟩
/-- A binding without a value is laid. -/
theorem Fi.two (h : Fi D n r lc vl i b w wr) (hi : i < n) {N : Nat} (hN : wr.heap[N]? = some (.cells #[.int .u32 0, .int .u32 (r i : Nat)] 64 (0, 0))) (hv : vl i = false) :
    Fi D n r lc vl (i + 1) (fun j => if j = i then N else b j) w ((wr.setCell ⟨D, i * 4, none⟩ (.iface 62 (.pointer (some ⟨N, 0, none⟩)))).setCell ⟨D, i * 4 + 1, none⟩ (.int .i32 (lc i))) := by
  obtain ⟨f, hf, h1, h2⟩ := h.row
  have hr := (hf.set (i * 4) (.iface 62 (.pointer (some ⟨N, 0, none⟩)))).set (i * 4 + 1) (.int .i32 (lc i))
  obtain ⟨c, hc, _⟩ := hf
  have ot : ∀ q, q ≠ D → ((wr.setCell ⟨D, i * 4, none⟩ (.iface 62 (.pointer (some ⟨N, 0, none⟩)))).setCell ⟨D, i * 4 + 1, none⟩ (.int .i32 (lc i))).heap[q]? = wr.heap[q]? := fun q hq => by
    rw [Go.Deep.blk_setCell_other _ _ _ _ hq, Go.Deep.blk_setCell_other _ _ _ _ hq]
  refine ⟨(h.below.setCell (p := ⟨D, i * 4, none⟩) (Nat.le_refl D) _).setCell (p := ⟨D, i * 4 + 1, none⟩) (Nat.le_refl D) _, by simpa using h.gt, ⟨_, hr, fun j hj => ?_, fun j h3 h4 => ?_⟩, fun j hj => ?_⟩
  · rcases Nat.lt_or_ge j i with g | g
    · have q0 : ¬ j * 4 = i * 4 := by omega
      have q1 : ¬ j * 4 = i * 4 + 1 := by omega
      have q2 : ¬ j * 4 + 1 = i * 4 := by omega
      have q3 : ¬ j * 4 + 1 = i * 4 + 1 := by omega
      have q4 : ¬ j * 4 + 2 = i * 4 := by omega
      have q5 : ¬ j * 4 + 2 = i * 4 + 1 := by omega
      have q6 : ¬ j * 4 + 3 = i * 4 := by omega
      have q7 : ¬ j * 4 + 3 = i * 4 + 1 := by omega
      have q8 : ¬ j = i := by omega
      simp only [if_neg q0, if_neg q1, if_neg q2, if_neg q3, if_neg q4, if_neg q5, if_neg q6, if_neg q7, if_neg q8]
      exact h1 j g
    · obtain rfl : j = i := by omega
      obtain ⟨a0, a1, a2, a3⟩ := h2 j (Nat.le_refl _) hi
      have q1 : ¬ j * 4 = j * 4 + 1 := by omega
      have q2 : ¬ j * 4 + 2 = j * 4 := by omega
      have q3 : ¬ j * 4 + 2 = j * 4 + 1 := by omega
      have q4 : ¬ j * 4 + 3 = j * 4 := by omega
      have q5 : ¬ j * 4 + 3 = j * 4 + 1 := by omega
      simp only [if_neg q1, if_neg q2, if_neg q3, if_neg q4, if_neg q5, if_true]
      exact ⟨trivial, trivial, fun _ => ⟨a2, a3⟩, fun e => by rw [hv] at e; cases e⟩
  · have q0 : ¬ j * 4 = i * 4 := by omega
    have q1 : ¬ j * 4 = i * 4 + 1 := by omega
    have q2 : ¬ j * 4 + 1 = i * 4 := by omega
    have q3 : ¬ j * 4 + 1 = i * 4 + 1 := by omega
    have q4 : ¬ j * 4 + 2 = i * 4 := by omega
    have q5 : ¬ j * 4 + 2 = i * 4 + 1 := by omega
    have q6 : ¬ j * 4 + 3 = i * 4 := by omega
    have q7 : ¬ j * 4 + 3 = i * 4 + 1 := by omega
    simp only [if_neg q0, if_neg q1, if_neg q2, if_neg q3, if_neg q4, if_neg q5, if_neg q6, if_neg q7]
    exact h2 j (by omega) h4
  · rcases Nat.lt_or_ge j i with g | g
    · rw [if_neg (show ¬ j = i by omega)]
      exact (ot _ (cells_ne (h.blk j g) hc (by decide))).trans (h.blk j g)
    · obtain rfl : j = i := by omega
      rw [if_pos rfl]
      exact (ot _ (cells_ne hN hc (by decide))).trans hN
theorem Fi.mask (h : Fi D n r lc vl i b w wr) : Fi D n r lc (fun j => if j = i then false else vl j) i b w wr := by
  obtain ⟨f, hf, h1, h2⟩ := h.row
  refine ⟨h.below, h.gt, ⟨f, hf, fun j hj => ?_, h2⟩, h.blk⟩
  simp only [if_neg (show ¬ j = i by omega)]
  exact h1 j hj
theorem Fi.val (h : Fi D n r lc (fun j => if j = i then false else vl j) (i + 1) b w wr) (hi : i < n) (hv : vl i = true) (t : TypeId) (p : Value) (m : Int) :
    Fi D n r lc vl (i + 1) b w ((wr.setCell ⟨D, i * 4 + 2, none⟩ (.iface t p)).setCell ⟨D, i * 4 + 3, none⟩ (.int .i32 m)) := by
  obtain ⟨f, hf, h1, h2⟩ := h.row
  have hr := (hf.set (i * 4 + 2) (.iface t p)).set (i * 4 + 3) (.int .i32 m)
  obtain ⟨c, hc, _⟩ := hf
  have ot : ∀ q, q ≠ D → ((wr.setCell ⟨D, i * 4 + 2, none⟩ (.iface t p)).setCell ⟨D, i * 4 + 3, none⟩ (.int .i32 m)).heap[q]? = wr.heap[q]? := fun q hq => by
    rw [Go.Deep.blk_setCell_other _ _ _ _ hq, Go.Deep.blk_setCell_other _ _ _ _ hq]
  refine ⟨(h.below.setCell (p := ⟨D, i * 4 + 2, none⟩) (Nat.le_refl D) _).setCell (p := ⟨D, i * 4 + 3, none⟩) (Nat.le_refl D) _, by simpa using h.gt, ⟨_, hr, fun j hj => ?_, fun j h3 h4 => ?_⟩, fun j hj => (ot _ (cells_ne (h.blk j hj) hc (by decide))).trans (h.blk j hj)⟩
  · have q0 : ¬ j * 4 = i * 4 + 2 := by omega
    have q1 : ¬ j * 4 = i * 4 + 3 := by omega
    have q2 : ¬ j * 4 + 1 = i * 4 + 2 := by omega
    have q3 : ¬ j * 4 + 1 = i * 4 + 3 := by omega
    rcases Nat.lt_or_ge j i with g | g
    · have q4 : ¬ j * 4 + 2 = i * 4 + 2 := by omega
      have q5 : ¬ j * 4 + 2 = i * 4 + 3 := by omega
      have q6 : ¬ j * 4 + 3 = i * 4 + 2 := by omega
      have q7 : ¬ j * 4 + 3 = i * 4 + 3 := by omega
      simp only [if_neg q0, if_neg q1, if_neg q2, if_neg q3, if_neg q4, if_neg q5, if_neg q6, if_neg q7]
      have := h1 j hj
      simp only [if_neg (show ¬ j = i by omega)] at this
      exact this
    · obtain rfl : j = i := by omega
      have q4 : ¬ j * 4 + 2 = j * 4 + 3 := by omega
      simp only [if_neg q0, if_neg q1, if_neg q2, if_neg q3, if_neg q4, if_true]
      exact ⟨(h1 j hj).1, (h1 j hj).2.1, fun e => (by rw [hv] at e; cases e), fun _ => ⟨t, p, m, rfl, rfl⟩⟩
  · have q0 : ¬ j * 4 = i * 4 + 2 := by omega
    have q1 : ¬ j * 4 = i * 4 + 3 := by omega
    have q2 : ¬ j * 4 + 1 = i * 4 + 2 := by omega
    have q3 : ¬ j * 4 + 1 = i * 4 + 3 := by omega
    have q4 : ¬ j * 4 + 2 = i * 4 + 2 := by omega
    have q5 : ¬ j * 4 + 2 = i * 4 + 3 := by omega
    have q6 : ¬ j * 4 + 3 = i * 4 + 2 := by omega
    have q7 : ¬ j * 4 + 3 = i * 4 + 3 := by omega
    simp only [if_neg q0, if_neg q1, if_neg q2, if_neg q3, if_neg q4, if_neg q5, if_neg q6, if_neg q7]
    exact h2 j h3 h4
theorem Fi.twoA (h : Fi D n r lc vl i b w wr) (hi : i < n) (hv : vl i = false) :
    Fi D n r lc vl (i + 1) (fun j => if j = i then wr.heap.size else b j) w (((wr.setCell ⟨D, i * 4, none⟩ (.iface 62 (.pointer (some ⟨wr.heap.size, 0, none⟩)))).setCell ⟨D, i * 4 + 1, none⟩ (.int .i32 (lc i))).alloc (.cells #[.int .u32 0, .int .u32 (r i : Nat)] 64)) := by
  have h1 := h.step ((Below.refl _ _).alloc (Nat.le_refl _) (.cells #[.int .u32 0, .int .u32 (r i : Nat)] 64))
  have h2 := h1.two hi (heap_alloc_new _ _) hv
  rw [World.setCell_alloc_past _ _ _ _ h.gt, World.setCell_alloc_past _ _ _ _ (by simpa using h.gt)] at h2
  exact h2
theorem Fi.cells2 (h : Fi D n r lc vl (i + 1) b w wr) (hi : i < n) (hv : vl i = false) : wr.cell? ⟨D, i * 4 + 2, none⟩ = some .nilIface ∧ wr.cell? ⟨D, i * 4 + 3, none⟩ = some (.int .i32 0) ∧ ∀ j, wr.frozen? ⟨D, j, none⟩ = false := by
  obtain ⟨f, hf, h1, h2⟩ := h.row
  obtain ⟨_, _, a2, _⟩ := h1 i (Nat.lt_succ_self i)
  obtain ⟨a2, a3⟩ := a2 hv
  exact ⟨a2 ▸ hf.cell (i := i * 4 + 2) (by omega), a3 ▸ hf.cell (i := i * 4 + 3) (by omega), fun j => hf.frozen j⟩
theorem Fi.valA (h : Fi D n r lc (fun j => if j = i then false else vl j) (i + 1) b w wr) (hi : i < n) (hv : vl i = true) (t : TypeId) (p : Value) (m : Int) (o : Obj) :
    Fi D n r lc vl (i + 1) b w (((wr.setCell ⟨D, i * 4 + 2, none⟩ (.iface t p)).setCell ⟨D, i * 4 + 3, none⟩ (.int .i32 m)).alloc o) :=
  (h.val hi hv t p m).step ((Below.refl _ _).alloc (Nat.le_refl _) _)
theorem Fi.ds (h : Fi D n r lc vl n b w wr) : Ds D n b r lc vl wr := by
  obtain ⟨f, hf, h1, _⟩ := h.row
  exact ⟨⟨f, hf, h1⟩, h.blk⟩
end
def Setup (n ln : Nat) (r : Nat → Nat) (lc : Nat → Int) (vl fn : Nat → Bool) (m d : Int) (w : World) (e : Ending) (w' : World) : Prop :=
  ∃ P g D b S F v, e = .returned (.tuple #[.pointer (some ⟨P, 0, none⟩), .slice (some ⟨D, 0, none⟩) n n, .bool (anyT fn ln)]) ∧ Pa w.heap.size P g n F (cnt r 0) v 0 [] w' ∧ Hd P (S ln) (S 0) m d w' ∧ Sch S fn ln w' ∧ Ds D n b r lc vl w' ∧ Below w.heap.size w w'
set_option maxRecDepth 100000 in
set_option maxHeartbeats 8000000 in
theorem setup (x d : Int) (oc oR oh ol : Option Addr) (ln n hn nl cc cr ch cl : Nat) (fn hv : Nat → Bool) (gr gl : Nat → Int) (w : World) (hx0 : 0 ≤ x) (hx1 : x ≤ 255) (hC : BoolsAt w oc ln fn) (hR : IntsAt .u16 w oR n gr) (hH : BoolsAt w oh hn hv) (hL : IntsAt .i32 w ol nl gl)
    (b1 : ln ≤ 65536) (b2 : n ≤ 65536) (b3 : hn ≤ 65536) (b4 : nl ≤ 65536) (hg : ∀ i, i < n → 0 ≤ gr i ∧ gr i ≤ 65535) (r : Nat → Nat) (hr : ∀ i, i < n → r i = (gr i).toNat % n) :
    Calls Try.prog 5 #[.int .u8 x, .int .i64 d, .slice oc ln cc, .slice oR n cr, .slice oh hn ch, .slice ol nl cl] w (Setup n ln r (lc nl gl) (fun i => decide (i < hn) && hv i) fn (x % 3) d w) := by
  have cM := Lib.hid (mode x hx0 hx1)
  have hmk := makeD n b2
  replace hC := Lib.hid hC
  replace hR := Lib.hid hR
  replace hH := Lib.hid hH
  replace hL := Lib.hid hL
  replace hg := Lib.hid hg
  replace hr := Lib.hid hr
  go_enter Try.func5, Try.ntmps5
  go_wp2_with fail
  go_loopg [16, 17, 18] ln (fun gk cu sn i wr => ∃ k : Nat, k ≤ ln ∧ gk = ln - k ∧ cu = .pointer (some ⟨w.heap.size + k, 0, none⟩) ∧ sn = .bool (anyT fn k) ∧ i = .int .i64 k ∧ Gr w.heap.size fn k w wr)
  case atStart => exact ⟨0, Nat.zero_le _, rfl, rfl, rfl, rfl, gr_start fn rfl⟩
  case round =>
    obtain ⟨k, hk, rfl, rfl, rfl, rfl, hG⟩ := hrel
    rcases Nat.lt_or_ge k ln with hlt | hge
    · have hC2 := hC.out.below (hG.below)
      rcases hC2 with h0 | ⟨bb, off, rfl, hbb, hc⟩
      · omega
      have g2 := hc k hlt
      have hsz := hG.size
      clear hc
      cases hf : fn k with
      | false =>
        have hnx := Lib.hid (fun C h1 h2 => hG.next (C := C) (by rw [hf]; exact h1) h2)
        have han := Lib.hid (show anyT fn (k + 1) = anyT fn k by rw [anyT, hf, Bool.or_false])
        rw [hf] at g2
        replace hf := Lib.hid hf
        replace hG := Lib.hid hG
        replace hsz := Lib.hid hsz
        go_wp2_with fail
        go_roundg (ln - (k + 1))
        case measure => omega
        case rel => exact ⟨k + 1, by omega, rfl, by rw [hsz.out]; rfl, by rw [han.out], rfl, hnx.out _ rfl rfl⟩
      | true =>
        have hnx := Lib.hid (fun C h1 h2 => hG.next (C := C) (by rw [hf]; exact h1) h2)
        have han := Lib.hid (show anyT fn (k + 1) = true by rw [anyT, hf, Bool.or_true])
        rw [hf] at g2
        replace hf := Lib.hid hf
        replace hG := Lib.hid hG
        replace hsz := Lib.hid hsz
        go_wp2_with fail
        go_roundg (ln - (k + 1))
        case measure => omega
        case rel => exact ⟨k + 1, by omega, rfl, by rw [hsz.out]; rfl, by rw [han.out], rfl, hnx.out _ rfl rfl⟩
    · have hkn : k = ln := by omega
      subst hkn
      have hsz := hG.size
      have hwr := hG.below.size
      have cP := Lib.hid (newParser w.heap.size n (w.heap.size + k) w.heap.size (x % 3) d wr hwr b2)
      have hRb := hR.out.below hG.below
      replace hG := Lib.hid hG
      replace hsz := Lib.hid hsz
      go_wp2_with (go_at_call 12; refine ((cM.out _).mono ?_); rintro e w2 ⟨rfl, hw2⟩; subst hw2)
      go_at_call 11
      refine cP.out.mono ?_
      rintro e w3 ⟨F, rfl, hPa, hHd, hB3, hs3⟩
      have hF0 := Lib.hid (fi_start w3 n r (lc nl gl) (fun i => decide (i < hn) && hv i) (fun _ => 0))
      replace hPa := Lib.hid hPa
      replace hHd := Lib.hid hHd
      replace hs3 := Lib.hid hs3
      replace hRb := Lib.hid (hRb.below hB3)
      have hHb := Lib.hid ((hH.out.below hG.out.below).below hB3)
      have hLb := Lib.hid ((hL.out.below hG.out.below).below hB3)
      replace hB3 := Lib.hid hB3
      clear cP cM hC hR hH hL
      go_wp2_with fail
      generalize hD : w3.heap.size = D at *
      go_loopg [23] n (fun gk i wv => ∃ k : Nat, ∃ b : Nat → Nat, k ≤ n ∧ gk = n - k ∧ i = .int .i64 k ∧ Fi D n r (lc nl gl) (fun i => decide (i < hn) && hv i) k b w3 wv)
      case atStart => exact ⟨0, _, Nat.zero_le _, rfl, rfl, hF0.out⟩
      case round =>
        obtain ⟨i, b, hi, rfl, rfl, hF⟩ := hrel
        rcases Nat.lt_or_ge i n with hlt | hge
        · obtain ⟨e0, e1, e2, e3, e4⟩ := hF.cells hlt
          have hFb : Below w3.heap.size w3 wr := hD.symm ▸ hF.below
          have hDl := hF.gt
          rcases hRb.out.below hFb with h0 | ⟨rb, ro, rfl, hrb, hc⟩
          · omega
          have g2 := hc i hlt
          clear hc
          have hgi := hg.out i hlt
          have hri : (gr i).tmod (n : Int) = (r i : Nat) := by
            obtain ⟨a, ha⟩ := Int.eq_ofNat_of_zero_le hgi.1
            rw [hr.out i hlt, ha, Int.toNat_natCast]
            exact (Int.ofNat_tmod a n).symm
          have hrn : r i < n := by
            rw [hr.out i hlt]
            exact Nat.mod_lt _ (by omega)
          have hnz : ¬ n = 0 := by omega
          have cW := Lib.hid (fun o => raw ol nl cl i gl (wr.alloc o) ((hLb.out.below hFb).below ((Below.refl _ _).alloc (Nat.le_refl _) o)) b4 (by omega))
          have hHc := Lib.hid (hHb.out.below hFb)
          obtain ⟨wL, hwL⟩ : ∃ x, ((wr.alloc (.cells #[.int .u32 0, .int .u32 (r i : Nat)] 45)).alloc (.cells #[.int .i32 (lc nl gl i)] 33)) = x := ⟨_, rfl⟩
          have bL : Below wr.heap.size wr wL := hwL ▸ two_alloc _ _ _
          have hRef : wL.heap[wr.heap.size]? = some (.cells #[.int .u32 0, .int .u32 (r i : Nat)] 45 (0, 0)) := by
            rw [← hwL, Below.heap_alloc _ _ _ (by simp)]
            exact heap_alloc_new _ _
          have hLoc : wL.heap[wr.heap.size + 1]? = some (.cells #[.int .i32 (lc nl gl i)] 33 (0, 0)) := by
            have := heap_alloc_new (wr.alloc (.cells #[.int .u32 0, .int .u32 (r i : Nat)] 45)) (.cells #[.int .i32 (lc nl gl i)] 33)
            rw [hwL] at this
            simpa using this
          have hFL := hF.step bL
          replace hwL := Lib.hid hwL
          replace hF := Lib.hid hF
          replace hFb := Lib.hid hFb
          clear e0 e1 e2 e3 e4
          go_upto_region 19 with fail
          go_wp2_with fail
          go_at_call 10
          refine (cW.out _).mono ?_
          rintro e w9 ⟨rfl, rfl⟩
          go_upto_region 20 with fail
          rw [hwL.out]
          obtain ⟨e0, e1, e2, e3, e4⟩ := hFL.cells hlt
          have x0 : wL.cell? ⟨wr.heap.size, 0, none⟩ = some (.int .u32 0) := cell_of_row _ _ 0 _ _ _ hRef
          have x1 : wL.cell? ⟨wr.heap.size, 1, none⟩ = some (.int .u32 (r i : Nat)) := cell_of_row _ _ 1 _ _ _ hRef
          have x2 : wL.cell? ⟨wr.heap.size + 1, 0, none⟩ = some (.int .i32 (lc nl gl i)) := cell_of_row _ _ 0 _ _ _ hLoc
          have e5 := e4 (i * 4)
          have e6 := e4 (i * 4 + 1)
          have lD := hFL.gt
          have lR := (Array.getElem?_eq_some_iff.1 hRef).1
          have lL := (Array.getElem?_eq_some_iff.1 hLoc).1
          have hDn : wr.heap.size + 1 ≠ D := by omega
          replace hFL := Lib.hid hFL
          replace hRef := Lib.hid hRef
          replace hLoc := Lib.hid hLoc
          replace bL := Lib.hid bL
          clear e2 e3 e4
          go_upto_region 21 with fail
          have hXb : ∀ q, q ≠ D → q < wL.heap.size → (((wL.setCell ⟨D, i * 4, none⟩ (.iface 62 (.pointer (some ⟨wL.heap.size, 0, none⟩)))).setCell ⟨D, i * 4 + 1, none⟩ (.int .i32 (lc nl gl i))).alloc (.cells #[.int .u32 0, .int .u32 (r i : Nat)] 64)).heap[q]? = wL.heap[q]? := fun q h1 h2 => by
            rw [Below.heap_alloc _ _ _ (by simpa using h2), Go.Deep.blk_setCell_other _ _ _ _ h1, Go.Deep.blk_setCell_other _ _ _ _ h1]
          have hFA := fun hq => hFL.out.twoA hlt hq
          have hFB := hFL.out.mask.twoA hlt (by simp)
          clear e0 e1 e5 e6 x0 x1 x2
          generalize hXe : (((wL.setCell ⟨D, i * 4, none⟩ (.iface 62 (.pointer (some ⟨wL.heap.size, 0, none⟩)))).setCell ⟨D, i * 4 + 1, none⟩ (.int .i32 (lc nl gl i))).alloc (.cells #[.int .u32 0, .int .u32 (r i : Nat)] 64)) = X at *
          replace hXe := Lib.hid hXe
          have hLX := (hXb _ hDn lL).trans hLoc.out
          have hHX := hHb.out.below (hD.symm ▸ hFB.below : Below w3.heap.size w3 X)
          have lX := hFB.gt
          clear hXb
          by_cases hhn : i < hn
          · rcases hHX with h0 | ⟨hb, ho, rfl, hhb, hc⟩
            · omega
            have g3 := hc i hhn
            clear hc
            cases hvi : hv i with
            | false =>
              rw [hvi] at g3
              have hF1 := Lib.hid (hFA (by simp [hvi]))
              replace hFB := Lib.hid hFB
              replace hLX := Lib.hid hLX
              replace hvi := Lib.hid hvi
              clear hFA
              go_wp2_with fail
              go_roundg (n - (i + 1))
              case measure => omega
              case rel => exact ⟨i + 1, _, by omega, rfl, rfl, hF1.out⟩
            | true =>
              rw [hvi] at g3
              obtain ⟨y2, y3, y4⟩ := hFB.cells2 hlt (by simp)
              have hF1 := Lib.hid (fun t p m o => hFB.valA hlt (by simp [hhn, hvi]) t p m o)
              have x2 : X.cell? ⟨wr.heap.size + 1, 0, none⟩ = some (.int .i32 (lc nl gl i)) := cell_of_row _ _ 0 _ _ _ hLX
              have y5 := y4 (i * 4 + 2)
              have y6 := y4 (i * 4 + 3)
              replace hFB := Lib.hid hFB
              replace hLX := Lib.hid hLX
              replace hvi := Lib.hid hvi
              clear hFA y4
              go_wp2_with fail
              go_roundg (n - (i + 1))
              case measure => omega
              case rel => exact ⟨i + 1, _, by omega, rfl, rfl, hF1.out _ _ _ _⟩
          · have hF1 := Lib.hid (hFA (by simp [hhn]))
            replace hFB := Lib.hid hFB
            replace hLX := Lib.hid hLX
            replace hHX := Lib.hid hHX
            clear hFA
            go_wp2_with fail
            go_roundg (n - (i + 1))
            case measure => omega
            case rel => exact ⟨i + 1, _, by omega, rfl, rfl, hF1.out⟩
        · have hin : i = n := by omega
          subst hin
          have hP4 := hPa.out.below (hD.symm ▸ hF.below : Below w3.heap.size w3 wr)
          have hH4 := hHd.out.below (hD.symm ▸ hF.below : Below w3.heap.size w3 wr)
          have hS4 := (hG.out.sch.below hB3.out).below (hD.symm ▸ hF.below : Below w3.heap.size w3 wr)
          have hD4 := hF.ds
          have hb5 : Below w.heap.size w wr := (hG.out.below.trans (hB3.out.mono hG.out.below.size)).trans ((hD.symm ▸ hF.below : Below w3.heap.size w3 wr).mono (Nat.le_trans hG.out.below.size hB3.out.size))
          have hfin := Lib.hid (And.intro hP4 (And.intro hH4 (And.intro hS4 (And.intro hD4 hb5))))
          clear hP4 hH4 hS4 hD4 hb5 hF hF0
          go_wp2_with fail
          obtain ⟨f1, f2, f3, f4, f5⟩ := hfin.out
          refine bodyPost_ret (v := .tuple #[.pointer _, .slice (some ⟨D, 0, none⟩) i i, .bool (anyT fn k)]) (by simp [results, Try.results5, go_sem]) rfl ⟨_, _, D, b, _, F, _, rfl, f1, f2, f3, f4, f5⟩
end Go.Proofs.Ytdiedidmjpihjaa.Rl
