/-
  buildBinding as a whole: the pattern in memory and the number of its spreads. Condition: at most 65536 code bytes.
-/
import Derived.Test.YtgiehlcmmikgmaaBind
namespace Go.Proofs.Ytgiehlcmmikgmaa.Bind
open Go.RowKit Go.ChangeShapes Go.WideShapes Go.ChangeAt Go.Proofs.Ytgiehlcmmikgmaa.Ints

/-- A list of patterns that is being built: r of m are there. -/
structure Lp (e sz : Nat) (w0 wr : World) (P N G r m s p0 : Nat) (xs : List Value) (D : Nat → Value) (K : Nat → Nat) (p' : Nat) : Prop where
  own : wr.ownsRow G e sz (.slice (some ⟨G, 0, none⟩) r m) r xs
  tree : ∀ i, i < r → Tree (G + 1) wr (D i) (K i)
  but : But P 3 1 w0 wr
  pos : wr.cell? ⟨P, 0, none⟩ = some (.int .i64 p')
  le : p0 ≤ p'
  leN : p' ≤ N
  sum : s + p0 ≤ p'
  g : G = w0.heap.size
theorem butGrownG {P t k G : Nat} {W w' w1 : World} (h : But P t k W w') (hg : w'.grownBy w1 (some G)) (hG : W.heap.size ≤ G) : But P t k W w1 := by
  obtain ⟨F, hR⟩ := h.row
  have hs := h.below.size
  have hP := h.lt
  have hkeep : ∀ b, b < W.heap.size → w1.heap[b]? = w'.heap[b]? := fun b hb => hg.block b (by omega) (by intro e; injection e with e; omega)
  exact ⟨h.below.trans ⟨hg.os, hg.tape, hg.output, hg.size, fun b hb => hkeep b (by omega)⟩, fun b h1 h2 => (hkeep b h1).trans (h.block b h1 h2), ⟨F, hR.of_block (hkeep P hP)⟩, hP⟩
theorem butSetNew {P t k R j : Nat} {W w' : World} {v : Value} (h : But P t k W w') (hR : W.heap.size ≤ R) : But P t k W (w'.setCell ⟨R, j, none⟩ v) := by
  obtain ⟨F, hP⟩ := h.row
  have hlt := h.lt
  have hkeep : ∀ b, b < W.heap.size → (w'.setCell ⟨R, j, none⟩ v).heap[b]? = w'.heap[b]? := fun b hb => Go.Deep.blk_setCell_other _ _ _ _ (by show b ≠ R; omega)
  exact ⟨h.below.setCell (p := ⟨R, j, none⟩) (by show P ≤ R; omega) v, fun b h1 h2 => (hkeep b h1).trans (h.block b h1 h2), ⟨F, hP.of_block (hkeep P hlt)⟩, hlt⟩
theorem butTrans {P t k : Nat} {W w' w1 : World} (h : But P t k W w') (h2 : But P t k w' w1) : But P t k W w1 :=
  ⟨h.below.trans h2.below, fun b h1 hn => (h2.block b (Nat.lt_of_lt_of_le h1 h.below.size) hn).trans (h.block b h1 hn), h2.row, h.lt⟩
theorem Lp.step {e sz : Nat} {w0 wr w' w3 : World} {P N G r m s p0 k p'' : Nat} {xs news : List Value} {D : Nat → Value} {K : Nat → Nat} {p' : Nat} {d : Value} {o1 o2 : Obj} {x : Nat} (h : Lp e sz w0 wr P N G r m s p0 xs D K p')
    (ht : Tree wr.heap.size w' d k) (hb : But P 3 1 wr w') (hp : w'.cell? ⟨P, 0, none⟩ = some (.int .i64 p'')) (hle : p' ≤ p'') (hN : p'' ≤ N) (hk : x + p' ≤ p'') (hkx : k ≤ x)
    (ho : w3.ownsRow G e sz (.slice (some ⟨G, 0, none⟩) (r + 1) m) (r + 1) (xs ++ news)) (hg : ((w'.alloc o1).alloc o2).grownBy w3 (some G)) :
    Lp e sz w0 w3 P N G (r + 1) m (s + x) p0 (xs ++ news) (fun i => if i = r then d else D i) (fun i => if i = r then k else K i) p'' := by
  have hGw := h.g
  have hsz := h.but.below.size
  have hsz2 := hb.below.size
  have hP0 := h.but.lt
  have hGl : G < wr.heap.size := (h.own.lt G rfl).2
  have keep : ∀ b, b < w'.heap.size → b ≠ G → w3.heap[b]? = w'.heap[b]? := fun b hb1 hn => by
    have h1 := hg.block b (by simp; omega) (by intro e; injection e with e; exact hn e)
    exact h1.trans ((Go.Deep.blk_alloc_lt (w'.alloc o1) o2 b (by simp; omega)).trans (Go.Deep.blk_alloc_lt w' o1 b hb1))
  have hbig : Below w'.heap.size w' ((w'.alloc o1).alloc o2) := ((Below.refl _ _).alloc (Nat.le_refl _) _).alloc (by simp) _
  refine ⟨ho, fun i hi => ?_, butGrownG ((butTrans h.but hb).next hbig) hg (by omega), ?_, by have := h.le; omega, hN, by have := h.sum; omega, h.g⟩
  · by_cases hir : i = r
    · subst hir
      simp only [if_true]
      exact ht.gen (by omega) (fun b h1 h2 => keep b h2 (by omega))
    · simp only [if_neg hir]
      exact (h.tree i (by omega)).gen (Nat.le_refl _) (fun b h1 h2 => (keep b (by omega) (by omega)).trans (hb.block b h2 (by omega)))
  · have hPl : P < w'.heap.size := by omega
    exact (World.cell?_of_block (w := w') (a := ⟨P, 0, none⟩) (keep P hPl (by omega))).trans hp
theorem sumK_congr {K K' : Nat → Nat} (n : Nat) (h : ∀ i, i < n → K i = K' i) : sumK K n = sumK K' n := by
  induction n with
  | zero => rfl
  | succ n ih => simp only [sumK]; rw [ih (fun i hi => h i (by omega)), h n (by omega)]
theorem sumK_put (K : Nat → Nat) (r k : Nat) : sumK (fun i => if i = r then k else K i) (r + 1) = sumK K r + k := by
  simp only [sumK, if_true]
  rw [sumK_congr r (fun i hi => if_neg (by omega))]
theorem cellsA_congr {D D' : Nat → Value} (n : Nat) (h : ∀ i, i < n → D i = D' i) : cellsA D n = cellsA D' n := by
  induction n with
  | zero => rfl
  | succ n ih => rw [cellsA_succ, cellsA_succ, ih (fun i hi => h i (by omega)), h n (by omega)]
theorem cellsA_put (D : Nat → Value) (r : Nat) (d : Value) : cellsA (fun i => if i = r then d else D i) (r + 1) = cellsA D r ++ [d, .int .i32 0, .nilIface, .int .i32 0, .int .i32 0] := by
  rw [cellsA_succ, if_pos rfl, cellsA_congr r (fun i hi => if_neg (by omega))]
theorem cellsP_congr {D D' : Nat → Value} {H H' : Nat → Bool} (n : Nat) (h : ∀ i, i < n → D i = D' i) (h2 : ∀ i, i < n → H i = H' i) : cellsP D H n = cellsP D' H' n := by
  induction n with
  | zero => rfl
  | succ n ih => rw [cellsP_succ, cellsP_succ, ih (fun i hi => h i (by omega)) (fun i hi => h2 i (by omega)), h n (by omega), h2 n (by omega)]
theorem cellsP_put (D : Nat → Value) (H : Nat → Bool) (r : Nat) (d : Value) (g : Bool) : cellsP (fun i => if i = r then d else D i) (fun i => if i = r then g else H i) (r + 1) = cellsP D H r ++ [.nilIface, .int .i32 0, d, .int .i32 0, .nilIface, .int .i32 0, .int .i32 0, .int .i32 0, .bool false, .bool g, .bool false] := by
  rw [cellsP_succ, if_pos rfl, if_pos rfl, cellsP_congr r (fun i hi => if_neg (by omega)) (fun i hi => if_neg (by omega))]
theorem isIface {lo : Nat} {w : World} {d : Value} {k : Nat} (h : Tree lo w d k) : ∃ t v, d = .iface t v := by
  cases h <;> exact ⟨_, _, rfl⟩
theorem news_cells (wr : World) (l : List Value) (T : TypeId) (N : Nat) (hN : N = wr.heap.size) : ∀ j u, l[j]? = some u → (wr.alloc (.cells l.toArray T)).cell? ((⟨N, 0, none⟩ : Addr).add j) = some u := fun j u hu => by
  subst hN
  rw [add_plain, Nat.zero_add, World.cell?_alloc_mark]
  simpa using hu
/-- What every call at a later position leaves. -/
def IH (P N c b off : Nat) (f : Nat → Int) (p : Nat) : Prop := ∀ (w : World) (q : Nat), p < q → q ≤ N → Ops w b off N P f → w.rowIs P 3 1 (fun _ => .int .i64 q) →
  Calls Try.prog 8 #[.slice (some ⟨b, off, none⟩) N c, .pointer (some ⟨P, 0, none⟩)] w (Built P N w q)
theorem butPos {P : Nat} {W w' : World} {v : Value} (h : But P 3 1 W w') (hp : w'.cell? ⟨P, 0, none⟩ = some v) : w'.rowIs P 3 1 (fun _ => v) := by
  obtain ⟨F, hR⟩ := h.row
  refine hR.congr fun i hi => ?_
  obtain rfl : i = 0 := by omega
  have := (hR.cell (i := 0) (by omega)).symm.trans hp
  injection this
set_option maxRecDepth 100000 in
set_option maxHeartbeats 4000000 in
theorem buildA (P N c : Nat) (b off : Nat) (f : Nat → Int) (w : World) (p : Nat) (ih : IH P N c b off f p) (hO : Ops w b off N P f) (hlt : p < N) (hP : w.rowIs P 3 1 (fun _ => .int .i64 p)) (hN : N ≤ 65536) (hq : bits BinOp.and IntKind.u8 (f p) 3 = 2) :
    Calls Try.prog 8 #[.slice (some ⟨b, off, none⟩) N c, .pointer (some ⟨P, 0, none⟩)] w (Built P N w p) := by
  obtain ⟨i0, hi, hz0, hz1, hz2⟩ := info_parts infoA
  have c0 : w.cell? ⟨P, 0, none⟩ = some (.int .i64 p) := hP.cell (i := 0) (by omega)
  have c1 := hP.frozen 0
  have hPl : P < w.heap.size := hP.lt
  have hc := hO.cells p hlt
  have hf := hO.rng p hlt
  have hbl : b < w.heap.size := lt_of_cell hc
  obtain ⟨m, hm, hmm⟩ := and7 (f p / 4) (by omega) (by omega)
  have hset : Hid (But P 3 1 w (w.setCell ⟨P, 0, none⟩ (.int .i64 ((p : Int) + 1))) ∧ (w.setCell ⟨P, 0, none⟩ (.int .i64 ((p : Int) + 1))).cell? ⟨P, 0, none⟩ = some (.int .i64 ((p : Int) + 1))) :=
    Lib.hid ⟨(But.start hP).set 0 _, (hP.set 0 (.int .i64 ((p : Int) + 1))).cell (i := 0) (by omega)⟩
  have hmk := makeA m hm
  have hnp : decide (N ≤ p) = false := decide_eq_false (by omega)
  replace ih := Lib.hid ih
  replace hO := Lib.hid hO
  go_enter Try.func8, Try.ntmps8
  go_wp2_with fail
  obtain ⟨hs1, hs2⟩ := hset.out
  have hsz0 : (w.setCell ⟨P, 0, none⟩ (.int .i64 ((p : Int) + 1))).heap.size = w.heap.size := by simp
  generalize (w.setCell ⟨P, 0, none⟩ (.int .i64 ((p : Int) + 1))) = w0 at hs1 hs2 hsz0 ⊢
  have hR := World.rowIs_alloc w0 #[.nilIface, .int .i32 0] 30 (fun j => if j = 0 then .nilIface else .int .i32 0) (fun i hi => by
    match i, hi with
    | 0, _ | 1, _ => rfl)
  have hb1 : But P 3 1 w (w0.alloc (.cells #[.nilIface, .int .i32 0] 30)) := hs1.next ((Below.refl _ _).alloc (Nat.le_refl _) _)
  have hp1 : (w0.alloc (.cells #[.nilIface, .int .i32 0] 30)).cell? ⟨P, 0, none⟩ = some (.int .i64 ((p + 1 : Nat) : Int)) := (((Below.refl w0.heap.size w0).alloc (Nat.le_refl _) _).cell (p := ⟨P, 0, none⟩) (by show P < w0.heap.size; omega)).trans hs2
  have hG1 : (w0.alloc (.cells #[.nilIface, .int .i32 0] 30)).heap.size = w.heap.size + 1 := by simp [hsz0]
  rw [hsz0] at hR
  generalize (w0.alloc (.cells #[.nilIface, .int .i32 0] 30)) = w1 at hR hb1 hp1 hG1 ⊢
  clear hs1 hs2 hsz0 c0 c1 hmk
  have hL0 : Lp 80 5 w1 (w1.alloc (.cells (madeCells #[.nilIface, .int .i32 0, .nilIface, .int .i32 0, .int .i32 0] (m * 5)) 80)) P N (w.heap.size + 1) 0 m 0 (p + 1) (cellsA (fun _ => .nilIface) 0) (fun _ => .nilIface) (fun _ => 0) (p + 1) := by
    refine ⟨?_, fun i hi => absurd hi (by omega), (But.start (butPos hb1 hp1)).next ((Below.refl _ _).alloc (Nat.le_refl _) _), (((Below.refl w1.heap.size w1).alloc (Nat.le_refl _) _).cell (p := ⟨P, 0, none⟩) (by show P < w1.heap.size; omega)).trans hp1, Nat.le_refl _, hlt, by omega, hG1.symm⟩
    have := World.ownsRow_made (base := w.heap.size + 1) (e := 80) (size := 5) w1 (madeCells #[.nilIface, .int .i32 0, .nilIface, .int .i32 0, .int .i32 0] (m * 5)) m (by omega) (by simp only [maxLen]; omega) (by simp [size_madeCells])
    rw [hG1] at this
    exact this
  have hO1 : Hid (Ops w1 b off N P f) := Lib.hid (hO.out.but hb1)
  generalize hGn : w.heap.size + 1 = G at hL0 hG1 ⊢
  replace hGn := Lib.hid hGn
  replace hG1 := Lib.hid hG1
  generalize (w1.alloc (.cells (madeCells #[.nilIface, .int .i32 0, .nilIface, .int .i32 0, .int .i32 0] (m * 5)) 80)) = w2 at hL0 ⊢
  go_loopg [8, 9, 10] m (fun gk xs t i wr => ∃ (r s p' : Nat) (D : Nat → Value) (K : Nat → Nat), r ≤ m ∧ gk = m - r ∧ i = .int .i64 r ∧ t = .int .i64 s ∧ xs = .slice (some ⟨G, 0, none⟩) r m ∧ s = sumK K r ∧ Lp 80 5 w1 wr P N G r m s (p + 1) (cellsA D r) D K p')
  case atStart => exact ⟨0, 0, p + 1, fun _ => .nilIface, fun _ => 0, Nat.zero_le _, rfl, rfl, rfl, rfl, rfl, hL0⟩
  case round =>
    clear hL0
    obtain ⟨r, s, p', D, K, hr, rfl, rfl, rfl, rfl, hs, hL⟩ := hrel
    replace hs := Lib.hid hs
    rcases Nat.lt_or_ge r m with hlt2 | hge
    · have hple := hL.le
      have hpN := hL.leN
      have hpos := butPos hL.but hL.pos
      have hsum := hL.sum
      have hOw := hO1.out.but hL.but
      go_wp2_with fail
      go_at_call 8
      refine (ih.out wr p' (by omega) hpN hOw hpos).mono ?_
      rintro e w3 ⟨d, k, p2, rfl, q1, q2, q3, q4, ht, hbt, hp2⟩
      have hkx : k + p' ≤ p2 := by
        rcases Nat.lt_or_ge p' N with h | h
        · have := q3 h; omega
        · have := q4 h; omega
      clear q3 q4 hpos hOw
      have hk64 : k ≤ 65536 := by omega
      have hs64 : s ≤ 65536 := by omega
      obtain ⟨dt, dv, rfl⟩ := isIface ht
      have hown3 : Hid (w3.ownsRow G 80 5 (.slice (some ⟨G, 0, none⟩) r m) r (cellsA D r)) := Lib.hid (own_gen hL.own (Nat.le_refl _) (fun bb h1 h2 => hbt.block bb h2 (by have := hb1.lt; have := hG1.out; have := hGn.out; omega)))
      have hnews := Lib.hid (news_cells (w3.alloc (.cells #[.iface dt dv, .int .i32 0] 30)) [.iface dt dv, .int .i32 0, .nilIface, .int .i32 0, .int .i32 0] 80 (w3.heap.size + 1) (by simp))
      have hone : Hid (∀ u ∈ ([.iface dt dv, .int .i32 0, .nilIface, .int .i32 0, .int .i32 0] : List Value), u.oneCell' = true) := Lib.hid (fun u hu => by simp at hu; rcases hu with rfl | rfl | rfl | rfl | rfl <;> rfl)
      go_wp2_with (at_builtin; refine wpList_append_own_spare _ rfl (.tmp 74) (.tmp 77) _ rfl G 80 i0 5 Try.underlying78 hi hz1 G r m (cellsA D r) rfl ((hown3.out.alloc _).alloc _) ⟨w3.heap.size + 1, 0, none⟩ 1 1 [.iface dt dv, .int .i32 0, .nilIface, .int .i32 0, .int .i32 0] rfl rfl hnews.out hone.out hlt2 ?_; intro w4 ho hg; have hL2 := hL.step ht hbt hp2 q1 q2 hkx (Nat.le_refl k) ho hg; clear ho hg)
      rw [← cellsA_put] at hL2
      go_roundg (m - (r + 1))
      case measure => omega
      case rel => exact ⟨r + 1, s + k, p2, _, _, by omega, rfl, rfl, by simp, rfl, by rw [hs.out, sumK_put], hL2⟩
    · have hrm : r = m := by omega
      subst hrm
      have hRr : wr.rowIs w.heap.size 30 2 (fun j => if j = 0 then .nilIface else .int .i32 0) := hR.of_block (hL.but.block _ (by have := hG1.out; have := hGn.out; omega) (by omega))
      have r0 := hRr.cell (i := 0) (by omega)
      have r1 := hRr.cell (i := 1) (by omega)
      have f0 := hRr.frozen 0
      have f1 := hRr.frozen 1
      have hRl := hRr.lt
      simp only [if_true] at r0
      rw [if_neg (by omega)] at r1
      go_wp2_with fail
      have hGw := hGn.out
      have hG1w := hG1.out
      obtain ⟨q, hq2⟩ : ∃ q : Bool, (bits BinOp.and IntKind.u8 (f p) 64 != 0) = q := ⟨_, rfl⟩
      rw [hq2]
      obtain ⟨wz, hwz⟩ : ∃ wz, wz = (((wr.setCell ⟨w.heap.size, 0, none⟩ (.iface 81 (.pointer (some ⟨wr.heap.size, 0, none⟩)))).setCell ⟨w.heap.size, 1, none⟩ (.int .i32 0)).alloc (.cells #[.slice (some ⟨G, 0, none⟩) r r, .int .i32 0, .bool q, .bool false] 83)) := ⟨_, rfl⟩
      have hkeep : ∀ bb, bb ≠ w.heap.size → bb < wr.heap.size → wz.heap[bb]? = wr.heap[bb]? := fun bb h1 h2 => by
        rw [hwz]
        exact (Go.Deep.blk_alloc_lt _ _ bb (by simpa using h2)).trans ((Go.Deep.blk_setCell_other _ _ _ _ h1).trans (Go.Deep.blk_setCell_other _ _ _ _ h1))
      have hBut : But P 3 1 w wz := by
        rw [hwz]
        exact (butSetNew (butSetNew (butTrans hb1 hL.but) (Nat.le_refl _)) (Nat.le_refl _)).next ((Below.refl _ _).alloc (Nat.le_refl _) _)
      have hrowB : wz.rowIs wr.heap.size 83 4 (fun j => (#[.slice (some ⟨G, 0, none⟩) r r, .int .i32 0, .bool q, .bool false] : Array Value).getD j undef) := by
        rw [hwz]
        have := World.rowIs_alloc ((wr.setCell ⟨w.heap.size, 0, none⟩ (.iface 81 (.pointer (some ⟨wr.heap.size, 0, none⟩)))).setCell ⟨w.heap.size, 1, none⟩ (.int .i32 0)) #[.slice (some ⟨G, 0, none⟩) r r, .int .i32 0, .bool q, .bool false] 83 (fun j => (#[.slice (some ⟨G, 0, none⟩) r r, .int .i32 0, .bool q, .bool false] : Array Value).getD j undef) (fun i hi => by
          match i, hi with
          | 0, _ | 1, _ | 2, _ | 3, _ => rfl)
        simpa using this
      have hTree : Tree w.heap.size wz (.iface 81 (.pointer (some ⟨wr.heap.size, 0, none⟩))) (sumK K r) :=
        .arr wr.heap.size G r r D K q (by omega) hm hrowB (own_gen hL.own (by omega) (fun bb h1 h2 => hkeep bb (by omega) h2)) (fun i hi => (hL.tree i hi).gen (by omega) (fun bb h1 h2 => hkeep bb (by omega) h2))
      have hpos2 : wz.cell? ⟨P, 0, none⟩ = some (.int .i64 p') := (World.cell?_of_block (w := wr) (a := ⟨P, 0, none⟩) (hkeep P (by omega) (by have := hL.but.below.size; omega))).trans hL.pos
      have hsum := hL.sum
      have hpN := hL.leN
      rw [← hs.out] at hTree
      rw [← hwz]
      refine bodyPost_ret (v := .tuple #[.agg #[.iface 81 (.pointer (some ⟨wr.heap.size, 0, none⟩)), .int .i32 0], .int .i64 s]) ?_ rfl ⟨_, s, p', rfl, by omega, hpN, fun _ => by omega, fun h => by omega, hTree, hBut, hpos2⟩
      have hRz := ((hRr.set 0 (.iface 81 (.pointer (some ⟨wr.heap.size, 0, none⟩)))).set 1 (.int .i32 0)).alloc (.cells #[.slice (some ⟨G, 0, none⟩) r r, .int .i32 0, .bool q, .bool false] 83)
      rw [← hwz] at hRz
      have z0 : wz.cell? ⟨w.heap.size, 0, none⟩ = some (.iface 81 (.pointer (some ⟨wr.heap.size, 0, none⟩))) := hRz.cell (i := 0) (by omega)
      have z1 : wz.cell? ⟨w.heap.size, 1, none⟩ = some (.int .i32 0) := hRz.cell (i := 1) (by omega)
      simp [results, Try.results8, go_sem, z0, z1]
end Go.Proofs.Ytgiehlcmmikgmaa.Bind
