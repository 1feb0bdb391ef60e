/-
  maybeRelocateVarsToTopLevel: it refuses, or records every binding and gathers the values. Condition: lengths.
-/
import Derived.Test.YtdiedidmjpihjaaRlF
namespace Go.Proofs.Ytdiedidmjpihjaa.Rl
open Go.RowKit Go.ChangeShapes Go.WideShapes Go.ChangeAt Go.Proofs.Ytdiedidmjpihjaa.Ints

def Done (B P g n : Nat) (r : Nat → Nat) (lc : Nat → Int) (c : Nat → Bool) (w : World) (e : Ending) (w' : World) : Prop :=
  (∃ F v, Pa B P g n F (cnt r n) v n (vars lc r n) w') ∧ Ko B P g w w' ∧
    ((fst c n = none ∧ e = .returned (.tuple #[.agg #[.nilIface, .int .i32 0], .bool true])) ∨ ∃ i t p, fst c n = some i ∧ e = .returned (.tuple #[.agg #[.iface t p, .int .i32 (lc i)], .bool true]))
def Okay (m d : Int) (ln : Nat) (fn : Nat → Bool) : Prop := m = 2 ∧ ¬ (ln = 0 ∧ d = 0) ∧ ∀ i, i < ln → fn i = false
def Reloc (B P g n : Nat) (r : Nat → Nat) (lc : Nat → Int) (c : Nat → Bool) (m d : Int) (ln : Nat) (fn : Nat → Bool) (w : World) (e : Ending) (w' : World) : Prop :=
  (¬ Okay m d ln fn ∧ Refu w e w') ∨ (Okay m d ln fn ∧ Done B P g n r lc c w e w')
theorem l2_start {B P g n : Nat} {r : Nat → Nat} {lc : Nat → Int} {c : Nat → Bool} {F : Nat → Value} {v : Value} {w W : World} (h : Pa B P g n F (cnt r 0) v 0 [] w) (hb : Below w.heap.size w W) (hs : W.heap.size = w.heap.size + 1 + 1)
    (hz : W.heap[w.heap.size]? = some (.cells #[.pointer (some ⟨P, 0, none⟩)] 26 (0, 0))) (hr : W.heap[w.heap.size + 1]? = some (.cells #[.nilIface, .int .i32 0] 35 (0, 0))) (hB : B ≤ w.heap.size) :
    L2 B P g n r lc c w 0 0 (W.alloc (.cells #[.nilIface, .int .i32 0] 72)) := by
  have hb2 : Below w.heap.size w (W.alloc (.cells #[.nilIface, .int .i32 0] 72)) := hb.alloc (by omega) _
  have lt : ∀ {b : Nat} {o : Obj}, W.heap[b]? = some o → b < W.heap.size := fun e => (Array.getElem?_eq_some_iff.1 e).1
  refine ⟨⟨F, v, h.below hb2⟩, Ko.of_below hb2 hB, (Below.heap_alloc _ _ _ (lt hz)).trans hz, (Below.heap_alloc _ _ _ (lt hr)).trans hr, .nilIface, 0, ?_, .inl ⟨rfl, rfl, rfl⟩⟩
  rw [← hs]
  exact heap_alloc_new _ _
structure SE (E0 E1 : Nat) (t : TypeId) (p : Value) (l : Int) (tv : TypeId) (pv : Value) (m : Int) (w : World) : Prop where
  c1 : w.cell? ⟨E1, 0, none⟩ = some (.iface t p)
  c2 : w.cell? ⟨E1, 1, none⟩ = some (.int .i32 l)
  c3 : w.cell? ⟨E0, 2, none⟩ = some (.iface tv pv)
  c4 : w.cell? ⟨E0, 3, none⟩ = some (.int .i32 m)
theorem SE.below {E0 E1 : Nat} {t : TypeId} {p : Value} {l : Int} {tv : TypeId} {pv : Value} {m : Int} {w w1 : World} (h : SE E0 E1 t p l tv pv m w) (hb : Below w.heap.size w w1) : SE E0 E1 t p l tv pv m w1 :=
  ⟨(hb.cell (lt_of_cell h.c1)).trans h.c1, (hb.cell (lt_of_cell h.c2)).trans h.c2, (hb.cell (lt_of_cell h.c3)).trans h.c3, (hb.cell (lt_of_cell h.c4)).trans h.c4⟩
theorem SE.put {E0 E1 N i : Nat} {t : TypeId} {p a : Value} {l : Int} {tv : TypeId} {pv : Value} {m : Int} {w : World} (h : SE E0 E1 t p l tv pv m w) (h0 : E0 ≠ N) (h1 : E1 ≠ N) : SE E0 E1 t p l tv pv m (w.setCell ⟨N, i, none⟩ a) :=
  ⟨(World.cell?_setCell_far _ _ _ _ (fun e => h1 e.symm)).trans h.c1, (World.cell?_setCell_far _ _ _ _ (fun e => h1 e.symm)).trans h.c2, (World.cell?_setCell_far _ _ _ _ (fun e => h0 e.symm)).trans h.c3, (World.cell?_setCell_far _ _ _ _ (fun e => h0 e.symm)).trans h.c4⟩
theorem L2.fin {B P g n : Nat} {r : Nat → Nat} {lc : Nat → Int} {c : Nat → Bool} {w : World} {kp kv : Nat} {wr : World} (h : L2 B P g n r lc c w kp kv wr) (hB : B ≤ w.heap.size) (a b : Value) :
    (∃ F v, Pa B P g n F (cnt r kp) v kp (vars lc r kp) ((wr.setCell ⟨w.heap.size + 1, 0, none⟩ a).setCell ⟨w.heap.size + 1, 1, none⟩ b)) ∧ Ko B P g w ((wr.setCell ⟨w.heap.size + 1, 0, none⟩ a).setCell ⟨w.heap.size + 1, 1, none⟩ b) ∧
      ((wr.setCell ⟨w.heap.size + 1, 0, none⟩ a).setCell ⟨w.heap.size + 1, 1, none⟩ b).heap[w.heap.size + 1]? = some (.cells #[a, b] 35 (0, 0)) := by
  obtain ⟨F, v, hp⟩ := h.pa
  have hN1 : (wr.setCell ⟨w.heap.size + 1, 0, none⟩ a).heap[w.heap.size + 1]? = some (.cells #[a, .int .i32 0] 35 (0, 0)) := heap_setCell_same wr _ 0 _ _ a h.rr
  refine ⟨⟨F, v, (hp.setOther (j := 0) (a := a) h.rr (by decide) (by decide) (by decide)).setOther (j := 1) (a := b) hN1 (by decide) (by decide) (by decide)⟩, ⟨(h.ko.bel.setCell (p := ⟨w.heap.size + 1, 0, none⟩) (by show B ≤ w.heap.size + 1; omega) a).setCell (p := ⟨w.heap.size + 1, 1, none⟩) (by show B ≤ w.heap.size + 1; omega) _, fun q cur ty fr hq h3 h4 h5 => ?_⟩, two_set0 h.rr⟩
  have lq := (Array.getElem?_eq_some_iff.1 hq).1
  rw [Go.Deep.blk_setCell_other _ _ _ _ (show q ≠ w.heap.size + 1 by omega), Go.Deep.blk_setCell_other _ _ _ _ (show q ≠ w.heap.size + 1 by omega)]
  exact h.ko.kp q cur ty fr hq h3 h4 h5
theorem L2.finA {B P g n : Nat} {r : Nat → Nat} {lc : Nat → Int} {c : Nat → Bool} {w : World} {kp kv : Nat} {wr : World} (h : L2 B P g n r lc c w kp kv wr) (hB : B ≤ w.heap.size) (a b : Value) (o : Obj) :
    (∃ F v, Pa B P g n F (cnt r kp) v kp (vars lc r kp) (((wr.setCell ⟨w.heap.size + 1, 0, none⟩ a).setCell ⟨w.heap.size + 1, 1, none⟩ b).alloc o)) ∧ Ko B P g w (((wr.setCell ⟨w.heap.size + 1, 0, none⟩ a).setCell ⟨w.heap.size + 1, 1, none⟩ b).alloc o) ∧
      (((wr.setCell ⟨w.heap.size + 1, 0, none⟩ a).setCell ⟨w.heap.size + 1, 1, none⟩ b).alloc o).heap[w.heap.size + 1]? = some (.cells #[a, b] 35 (0, 0)) := by
  obtain ⟨⟨F, v, hp⟩, hk, hr⟩ := h.fin hB a b
  have hb := (Below.refl ((wr.setCell ⟨w.heap.size + 1, 0, none⟩ a).setCell ⟨w.heap.size + 1, 1, none⟩ b).heap.size ((wr.setCell ⟨w.heap.size + 1, 0, none⟩ a).setCell ⟨w.heap.size + 1, 1, none⟩ b)).alloc (Nat.le_refl _) o
  exact ⟨⟨F, v, hp.below hb⟩, hk.trans (Ko.of_below hb (Nat.le_trans hB hk.bel.size)), (hb.block _ (Array.getElem?_eq_some_iff.1 hr).1).trans hr⟩
set_option maxRecDepth 100000 in
set_option maxHeartbeats 16000000 in
theorem reloc (B P g n D ln : Nat) (b r S : Nat → Nat) (lc : Nat → Int) (vl fn c : Nat → Bool) (m d md : Int) (F : Nat → Value) (v : Value) (w : World) (h : Pa B P g n F (cnt r 0) v 0 [] w) (hH : Hd P (S ln) (S 0) m d w) (hC : Sch S fn ln w) (hD : Ds D n b r lc vl w)
    (hn : n ≤ 65536) (hr : ∀ i, i < n → r i < n) (hm : m = 0 ∨ m = 1 ∨ m = 2) (hmd : md = 0 ∨ md = 1) (hc : ∀ i, i < n → c i = (decide (md = 1) || vl i)) :
    Calls Try.prog 13 #[.pointer (some ⟨P, 0, none⟩), .slice (some ⟨D, 0, none⟩) n n, .int .u8 md] w (Reloc B P g n r lc c m d ln fn w) := by
  have hBw : B ≤ w.heap.size := Nat.le_trans h.bp (Nat.le_of_lt h.lts.1)
  have lPw := h.lts.1
  have lgw := h.lts.2.1
  generalize hW0 : ((w.alloc (.cells #[.pointer (some ⟨P, 0, none⟩)] 26)).alloc (.cells #[.nilIface, .int .i32 0] 35)) = W
  have b0 : Below w.heap.size w W := hW0 ▸ two_alloc _ _ _
  have sW : W.heap.size = w.heap.size + 1 + 1 := by rw [← hW0]; simp
  have h1 := hH.below b0
  have hCW := hC.below b0
  obtain ⟨c1, c2, c3, c4⟩ := h1
  have hb0 : W.heap[w.heap.size]? = some (.cells #[.pointer (some ⟨P, 0, none⟩)] 26 (0, 0)) := by
    rw [← hW0, Below.heap_alloc _ _ _ (by simp)]
    exact heap_alloc_new _ _
  have hb1 : W.heap[w.heap.size + 1]? = some (.cells #[.nilIface, .int .i32 0] 35 (0, 0)) := by
    have := heap_alloc_new (w.alloc (.cells #[.pointer (some ⟨P, 0, none⟩)] 26)) (.cells #[.nilIface, .int .i32 0] 35)
    rw [hW0] at this
    simpa using this
  have z0 : W.cell? ⟨w.heap.size, 0, none⟩ = some (.pointer (some ⟨P, 0, none⟩)) := cell_of_row _ _ 0 _ _ _ hb0
  obtain ⟨T, hT⟩ : ∃ T : Bool, T = decide (m ≠ 2 ∨ (ln = 0 ∧ d = 0)) := ⟨_, rfl⟩
  have hne : Hid (∀ i, 0 < i → i ≤ ln → S i ≠ S 0) := Lib.hid hC.ne
  replace hT := Lib.hid hT
  replace sW := Lib.hid sW
  replace b0 := Lib.hid b0
  replace hb0 := Lib.hid hb0
  replace hb1 := Lib.hid hb1
  replace h := Lib.hid h
  replace hH := Lib.hid hH
  replace hC := Lib.hid hC
  replace hCW := Lib.hid hCW
  replace hD := Lib.hid hD
  replace hr := Lib.hid hr
  replace hc := Lib.hid hc
  replace hm := Lib.hid hm
  replace hmd := Lib.hid hmd
  go_enter Try.func13, Try.ntmps13
  go_upto_region 1 with fail
  replace hW0 := Lib.hid hW0
  go_cut [38] from 14 to 38 (fun t wx => t = .bool T ∧ ∃ nq, wx = W.drewN nq)
  case first =>
    by_cases m2 : m = 2
    · subst m2
      by_cases l0 : ln = 0
      · subst l0
        have e1 := fun W' => eql_same (⟨S 0, 0, none⟩ : Addr) W'
        by_cases d0 : d = 0
        · subst d0
          have hTt : T = true := by rw [hT.out]; simp
          subst hTt
          go_quiet (fail)
          go_wp2_with fail
          go_meet
          exact ⟨rfl, _, rfl⟩
        · have hTt : T = false := by rw [hT.out]; simp [d0]
          subst hTt
          go_quiet (fail)
          go_wp2_with fail
          go_meet
          exact ⟨by simp [d0], _, rfl⟩
      · have e1 := fun W' hb => ((hC.out.below (w1 := W') hb).eql (Nat.le_refl ln) (by omega))
        replace e1 := Lib.hid e1
        have e2 := fun q => e1.out (W.drewN q) (belowN b0.out q)
        have hTt : T = false := by rw [hT.out]; simp [l0]
        subst hTt
        go_quiet (fail)
        go_wp2_with fail
        go_meet
        exact ⟨rfl, _, rfl⟩
    · have hTt : T = true := by rw [hT.out]; simp [m2]
      subst hTt
      go_quiet (fail)
      go_wp2_with fail
      go_meet
      exact ⟨by simp [m2], _, rfl⟩
  case rest =>
    obtain ⟨rfl, nq, rfl⟩ := hcut
    have hb02 : (W.drewN nq).heap[w.heap.size]? = some (.cells #[.pointer (some ⟨P, 0, none⟩)] 26 (0, 0)) := hb0.out
    have hb12 : (W.drewN nq).heap[w.heap.size + 1]? = some (.cells #[.nilIface, .int .i32 0] 35 (0, 0)) := hb1.out
    have b2 := belowN b0.out nq
    have hC2 : Sch S fn ln (W.drewN nq) := hCW.out.below (belowN (Below.refl _ _) nq)
    have hs2 : (W.drewN nq).heap.size = w.heap.size + 1 + 1 := sW.out
    have d2 : (W.drewN nq).cell? ⟨P, 104, none⟩ = some (.pointer (some ⟨S ln, 0, none⟩)) := c2
    have d3 : (W.drewN nq).cell? ⟨P, 187, none⟩ = some (.pointer (some ⟨S 0, 0, none⟩)) := c3
    have dz : (W.drewN nq).cell? ⟨w.heap.size, 0, none⟩ = some (.pointer (some ⟨P, 0, none⟩)) := z0
    clear c1 c2 c3 c4 z0 hb0 hb1 b0 sW hCW hW0
    generalize W.drewN nq = W2 at *
    have hb0 := Lib.hid hb02
    have hb1 := Lib.hid hb12
    have b0 := Lib.hid b2
    replace hC2 := Lib.hid hC2
    replace hs2 := Lib.hid hs2
    clear hb02 hb12 b2
    cases T with
    | true =>
      have y4 : W2.cell? ⟨w.heap.size + 1, 0, none⟩ = some .nilIface := cell_of_row _ _ 0 _ _ _ hb1.out
      have y5 : W2.cell? ⟨w.heap.size + 1, 1, none⟩ = some (.int .i32 0) := cell_of_row _ _ 1 _ _ _ hb1.out
      have y6 : W2.frozen? ⟨w.heap.size + 1, 0, none⟩ = false := frozen_of_row _ _ 0 _ _ hb1.out
      have y7 : W2.frozen? ⟨w.heap.size + 1, 1, none⟩ = false := frozen_of_row _ _ 1 _ _ hb1.out
      go_wp2_with fail
      obtain ⟨f1, f2⟩ := refu_fin b0.out hb1.out
      refine bodyPost_ret (v := .tuple #[.agg #[.nilIface, .int .i32 0], .bool false]) (res2 rfl _ _ (w.heap.size + 1) 35 #[.nilIface, .int .i32 0] (0, 0) _ (.bool false) (by kernel_rfl) (by kernel_rfl) f1 Try.underlying35 rfl (by kernel_rfl)) rfl (.inl ⟨fun ho => ?_, rfl, f2⟩)
      have := of_decide_eq_true hT.out.symm
      rcases this with h1 | h1
      · exact h1 ho.1
      · exact ho.2.1 h1
    | false =>
      have hT2 := of_decide_eq_false hT.out.symm
      replace hT2 := Lib.hid hT2
      clear hT
      go_wp2_with fail
      go_loopg [8] ln (fun gk s wr => ∃ i : Nat, i ≤ ln ∧ gk = i ∧ s = .pointer (some ⟨S i, 0, none⟩) ∧ wr = W2 ∧ ∀ j, i ≤ j → j < ln → fn j = false)
      case atStart => exact ⟨ln, Nat.le_refl _, rfl, rfl, rfl, fun j h1 h2 => by omega⟩
      case round =>
        obtain ⟨i, hi, rfl, rfl, rfl, hfn⟩ := hrel
        have kc := hC2.out.kind gk hi
        rcases Nat.eq_zero_or_pos gk with h0 | h0
        · subst h0
          have hfn2 := Lib.hid (fun j hj => hfn j (Nat.zero_le _) hj)
          clear hfn
          have kc2 : wr.cell? ⟨S 0, 15, none⟩ = some (.int .u8 6) := kc
          clear kc
          go_wp2_with fail
          go_at_call 14
          refine (stops _ _).mono ?_
          rintro e w9 ⟨rfl, rfl⟩
          clear kc2
          have hq1 := eql_same (⟨S 0, 0, none⟩ : Addr) w9
          have hq2 := neq_of hq1
          simp only [Bool.not_true] at hq2
          have hL0 := Lib.hid (l2_start (r := r) (lc := lc) (c := c) h.out b0.out hs2.out hb0.out hb1.out hBw)
          have hs3 := hs2.out
          clear hq1
          go_wp2_with fail
          replace hs3 := Lib.hid hs3
          go_loopg [64] n (fun gk i wr => ∃ k : Nat, k ≤ n ∧ gk = n - k ∧ i = .int .i64 k ∧ L2 B P g n r lc c w k k wr)
          case atStart => exact ⟨0, Nat.zero_le _, rfl, rfl, hL0.out⟩
          case round =>
            obtain ⟨k, hk, rfl, rfl, hL⟩ := hrel
            rcases Nat.lt_or_ge k n with hlt | hge
            · have hDk := hD.out.keep hL.ko h.out
              obtain ⟨f, hf, hcell⟩ := hDk.row
              obtain ⟨f0, f1, f2, f3⟩ := hcell k hlt
              have x0 : wr.cell? ⟨D, k * 4, none⟩ = some (.iface 62 (.pointer (some ⟨b k, 0, none⟩))) := f0 ▸ hf.cell (i := k * 4) (by omega)
              have x1 : wr.cell? ⟨D, k * 4 + 1, none⟩ = some (.int .i32 (lc k)) := f1 ▸ hf.cell (i := k * 4 + 1) (by omega)
              cases hvk : vl k with
              | false =>
                obtain ⟨g2, g3⟩ := f2 hvk
                have x2 : wr.cell? ⟨D, k * 4 + 2, none⟩ = some .nilIface := g2 ▸ hf.cell (i := k * 4 + 2) (by omega)
                have x3 : wr.cell? ⟨D, k * 4 + 3, none⟩ = some (.int .i32 0) := g3 ▸ hf.cell (i := k * 4 + 3) (by omega)
                clear f0 f1 f2 f3 g2 g3 hcell hf
                rcases hmd.out with rfl | rfl
                · obtain ⟨wA, hwA⟩ : ∃ x, wr.alloc (.cells #[.iface 62 (.pointer (some ⟨b k, 0, none⟩)), .int .i32 (lc k), .nilIface, .int .i32 0] 74) = x := ⟨_, rfl⟩
                  have bA : Below wr.heap.size wr wA := hwA ▸ (Below.refl _ _).alloc (Nat.le_refl _) _
                  have sA : wA.heap.size = wr.heap.size + 1 := by rw [← hwA]; simp
                  have hLA := hL.below hBw bA
                  have hbk := (bA.block _ (Array.getElem?_eq_some_iff.1 (hDk.blk k hlt)).1).trans (hDk.blk k hlt)
                  have hE0 : wA.heap[wr.heap.size]? = some (.cells #[.iface 62 (.pointer (some ⟨b k, 0, none⟩)), .int .i32 (lc k), .nilIface, .int .i32 0] 74 (0, 0)) := by rw [← hwA]; exact heap_alloc_new _ _
                  have q0 : wA.cell? ⟨wr.heap.size, 0, none⟩ = some (.iface 62 (.pointer (some ⟨b k, 0, none⟩))) := cell_of_row _ _ 0 _ _ _ hE0
                  have q1 : wA.cell? ⟨wr.heap.size, 1, none⟩ = some (.int .i32 (lc k)) := cell_of_row _ _ 1 _ _ _ hE0
                  have lE : wr.heap.size < wA.heap.size := by omega
                  obtain ⟨FA, vA, hpA⟩ := hLA.pa
                  have cC := convert B P g n w.heap.size (b k) FA (cnt r k) vA k (vars lc r k) (r k) (lc k) wA hpA (hr.out k hlt) hn (by omega) (Nat.le_trans (cnt_le r k (r k)) (by omega)) (cell_of_row _ _ 0 _ _ _ hLA.z) (by omega) (by omega) ⟨_, _, hLA.z⟩ hbk
                  have hwrs := hL.ko.bel.size
                  replace hDk := Lib.hid hDk
                  replace hL := Lib.hid hL
                  replace bA := Lib.hid bA
                  replace sA := Lib.hid sA
                  replace hLA := Lib.hid hLA
                  replace hE0 := Lib.hid hE0
                  replace cC := Lib.hid cC
                  clear hbk hpA
                  replace hwA := Lib.hid hwA
                  go_upto_region 13 with fail
                  rw [hwA.out]
                  go_wp2_with fail
                  go_at_call 17
                  refine cC.out.mono ?_
                  rintro e w3 hC3
                  have hC4 := hC3
                  obtain ⟨_, _, _, _, _, _, hK3⟩ := hC4
                  obtain ⟨⟨t, p, rfl⟩, hL3⟩ := hLA.out.clo lPw lgw hC3
                  have hE3 : w3.heap[wr.heap.size]? = some (.cells #[.iface 62 (.pointer (some ⟨b k, 0, none⟩)), .int .i32 (lc k), .nilIface, .int .i32 0] 74 (0, 0)) := (hK3.kp _ _ _ _ hE0.out (by decide) (by omega) (by omega)).trans hE0.out
                  have lE3 := (Array.getElem?_eq_some_iff.1 hE3).1
                  generalize hw4 : w3.alloc (.cells #[.iface t p, .int .i32 (lc k)] 72) = w4
                  have b4 : Below w3.heap.size w3 w4 := hw4 ▸ (Below.refl _ _).alloc (Nat.le_refl _) _
                  have hE4 := (b4.block _ lE3).trans hE3
                  have hF4 : w4.heap[w3.heap.size]? = some (.cells #[.iface t p, .int .i32 (lc k)] 72 (0, 0)) := by rw [← hw4]; exact heap_alloc_new _ _
                  have hL4 := hL3.below hBw b4
                  have p2 : w4.cell? ⟨wr.heap.size, 2, none⟩ = some (.nilIface) := cell_of_row _ _ 2 _ _ _ hE4
                  have p3 : w4.cell? ⟨wr.heap.size, 3, none⟩ = some (.int .i32 0) := cell_of_row _ _ 3 _ _ _ hE4
                  have r0 : w4.cell? ⟨w3.heap.size, 0, none⟩ = some (.iface t p) := cell_of_row _ _ 0 _ _ _ hF4
                  have r1 : w4.cell? ⟨w3.heap.size, 1, none⟩ = some (.int .i32 (lc k)) := cell_of_row _ _ 1 _ _ _ hF4
                  have e2 : w3.cell? ⟨wr.heap.size, 2, none⟩ = some (.nilIface) := cell_of_row _ _ 2 _ _ _ hE3
                  have hVn : w.heap.size + 1 + 1 ≠ w3.heap.size := by
                    obtain ⟨_, _, ha, _⟩ := hL3.vv
                    have := (Array.getElem?_eq_some_iff.1 ha).1
                    omega
                  have hVe : w.heap.size + 1 + 1 ≠ wr.heap.size := by
                    obtain ⟨_, _, ha, _⟩ := hL.out.vv
                    have := (Array.getElem?_eq_some_iff.1 ha).1
                    omega
                  clear hC3 cC hK3 hL3 hE3 q0 q1
                  replace hE4 := Lib.hid hE4
                  replace hF4 := Lib.hid hF4
                  replace b4 := Lib.hid b4
                  replace hVn := Lib.hid hVn
                  replace hVe := Lib.hid hVe
                  have hck : c k = false := by rw [hc.out k hlt, hvk]; simp
                  have hL6 := Lib.hid (hL4.miss hck)
                  clear hL4
                  go_upto_region 14 with fail
                  replace hw4 := Lib.hid hw4
                  go_wp2_with fail
                  go_roundg (n - (k + 1))
                  case measure => omega
                  case rel => exact ⟨k + 1, by omega, rfl, rfl, hL6.out⟩
                · have hck : c k = true := by rw [hc.out k hlt]; simp
                  obtain ⟨wA, hwA⟩ : ∃ x, wr.alloc (.cells #[.iface 62 (.pointer (some ⟨b k, 0, none⟩)), .int .i32 (lc k), .nilIface, .int .i32 0] 74) = x := ⟨_, rfl⟩
                  have bA : Below wr.heap.size wr wA := hwA ▸ (Below.refl _ _).alloc (Nat.le_refl _) _
                  have sA : wA.heap.size = wr.heap.size + 1 := by rw [← hwA]; simp
                  have hLA := hL.below hBw bA
                  have hbk := (bA.block _ (Array.getElem?_eq_some_iff.1 (hDk.blk k hlt)).1).trans (hDk.blk k hlt)
                  have hE0 : wA.heap[wr.heap.size]? = some (.cells #[.iface 62 (.pointer (some ⟨b k, 0, none⟩)), .int .i32 (lc k), .nilIface, .int .i32 0] 74 (0, 0)) := by rw [← hwA]; exact heap_alloc_new _ _
                  have q0 : wA.cell? ⟨wr.heap.size, 0, none⟩ = some (.iface 62 (.pointer (some ⟨b k, 0, none⟩))) := cell_of_row _ _ 0 _ _ _ hE0
                  have q1 : wA.cell? ⟨wr.heap.size, 1, none⟩ = some (.int .i32 (lc k)) := cell_of_row _ _ 1 _ _ _ hE0
                  have lE : wr.heap.size < wA.heap.size := by omega
                  obtain ⟨FA, vA, hpA⟩ := hLA.pa
                  have cC := convert B P g n w.heap.size (b k) FA (cnt r k) vA k (vars lc r k) (r k) (lc k) wA hpA (hr.out k hlt) hn (by omega) (Nat.le_trans (cnt_le r k (r k)) (by omega)) (cell_of_row _ _ 0 _ _ _ hLA.z) (by omega) (by omega) ⟨_, _, hLA.z⟩ hbk
                  have hwrs := hL.ko.bel.size
                  replace hDk := Lib.hid hDk
                  replace hL := Lib.hid hL
                  replace bA := Lib.hid bA
                  replace sA := Lib.hid sA
                  replace hLA := Lib.hid hLA
                  replace hE0 := Lib.hid hE0
                  replace cC := Lib.hid cC
                  clear hbk hpA
                  replace hwA := Lib.hid hwA
                  go_upto_region 13 with fail
                  rw [hwA.out]
                  go_wp2_with fail
                  go_at_call 17
                  refine cC.out.mono ?_
                  rintro e w3 hC3
                  have hC4 := hC3
                  obtain ⟨_, _, _, _, _, _, hK3⟩ := hC4
                  obtain ⟨⟨t, p, rfl⟩, hL3⟩ := hLA.out.clo lPw lgw hC3
                  have hE3 : w3.heap[wr.heap.size]? = some (.cells #[.iface 62 (.pointer (some ⟨b k, 0, none⟩)), .int .i32 (lc k), .nilIface, .int .i32 0] 74 (0, 0)) := (hK3.kp _ _ _ _ hE0.out (by decide) (by omega) (by omega)).trans hE0.out
                  have lE3 := (Array.getElem?_eq_some_iff.1 hE3).1
                  generalize hw4 : w3.alloc (.cells #[.iface t p, .int .i32 (lc k)] 72) = w4
                  have b4 : Below w3.heap.size w3 w4 := hw4 ▸ (Below.refl _ _).alloc (Nat.le_refl _) _
                  have hE4 := (b4.block _ lE3).trans hE3
                  have hF4 : w4.heap[w3.heap.size]? = some (.cells #[.iface t p, .int .i32 (lc k)] 72 (0, 0)) := by rw [← hw4]; exact heap_alloc_new _ _
                  have hL4 := hL3.below hBw b4
                  have p2 : w4.cell? ⟨wr.heap.size, 2, none⟩ = some (.nilIface) := cell_of_row _ _ 2 _ _ _ hE4
                  have p3 : w4.cell? ⟨wr.heap.size, 3, none⟩ = some (.int .i32 0) := cell_of_row _ _ 3 _ _ _ hE4
                  have r0 : w4.cell? ⟨w3.heap.size, 0, none⟩ = some (.iface t p) := cell_of_row _ _ 0 _ _ _ hF4
                  have r1 : w4.cell? ⟨w3.heap.size, 1, none⟩ = some (.int .i32 (lc k)) := cell_of_row _ _ 1 _ _ _ hF4
                  have e2 : w3.cell? ⟨wr.heap.size, 2, none⟩ = some (.nilIface) := cell_of_row _ _ 2 _ _ _ hE3
                  have hVn : w.heap.size + 1 + 1 ≠ w3.heap.size := by
                    obtain ⟨_, _, ha, _⟩ := hL3.vv
                    have := (Array.getElem?_eq_some_iff.1 ha).1
                    omega
                  have hVe : w.heap.size + 1 + 1 ≠ wr.heap.size := by
                    obtain ⟨_, _, ha, _⟩ := hL.out.vv
                    have := (Array.getElem?_eq_some_iff.1 ha).1
                    omega
                  clear hC3 cC hK3 hL3 hE3 q0 q1
                  replace hE4 := Lib.hid hE4
                  replace hF4 := Lib.hid hF4
                  replace b4 := Lib.hid b4
                  replace hVn := Lib.hid hVn
                  replace hVe := Lib.hid hVe
                  obtain ⟨a0, l0, hV, hs⟩ := hL4.vv
                  rcases hs with ⟨hfn0, rfl, rfl⟩ | ⟨i0, t0, p0, hfi0, rfl, rfl⟩
                  · go_upto_region 14 with fail
                    replace hw4 := Lib.hid hw4
                    have v0 : w4.cell? ⟨w.heap.size + 1 + 1, 0, none⟩ = some (.nilIface) := cell_of_row _ _ 0 _ _ _ hV
                    have v1 : w4.cell? ⟨w.heap.size + 1 + 1, 1, none⟩ = some (.int .i32 0) := cell_of_row _ _ 1 _ _ _ hV
                    replace hL4 := Lib.hid hL4
                    go_wp2_with fail
                    go_at_call 18
                    refine (join0 _ _ _ _ _).mono ?_
                    rintro e w5 ⟨t5, p5, rfl, b5⟩
                    have hst : St c lc (k + 1) (.iface t5 p5) (lc k) := .inr ⟨k, t5, p5, fst_step_hit hfn0 hck, rfl, rfl⟩
                    have hL5 := hL4.out.below hBw b5
                    have hL6 := hL5.put hBw hst
                    have hV5 := (b5.block _ (Array.getElem?_eq_some_iff.1 hV).1).trans hV
                    have u0 : w5.cell? ⟨w.heap.size + 1 + 1, 0, none⟩ = some (.nilIface) := cell_of_row _ _ 0 _ _ _ hV5
                    have u1 : w5.cell? ⟨w.heap.size + 1 + 1, 1, none⟩ = some (.int .i32 0) := cell_of_row _ _ 1 _ _ _ hV5
                    have u2 : w5.frozen? ⟨w.heap.size + 1 + 1, 0, none⟩ = false := frozen_of_row _ _ 0 _ _ hV5
                    have u3 : w5.frozen? ⟨w.heap.size + 1 + 1, 1, none⟩ = false := frozen_of_row _ _ 1 _ _ hV5
                    replace hL6 := Lib.hid hL6
                    replace hV5 := Lib.hid hV5
                    clear hL4 hL5 b5 v0 v1 hV
                    go_wp2_with fail
                    go_roundg (n - (k + 1))
                    case measure => omega
                    case rel => exact ⟨k + 1, by omega, rfl, rfl, hL6.out⟩
                  · go_upto_region 14 with fail
                    replace hw4 := Lib.hid hw4
                    have v0 : w4.cell? ⟨w.heap.size + 1 + 1, 0, none⟩ = some (.iface t0 p0) := cell_of_row _ _ 0 _ _ _ hV
                    have v1 : w4.cell? ⟨w.heap.size + 1 + 1, 1, none⟩ = some (.int .i32 (lc i0)) := cell_of_row _ _ 1 _ _ _ hV
                    replace hL4 := Lib.hid hL4
                    go_wp2_with fail
                    go_at_call 18
                    refine (join1 _ _ _ _ _ _ _).mono ?_
                    rintro e w5 ⟨t5, p5, rfl, b5⟩
                    have hst : St c lc (k + 1) (.iface t5 p5) (lc i0) := .inr ⟨i0, t5, p5, fst_step_some hfi0, rfl, rfl⟩
                    have hL5 := hL4.out.below hBw b5
                    have hL6 := hL5.put hBw hst
                    have hV5 := (b5.block _ (Array.getElem?_eq_some_iff.1 hV).1).trans hV
                    have u0 : w5.cell? ⟨w.heap.size + 1 + 1, 0, none⟩ = some (.iface t0 p0) := cell_of_row _ _ 0 _ _ _ hV5
                    have u1 : w5.cell? ⟨w.heap.size + 1 + 1, 1, none⟩ = some (.int .i32 (lc i0)) := cell_of_row _ _ 1 _ _ _ hV5
                    have u2 : w5.frozen? ⟨w.heap.size + 1 + 1, 0, none⟩ = false := frozen_of_row _ _ 0 _ _ hV5
                    have u3 : w5.frozen? ⟨w.heap.size + 1 + 1, 1, none⟩ = false := frozen_of_row _ _ 1 _ _ hV5
                    replace hL6 := Lib.hid hL6
                    replace hV5 := Lib.hid hV5
                    clear hL4 hL5 b5 v0 v1 hV
                    go_wp2_with fail
                    go_roundg (n - (k + 1))
                    case measure => omega
                    case rel => exact ⟨k + 1, by omega, rfl, rfl, hL6.out⟩
              | true =>
                obtain ⟨tv, pv, mv, g2, g3⟩ := f3 hvk
                have hck : c k = true := by rw [hc.out k hlt, hvk]; simp
                have x2 : wr.cell? ⟨D, k * 4 + 2, none⟩ = some (.iface tv pv) := g2 ▸ hf.cell (i := k * 4 + 2) (by omega)
                have x3 : wr.cell? ⟨D, k * 4 + 3, none⟩ = some (.int .i32 mv) := g3 ▸ hf.cell (i := k * 4 + 3) (by omega)
                clear f0 f1 f2 f3 g2 g3 hcell hf
                obtain ⟨wA, hwA⟩ : ∃ x, wr.alloc (.cells #[.iface 62 (.pointer (some ⟨b k, 0, none⟩)), .int .i32 (lc k), .iface tv pv, .int .i32 mv] 74) = x := ⟨_, rfl⟩
                have bA : Below wr.heap.size wr wA := hwA ▸ (Below.refl _ _).alloc (Nat.le_refl _) _
                have sA : wA.heap.size = wr.heap.size + 1 := by rw [← hwA]; simp
                have hLA := hL.below hBw bA
                have hbk := (bA.block _ (Array.getElem?_eq_some_iff.1 (hDk.blk k hlt)).1).trans (hDk.blk k hlt)
                have hE0 : wA.heap[wr.heap.size]? = some (.cells #[.iface 62 (.pointer (some ⟨b k, 0, none⟩)), .int .i32 (lc k), .iface tv pv, .int .i32 mv] 74 (0, 0)) := by rw [← hwA]; exact heap_alloc_new _ _
                have q0 : wA.cell? ⟨wr.heap.size, 0, none⟩ = some (.iface 62 (.pointer (some ⟨b k, 0, none⟩))) := cell_of_row _ _ 0 _ _ _ hE0
                have q1 : wA.cell? ⟨wr.heap.size, 1, none⟩ = some (.int .i32 (lc k)) := cell_of_row _ _ 1 _ _ _ hE0
                have lE : wr.heap.size < wA.heap.size := by omega
                obtain ⟨FA, vA, hpA⟩ := hLA.pa
                have cC := convert B P g n w.heap.size (b k) FA (cnt r k) vA k (vars lc r k) (r k) (lc k) wA hpA (hr.out k hlt) hn (by omega) (Nat.le_trans (cnt_le r k (r k)) (by omega)) (cell_of_row _ _ 0 _ _ _ hLA.z) (by omega) (by omega) ⟨_, _, hLA.z⟩ hbk
                have hwrs := hL.ko.bel.size
                replace hDk := Lib.hid hDk
                replace hL := Lib.hid hL
                replace bA := Lib.hid bA
                replace sA := Lib.hid sA
                replace hLA := Lib.hid hLA
                replace hE0 := Lib.hid hE0
                replace cC := Lib.hid cC
                clear hbk hpA
                replace hwA := Lib.hid hwA
                go_upto_region 13 with fail
                rw [hwA.out]
                go_wp2_with fail
                go_at_call 17
                refine cC.out.mono ?_
                rintro e w3 hC3
                have hC4 := hC3
                obtain ⟨_, _, _, _, _, _, hK3⟩ := hC4
                obtain ⟨⟨t, p, rfl⟩, hL3⟩ := hLA.out.clo lPw lgw hC3
                have hE3 : w3.heap[wr.heap.size]? = some (.cells #[.iface 62 (.pointer (some ⟨b k, 0, none⟩)), .int .i32 (lc k), .iface tv pv, .int .i32 mv] 74 (0, 0)) := (hK3.kp _ _ _ _ hE0.out (by decide) (by omega) (by omega)).trans hE0.out
                have lE3 := (Array.getElem?_eq_some_iff.1 hE3).1
                generalize hw4 : w3.alloc (.cells #[.iface t p, .int .i32 (lc k)] 72) = w4
                have b4 : Below w3.heap.size w3 w4 := hw4 ▸ (Below.refl _ _).alloc (Nat.le_refl _) _
                have hE4 := (b4.block _ lE3).trans hE3
                have hF4 : w4.heap[w3.heap.size]? = some (.cells #[.iface t p, .int .i32 (lc k)] 72 (0, 0)) := by rw [← hw4]; exact heap_alloc_new _ _
                have hL4 := hL3.below hBw b4
                have p2 : w4.cell? ⟨wr.heap.size, 2, none⟩ = some (.iface tv pv) := cell_of_row _ _ 2 _ _ _ hE4
                have p3 : w4.cell? ⟨wr.heap.size, 3, none⟩ = some (.int .i32 mv) := cell_of_row _ _ 3 _ _ _ hE4
                have r0 : w4.cell? ⟨w3.heap.size, 0, none⟩ = some (.iface t p) := cell_of_row _ _ 0 _ _ _ hF4
                have r1 : w4.cell? ⟨w3.heap.size, 1, none⟩ = some (.int .i32 (lc k)) := cell_of_row _ _ 1 _ _ _ hF4
                have e2 : w3.cell? ⟨wr.heap.size, 2, none⟩ = some (.iface tv pv) := cell_of_row _ _ 2 _ _ _ hE3
                have hVn : w.heap.size + 1 + 1 ≠ w3.heap.size := by
                  obtain ⟨_, _, ha, _⟩ := hL3.vv
                  have := (Array.getElem?_eq_some_iff.1 ha).1
                  omega
                have hVe : w.heap.size + 1 + 1 ≠ wr.heap.size := by
                  obtain ⟨_, _, ha, _⟩ := hL.out.vv
                  have := (Array.getElem?_eq_some_iff.1 ha).1
                  omega
                clear hC3 cC hK3 hL3 hE3 q0 q1
                replace hE4 := Lib.hid hE4
                replace hF4 := Lib.hid hF4
                replace b4 := Lib.hid b4
                replace hVn := Lib.hid hVn
                replace hVe := Lib.hid hVe
                obtain ⟨a0, l0, hV, hs⟩ := hL4.vv
                rcases hs with ⟨hfn0, rfl, rfl⟩ | ⟨i0, t0, p0, hfi0, rfl, rfl⟩
                · go_upto_region 15 with fail
                  replace hw4 := Lib.hid hw4
                  have hS4 : SE wr.heap.size w3.heap.size t p (lc k) tv pv mv w4.drew := ⟨r0, r1, p2, p3⟩
                  have hL4d := hL4.drew
                  have hV4d : w4.drew.heap[w.heap.size + 1 + 1]? = some (.cells #[.nilIface, .int .i32 0] 72 (0, 0)) := hV
                  replace hS4 := Lib.hid hS4
                  replace hL4d := Lib.hid hL4d
                  replace hV4d := Lib.hid hV4d
                  clear hL4 p2 p3 r0 r1 e2 hV
                  refine wp_region_held_drew (S := SE wr.heap.size w3.heap.size t p (lc k) tv pv mv) (by kernel_rfl) hS4.out (fun hS => ?_)
                  refine Take.takeD (i := 1) (v := .agg #[.iface t p, .int .i32 (lc k)]) (some 77) rfl rfl (by kernel_rfl) (by kernel_rfl) (by kernel_rfl) (fun _ _ _ h => h) (Or.inl ⟨by rfl, fun w9 hw9 => by (go_simp; (first | done | rfl | (simp [hw9.c1, hw9.c2, hw9.c3, hw9.c4]; done)))⟩) hS ?_
                  try simp only [Act.put, List.setIfInBounds_toArray, List.set_cons_zero, List.set_cons_succ]
                  refine Take.takeD (i := 2) (v := .pointer (some ⟨wr.heap.size, 2, none⟩)) (some 78) rfl rfl (by kernel_rfl) (by kernel_rfl) (by kernel_rfl) (fun _ _ _ h => h) (Or.inl ⟨by rfl, fun w9 hw9 => by (go_simp; (first | done | rfl | (simp [hw9.c1, hw9.c2, hw9.c3, hw9.c4]; done)))⟩) hS ?_
                  try simp only [Act.put, List.setIfInBounds_toArray, List.set_cons_zero, List.set_cons_succ]
                  refine Take.takeD (i := 3) (v := .agg #[.iface tv pv, .int .i32 mv]) (some 79) rfl rfl (by kernel_rfl) (by kernel_rfl) (by kernel_rfl) (fun _ _ _ h => h) (Or.inl ⟨by rfl, fun w9 hw9 => by (go_simp; (first | done | rfl | (simp [hw9.c1, hw9.c2, hw9.c3, hw9.c4]; done)))⟩) hS ?_
                  try simp only [Act.put, List.setIfInBounds_toArray, List.set_cons_zero, List.set_cons_succ]
                  clear hS
                  refine wpAnyH_ready (rs := [0, 4]) (by kernel_rfl) (by decide) ?_
                  refine AllReadyH.cons rfl (fun K' hK => ?_) ?_
                  · have v0 : w4.drew.cell? ⟨w.heap.size + 1 + 1, 0, none⟩ = some (.nilIface) := cell_of_row _ _ 0 _ _ _ hV4d.out
                    have v1 : w4.drew.cell? ⟨w.heap.size + 1 + 1, 1, none⟩ = some (.int .i32 0) := cell_of_row _ _ 1 _ _ _ hV4d.out
                    rw [if_pos (by kernel_rfl)]
                    go_wp2_with fail
                    refine hK.out _ _ hS4.out (fun _ => ?_)
                    clear hK v0 v1
                    refine wpAnyH_ready (rs := [4]) (by kernel_rfl) (by decide) ?_
                    refine AllReadyH.cons rfl (fun K' hK => ?_) AllReadyH.nil
                    rw [if_pos (by kernel_rfl)]
                    go_wp2_with fail
                    go_at_call 19
                    refine (assign _ _ _ _ _).mono ?_
                    rintro e w5 ⟨t5, p5, rfl, b5⟩
                    have hS5 := Lib.hid (hS4.out.below b5)
                    have hL5 := Lib.hid (hL4d.out.below hBw b5)
                    have hV5 := Lib.hid ((b5.block _ (Array.getElem?_eq_some_iff.1 hV4d.out).1).trans hV4d.out)
                    clear b5
                    simp only []
                    refine hK.out _ _ hS5.out (fun _ => ?_)
                    clear hK
                    refine wpAnyH_ready (rs := [5]) (by kernel_rfl) (by decide) ?_
                    refine AllReadyH.cons rfl (fun K' hK => ?_) AllReadyH.nil
                    rw [if_pos (by kernel_rfl)]
                    go_wp2_with fail
                    go_at_call 18
                    refine (join0 _ _ _ _ _).mono ?_
                    rintro e w6 ⟨t6, p6, rfl, b6⟩
                    have hst : St c lc (k + 1) (.iface t6 p6) (lc k) := .inr ⟨k, t6, p6, fst_step_hit hfn0 hck, rfl, rfl⟩
                    have hS6 := hS5.out.below b6
                    have hL6a := hL5.out.below hBw b6
                    have hV6 := (b6.block _ (Array.getElem?_eq_some_iff.1 hV5.out).1).trans hV5.out
                    have hL6 := Lib.hid (hL6a.put hBw hst)
                    have hS7 : Hid (SE wr.heap.size w3.heap.size t p (lc k) tv pv mv ((w6.setCell ⟨w.heap.size + 1 + 1, 0, none⟩ (.iface t6 p6)).setCell ⟨w.heap.size + 1 + 1, 1, none⟩ (.int .i32 (lc k)))) := Lib.hid ((hS6.put (fun e => hVe.out e.symm) (fun e => hVn.out e.symm)).put (fun e => hVe.out e.symm) (fun e => hVn.out e.symm))
                    have x0 : w6.cell? ⟨w.heap.size + 1 + 1, 0, none⟩ = some (.nilIface) := cell_of_row _ _ 0 _ _ _ hV6
                    have x1 : w6.cell? ⟨w.heap.size + 1 + 1, 1, none⟩ = some (.int .i32 0) := cell_of_row _ _ 1 _ _ _ hV6
                    have x2 : w6.frozen? ⟨w.heap.size + 1 + 1, 0, none⟩ = false := frozen_of_row _ _ 0 _ _ hV6
                    have x3 : w6.frozen? ⟨w.heap.size + 1 + 1, 1, none⟩ = false := frozen_of_row _ _ 1 _ _ hV6
                    clear b6 hL6a
                    replace hV6 := Lib.hid hV6
                    simp only []
                    refine hK.out _ _ hS6 (fun _ => ?_)
                    clear hK hS6
                    refine wpAnyH_ready (rs := [6]) (by kernel_rfl) (by decide) ?_
                    refine AllReadyH.cons rfl (fun K' hK => ?_) AllReadyH.nil
                    rw [if_pos (by kernel_rfl)]
                    go_wp2_with fail
                    refine hK.out _ _ hS7.out (fun _ => ?_)
                    clear hK x0 x1 x2 x3
                    refine wpAnyH_done (by kernel_rfl) ?_ _
                    go_wp2_with fail
                    go_roundg (n - (k + 1))
                    case measure => omega
                    case rel => exact ⟨k + 1, by omega, rfl, rfl, hL6.out⟩
                  · refine AllReadyH.cons rfl (fun K' hK => ?_) AllReadyH.nil
                    rw [if_pos (by kernel_rfl)]
                    go_wp2_with fail
                    go_at_call 19
                    refine (assign _ _ _ _ _).mono ?_
                    rintro e w5 ⟨t5, p5, rfl, b5⟩
                    have hS5 := Lib.hid (hS4.out.below b5)
                    have hL5 := Lib.hid (hL4d.out.below hBw b5)
                    have hV5 := Lib.hid ((b5.block _ (Array.getElem?_eq_some_iff.1 hV4d.out).1).trans hV4d.out)
                    clear b5
                    simp only []
                    refine hK.out _ _ hS5.out (fun _ => ?_)
                    clear hK
                    refine wpAnyH_ready (rs := [0]) (by kernel_rfl) (by decide) ?_
                    refine AllReadyH.cons rfl (fun K' hK => ?_) AllReadyH.nil
                    have v0 : w5.cell? ⟨w.heap.size + 1 + 1, 0, none⟩ = some (.nilIface) := cell_of_row _ _ 0 _ _ _ hV5.out
                    have v1 : w5.cell? ⟨w.heap.size + 1 + 1, 1, none⟩ = some (.int .i32 0) := cell_of_row _ _ 1 _ _ _ hV5.out
                    rw [if_pos (by kernel_rfl)]
                    go_wp2_with fail
                    refine hK.out _ _ hS5.out (fun _ => ?_)
                    clear hK v0 v1
                    refine wpAnyH_ready (rs := [5]) (by kernel_rfl) (by decide) ?_
                    refine AllReadyH.cons rfl (fun K' hK => ?_) AllReadyH.nil
                    rw [if_pos (by kernel_rfl)]
                    go_wp2_with fail
                    go_at_call 18
                    refine (join0 _ _ _ _ _).mono ?_
                    rintro e w6 ⟨t6, p6, rfl, b6⟩
                    have hst : St c lc (k + 1) (.iface t6 p6) (lc k) := .inr ⟨k, t6, p6, fst_step_hit hfn0 hck, rfl, rfl⟩
                    have hS6 := hS5.out.below b6
                    have hL6a := hL5.out.below hBw b6
                    have hV6 := (b6.block _ (Array.getElem?_eq_some_iff.1 hV5.out).1).trans hV5.out
                    have hL6 := Lib.hid (hL6a.put hBw hst)
                    have hS7 : Hid (SE wr.heap.size w3.heap.size t p (lc k) tv pv mv ((w6.setCell ⟨w.heap.size + 1 + 1, 0, none⟩ (.iface t6 p6)).setCell ⟨w.heap.size + 1 + 1, 1, none⟩ (.int .i32 (lc k)))) := Lib.hid ((hS6.put (fun e => hVe.out e.symm) (fun e => hVn.out e.symm)).put (fun e => hVe.out e.symm) (fun e => hVn.out e.symm))
                    have x0 : w6.cell? ⟨w.heap.size + 1 + 1, 0, none⟩ = some (.nilIface) := cell_of_row _ _ 0 _ _ _ hV6
                    have x1 : w6.cell? ⟨w.heap.size + 1 + 1, 1, none⟩ = some (.int .i32 0) := cell_of_row _ _ 1 _ _ _ hV6
                    have x2 : w6.frozen? ⟨w.heap.size + 1 + 1, 0, none⟩ = false := frozen_of_row _ _ 0 _ _ hV6
                    have x3 : w6.frozen? ⟨w.heap.size + 1 + 1, 1, none⟩ = false := frozen_of_row _ _ 1 _ _ hV6
                    clear b6 hL6a
                    replace hV6 := Lib.hid hV6
                    simp only []
                    refine hK.out _ _ hS6 (fun _ => ?_)
                    clear hK hS6
                    refine wpAnyH_ready (rs := [6]) (by kernel_rfl) (by decide) ?_
                    refine AllReadyH.cons rfl (fun K' hK => ?_) AllReadyH.nil
                    rw [if_pos (by kernel_rfl)]
                    go_wp2_with fail
                    refine hK.out _ _ hS7.out (fun _ => ?_)
                    clear hK x0 x1 x2 x3
                    refine wpAnyH_done (by kernel_rfl) ?_ _
                    go_wp2_with fail
                    go_roundg (n - (k + 1))
                    case measure => omega
                    case rel => exact ⟨k + 1, by omega, rfl, rfl, hL6.out⟩
                · go_upto_region 15 with fail
                  replace hw4 := Lib.hid hw4
                  have hS4 : SE wr.heap.size w3.heap.size t p (lc k) tv pv mv w4.drew := ⟨r0, r1, p2, p3⟩
                  have hL4d := hL4.drew
                  have hV4d : w4.drew.heap[w.heap.size + 1 + 1]? = some (.cells #[.iface t0 p0, .int .i32 (lc i0)] 72 (0, 0)) := hV
                  replace hS4 := Lib.hid hS4
                  replace hL4d := Lib.hid hL4d
                  replace hV4d := Lib.hid hV4d
                  clear hL4 p2 p3 r0 r1 e2 hV
                  refine wp_region_held_drew (S := SE wr.heap.size w3.heap.size t p (lc k) tv pv mv) (by kernel_rfl) hS4.out (fun hS => ?_)
                  refine Take.takeD (i := 1) (v := .agg #[.iface t p, .int .i32 (lc k)]) (some 77) rfl rfl (by kernel_rfl) (by kernel_rfl) (by kernel_rfl) (fun _ _ _ h => h) (Or.inl ⟨by rfl, fun w9 hw9 => by (go_simp; (first | done | rfl | (simp [hw9.c1, hw9.c2, hw9.c3, hw9.c4]; done)))⟩) hS ?_
                  try simp only [Act.put, List.setIfInBounds_toArray, List.set_cons_zero, List.set_cons_succ]
                  refine Take.takeD (i := 2) (v := .pointer (some ⟨wr.heap.size, 2, none⟩)) (some 78) rfl rfl (by kernel_rfl) (by kernel_rfl) (by kernel_rfl) (fun _ _ _ h => h) (Or.inl ⟨by rfl, fun w9 hw9 => by (go_simp; (first | done | rfl | (simp [hw9.c1, hw9.c2, hw9.c3, hw9.c4]; done)))⟩) hS ?_
                  try simp only [Act.put, List.setIfInBounds_toArray, List.set_cons_zero, List.set_cons_succ]
                  refine Take.takeD (i := 3) (v := .agg #[.iface tv pv, .int .i32 mv]) (some 79) rfl rfl (by kernel_rfl) (by kernel_rfl) (by kernel_rfl) (fun _ _ _ h => h) (Or.inl ⟨by rfl, fun w9 hw9 => by (go_simp; (first | done | rfl | (simp [hw9.c1, hw9.c2, hw9.c3, hw9.c4]; done)))⟩) hS ?_
                  try simp only [Act.put, List.setIfInBounds_toArray, List.set_cons_zero, List.set_cons_succ]
                  clear hS
                  refine wpAnyH_ready (rs := [0, 4]) (by kernel_rfl) (by decide) ?_
                  refine AllReadyH.cons rfl (fun K' hK => ?_) ?_
                  · have v0 : w4.drew.cell? ⟨w.heap.size + 1 + 1, 0, none⟩ = some (.iface t0 p0) := cell_of_row _ _ 0 _ _ _ hV4d.out
                    have v1 : w4.drew.cell? ⟨w.heap.size + 1 + 1, 1, none⟩ = some (.int .i32 (lc i0)) := cell_of_row _ _ 1 _ _ _ hV4d.out
                    rw [if_pos (by kernel_rfl)]
                    go_wp2_with fail
                    refine hK.out _ _ hS4.out (fun _ => ?_)
                    clear hK v0 v1
                    refine wpAnyH_ready (rs := [4]) (by kernel_rfl) (by decide) ?_
                    refine AllReadyH.cons rfl (fun K' hK => ?_) AllReadyH.nil
                    rw [if_pos (by kernel_rfl)]
                    go_wp2_with fail
                    go_at_call 19
                    refine (assign _ _ _ _ _).mono ?_
                    rintro e w5 ⟨t5, p5, rfl, b5⟩
                    have hS5 := Lib.hid (hS4.out.below b5)
                    have hL5 := Lib.hid (hL4d.out.below hBw b5)
                    have hV5 := Lib.hid ((b5.block _ (Array.getElem?_eq_some_iff.1 hV4d.out).1).trans hV4d.out)
                    clear b5
                    simp only []
                    refine hK.out _ _ hS5.out (fun _ => ?_)
                    clear hK
                    refine wpAnyH_ready (rs := [5]) (by kernel_rfl) (by decide) ?_
                    refine AllReadyH.cons rfl (fun K' hK => ?_) AllReadyH.nil
                    rw [if_pos (by kernel_rfl)]
                    go_wp2_with fail
                    go_at_call 18
                    refine (join1 _ _ _ _ _ _ _).mono ?_
                    rintro e w6 ⟨t6, p6, rfl, b6⟩
                    have hst : St c lc (k + 1) (.iface t6 p6) (lc i0) := .inr ⟨i0, t6, p6, fst_step_some hfi0, rfl, rfl⟩
                    have hS6 := hS5.out.below b6
                    have hL6a := hL5.out.below hBw b6
                    have hV6 := (b6.block _ (Array.getElem?_eq_some_iff.1 hV5.out).1).trans hV5.out
                    have hL6 := Lib.hid (hL6a.put hBw hst)
                    have hS7 : Hid (SE wr.heap.size w3.heap.size t p (lc k) tv pv mv ((w6.setCell ⟨w.heap.size + 1 + 1, 0, none⟩ (.iface t6 p6)).setCell ⟨w.heap.size + 1 + 1, 1, none⟩ (.int .i32 (lc i0)))) := Lib.hid ((hS6.put (fun e => hVe.out e.symm) (fun e => hVn.out e.symm)).put (fun e => hVe.out e.symm) (fun e => hVn.out e.symm))
                    have x0 : w6.cell? ⟨w.heap.size + 1 + 1, 0, none⟩ = some (.iface t0 p0) := cell_of_row _ _ 0 _ _ _ hV6
                    have x1 : w6.cell? ⟨w.heap.size + 1 + 1, 1, none⟩ = some (.int .i32 (lc i0)) := cell_of_row _ _ 1 _ _ _ hV6
                    have x2 : w6.frozen? ⟨w.heap.size + 1 + 1, 0, none⟩ = false := frozen_of_row _ _ 0 _ _ hV6
                    have x3 : w6.frozen? ⟨w.heap.size + 1 + 1, 1, none⟩ = false := frozen_of_row _ _ 1 _ _ hV6
                    clear b6 hL6a
                    replace hV6 := Lib.hid hV6
                    simp only []
                    refine hK.out _ _ hS6 (fun _ => ?_)
                    clear hK hS6
                    refine wpAnyH_ready (rs := [6]) (by kernel_rfl) (by decide) ?_
                    refine AllReadyH.cons rfl (fun K' hK => ?_) AllReadyH.nil
                    rw [if_pos (by kernel_rfl)]
                    go_wp2_with fail
                    refine hK.out _ _ hS7.out (fun _ => ?_)
                    clear hK x0 x1 x2 x3
                    refine wpAnyH_done (by kernel_rfl) ?_ _
                    go_wp2_with fail
                    go_roundg (n - (k + 1))
                    case measure => omega
                    case rel => exact ⟨k + 1, by omega, rfl, rfl, hL6.out⟩
                  · refine AllReadyH.cons rfl (fun K' hK => ?_) AllReadyH.nil
                    rw [if_pos (by kernel_rfl)]
                    go_wp2_with fail
                    go_at_call 19
                    refine (assign _ _ _ _ _).mono ?_
                    rintro e w5 ⟨t5, p5, rfl, b5⟩
                    have hS5 := Lib.hid (hS4.out.below b5)
                    have hL5 := Lib.hid (hL4d.out.below hBw b5)
                    have hV5 := Lib.hid ((b5.block _ (Array.getElem?_eq_some_iff.1 hV4d.out).1).trans hV4d.out)
                    clear b5
                    simp only []
                    refine hK.out _ _ hS5.out (fun _ => ?_)
                    clear hK
                    refine wpAnyH_ready (rs := [0]) (by kernel_rfl) (by decide) ?_
                    refine AllReadyH.cons rfl (fun K' hK => ?_) AllReadyH.nil
                    have v0 : w5.cell? ⟨w.heap.size + 1 + 1, 0, none⟩ = some (.iface t0 p0) := cell_of_row _ _ 0 _ _ _ hV5.out
                    have v1 : w5.cell? ⟨w.heap.size + 1 + 1, 1, none⟩ = some (.int .i32 (lc i0)) := cell_of_row _ _ 1 _ _ _ hV5.out
                    rw [if_pos (by kernel_rfl)]
                    go_wp2_with fail
                    refine hK.out _ _ hS5.out (fun _ => ?_)
                    clear hK v0 v1
                    refine wpAnyH_ready (rs := [5]) (by kernel_rfl) (by decide) ?_
                    refine AllReadyH.cons rfl (fun K' hK => ?_) AllReadyH.nil
                    rw [if_pos (by kernel_rfl)]
                    go_wp2_with fail
                    go_at_call 18
                    refine (join1 _ _ _ _ _ _ _).mono ?_
                    rintro e w6 ⟨t6, p6, rfl, b6⟩
                    have hst : St c lc (k + 1) (.iface t6 p6) (lc i0) := .inr ⟨i0, t6, p6, fst_step_some hfi0, rfl, rfl⟩
                    have hS6 := hS5.out.below b6
                    have hL6a := hL5.out.below hBw b6
                    have hV6 := (b6.block _ (Array.getElem?_eq_some_iff.1 hV5.out).1).trans hV5.out
                    have hL6 := Lib.hid (hL6a.put hBw hst)
                    have hS7 : Hid (SE wr.heap.size w3.heap.size t p (lc k) tv pv mv ((w6.setCell ⟨w.heap.size + 1 + 1, 0, none⟩ (.iface t6 p6)).setCell ⟨w.heap.size + 1 + 1, 1, none⟩ (.int .i32 (lc i0)))) := Lib.hid ((hS6.put (fun e => hVe.out e.symm) (fun e => hVn.out e.symm)).put (fun e => hVe.out e.symm) (fun e => hVn.out e.symm))
                    have x0 : w6.cell? ⟨w.heap.size + 1 + 1, 0, none⟩ = some (.iface t0 p0) := cell_of_row _ _ 0 _ _ _ hV6
                    have x1 : w6.cell? ⟨w.heap.size + 1 + 1, 1, none⟩ = some (.int .i32 (lc i0)) := cell_of_row _ _ 1 _ _ _ hV6
                    have x2 : w6.frozen? ⟨w.heap.size + 1 + 1, 0, none⟩ = false := frozen_of_row _ _ 0 _ _ hV6
                    have x3 : w6.frozen? ⟨w.heap.size + 1 + 1, 1, none⟩ = false := frozen_of_row _ _ 1 _ _ hV6
                    clear b6 hL6a
                    replace hV6 := Lib.hid hV6
                    simp only []
                    refine hK.out _ _ hS6 (fun _ => ?_)
                    clear hK hS6
                    refine wpAnyH_ready (rs := [6]) (by kernel_rfl) (by decide) ?_
                    refine AllReadyH.cons rfl (fun K' hK => ?_) AllReadyH.nil
                    rw [if_pos (by kernel_rfl)]
                    go_wp2_with fail
                    refine hK.out _ _ hS7.out (fun _ => ?_)
                    clear hK x0 x1 x2 x3
                    refine wpAnyH_done (by kernel_rfl) ?_ _
                    go_wp2_with fail
                    go_roundg (n - (k + 1))
                    case measure => omega
                    case rel => exact ⟨k + 1, by omega, rfl, rfl, hL6.out⟩
            · have hkn : k = n := by omega
              subst hkn
              obtain ⟨a0, l0, hV, hs⟩ := hL.vv
              have z0 := cell_of_row wr _ 0 _ _ _ hL.rr
              have z1 := cell_of_row wr _ 1 _ _ _ hL.rr
              have z2 := frozen_of_row wr _ 0 _ _ hL.rr
              have z3 := frozen_of_row wr _ 1 _ _ hL.rr
              have z4 : wr.cell? ⟨w.heap.size + 1, 0, none⟩ = some .nilIface := z0
              have z5 : wr.cell? ⟨w.heap.size + 1, 1, none⟩ = some (.int .i32 0) := z1
              have lR := (Array.getElem?_eq_some_iff.1 hL.rr).1
              have lV := (Array.getElem?_eq_some_iff.1 hV).1
              clear z0 z1
              have hok : Okay m d ln fn := ⟨by
                rcases hm.out with h1 | h1 | h1
                · exact absurd (.inl (by omega)) hT2.out
                · exact absurd (.inl (by omega)) hT2.out
                · exact h1, fun h1 => hT2.out (.inr h1), fun i hi => hfn2.out i hi⟩
              replace hok := Lib.hid hok
              rcases hs with ⟨hfn0, rfl, rfl⟩ | ⟨i0, t0, p0, hfi0, rfl, rfl⟩
              · have v0 : wr.cell? ⟨w.heap.size + 1 + 1, 0, none⟩ = some .nilIface := cell_of_row _ _ 0 _ _ _ hV
                have hF := Lib.hid (hL.fin hBw .nilIface (.int .i32 0))
                replace hL := Lib.hid hL
                replace hV := Lib.hid hV
                go_wp2_with fail
                obtain ⟨g1, g2, g3⟩ := hF.out
                exact bodyPost_ret (v := .tuple #[.agg #[.nilIface, .int .i32 0], .bool true]) (res2 rfl _ _ (w.heap.size + 1) 35 #[.nilIface, .int .i32 0] (0, 0) _ (.bool true) (by kernel_rfl) (by kernel_rfl) g3 Try.underlying35 rfl (by kernel_rfl)) rfl (.inr ⟨hok.out, g1, g2, .inl ⟨hfn0, rfl⟩⟩)
              · have v0 : wr.cell? ⟨w.heap.size + 1 + 1, 0, none⟩ = some (.iface t0 p0) := cell_of_row _ _ 0 _ _ _ hV
                have v1 : wr.cell? ⟨w.heap.size + 1 + 1, 1, none⟩ = some (.int .i32 (lc i0)) := cell_of_row _ _ 1 _ _ _ hV
                have hF := Lib.hid (hL.finA hBw (.iface 205 (.pointer (some ⟨wr.heap.size, 0, none⟩))) (.int .i32 (lc i0)))
                replace hL := Lib.hid hL
                replace hV := Lib.hid hV
                replace hfi0 := Lib.hid hfi0
                go_wp2_with fail
                obtain ⟨g1, g2, g3⟩ := hF.out _
                exact bodyPost_ret (v := .tuple #[.agg #[.iface 205 (.pointer (some ⟨wr.heap.size, 0, none⟩)), .int .i32 (lc i0)], .bool true]) (res2 rfl _ _ (w.heap.size + 1) 35 #[.iface 205 (.pointer (some ⟨wr.heap.size, 0, none⟩)), .int .i32 (lc i0)] (0, 0) _ (.bool true) (by kernel_rfl) (by kernel_rfl) g3 Try.underlying35 rfl (by kernel_rfl)) rfl (.inr ⟨hok.out, g1, g2, .inr ⟨i0, _, _, hfi0.out, rfl⟩⟩)
        · obtain ⟨i, rfl⟩ : ∃ i, gk = i + 1 := ⟨gk - 1, by omega⟩
          have kp := hC2.out.par i (by omega)
          have hq1 := neq_of (hC2.out.eql hi h0)
          simp only [Bool.not_false] at hq1
          cases hf : fn i with
          | true =>
            have kc2 : wr.cell? ⟨S (i + 1), 15, none⟩ = some (.int .u8 8) := by rw [kc, kd, hf]; rfl
            replace hf := Lib.hid hf
            replace hfn := Lib.hid hfn
            clear kc
            go_wp2_with fail
            go_at_call 14
            refine (stops _ _).mono ?_
            rintro e w9 ⟨rfl, rfl⟩
            have y4 : w9.cell? ⟨w.heap.size + 1, 0, none⟩ = some .nilIface := cell_of_row _ _ 0 _ _ _ hb1.out
            have y5 : w9.cell? ⟨w.heap.size + 1, 1, none⟩ = some (.int .i32 0) := cell_of_row _ _ 1 _ _ _ hb1.out
            have y6 : w9.frozen? ⟨w.heap.size + 1, 0, none⟩ = false := frozen_of_row _ _ 0 _ _ hb1.out
            have y7 : w9.frozen? ⟨w.heap.size + 1, 1, none⟩ = false := frozen_of_row _ _ 1 _ _ hb1.out
            go_wp2_with fail
            obtain ⟨f1, f2⟩ := refu_fin b0.out hb1.out
            refine bodyPost_ret (v := .tuple #[.agg #[.nilIface, .int .i32 0], .bool false]) (res2 rfl _ _ (w.heap.size + 1) 35 #[.nilIface, .int .i32 0] (0, 0) _ (.bool false) (by kernel_rfl) (by kernel_rfl) f1 Try.underlying35 rfl (by kernel_rfl)) rfl (.inl ⟨fun ho => ?_, rfl, f2⟩)
            have := ho.2.2 i (by omega)
            rw [hf.out] at this
            cases this
          | false =>
            have kc2 : wr.cell? ⟨S (i + 1), 15, none⟩ = some (.int .u8 0) := by rw [kc, kd, hf]; rfl
            replace hf := Lib.hid hf
            replace hfn := Lib.hid hfn
            clear kc
            go_wp2_with fail
            go_at_call 14
            refine (stops _ _).mono ?_
            rintro e w9 ⟨rfl, rfl⟩
            go_wp2_with fail
            go_roundg i
            case measure => omega
            case rel =>
              refine ⟨i, by omega, rfl, rfl, rfl, fun j h1 h2 => ?_⟩
              rcases Nat.eq_or_lt_of_le h1 with g1 | g1
              · rw [← g1]; exact hf.out
              · exact hfn.out j g1 h2
end Go.Proofs.Ytdiedidmjpihjaa.Rl
