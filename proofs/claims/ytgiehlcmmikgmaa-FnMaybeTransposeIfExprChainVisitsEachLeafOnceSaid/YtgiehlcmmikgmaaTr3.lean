/-
  zzBuildChain_b3: the chain in memory. Condition: at most 4096 nodes.
-/
import Derived.Test.YtgiehlcmmikgmaaTr2
import Derived.Test.YtgiehlcmmikgmaaBools
namespace Go.Proofs.Ytgiehlcmmikgmaa.Tr
open Go.RowKit Go.ChangeShapes Go.WideShapes Go.ChangeAt Go.Proofs.Ytgiehlcmmikgmaa.Ints

def Chn.startL (c : Chn) (r : Nat) : Int := if r < c.n then c.lc (3 * r + 2) else c.lc (3 * c.n)
/-- The chain while it is built: the nodes from r on are there. -/
structure Bld (c : Chn) (w wr : World) (X G R r : Nat) : Prop where
  node : ∀ j, r ≤ j → j < c.n → c.Node wr j 0
  inj : ∀ i j, r ≤ i → r ≤ j → i < c.n → j < c.n → c.I i = c.I j → i = j
  box : wr.rowIs X 41 2 (fun j => (#[c.startV r, .int .i32 (c.startL r)] : Array Value).getD j undef)
  ifs : wr.rowIs G 94 c.n (fun j => if r ≤ j then .pointer (some ⟨c.I j, 0, none⟩) else .pointer none)
  res : wr.rowIs R 41 2 (fun j => (#[.nilIface, .int .i32 0] : Array Value).getD j undef)
  below : Below w.heap.size w wr
  ge : ∀ j, r ≤ j → j < c.n → w.heap.size ≤ c.I j
theorem infoPtr : (Try.prog.info? 94).map (fun i => (i.zero, i.size, i.bytes)) = some (some (.pointer none), 1, 8) := by kernel_rfl
theorem locI (o : Option Addr) (m cap : Nat) (k : Int) (kn : Nat) (hkk : k = (kn : Int)) (g : Nat → Int) (w : World) (hI : IntsAt .i32 w o m g) (hm2 : m ≤ maxLen) (hk : kn ≤ 65536) : Calls Try.prog 23 #[.slice o m cap, .int .i64 k] w fun e w' => e = .returned (.int .i32 (lc m g kn)) ∧ w = w' := by
  subst hkk; exact loc o m cap kn g w hI hm2 hk
theorem four {wr : World} {G q n : Nat} {F : Nat → Value} {v : Value} {o1 o2 o3 : Obj} {a b c d e f : Value} (hG : wr.rowIs G 94 n F) :
    (((((wr.setCell ⟨G, q, none⟩ v).alloc o1).alloc o2).alloc o3).alloc (.cells #[a, b, c, d, e, f] 99)).rowIs (wr.heap.size + 1 + 1 + 1) 99 6 (fun j => (#[a, b, c, d, e, f] : Array Value).getD j undef) ∧
    (((((wr.setCell ⟨G, q, none⟩ v).alloc o1).alloc o2).alloc o3).alloc (.cells #[a, b, c, d, e, f] 99)).rowIs G 94 n (fun k => if k = q then v else F k) ∧
    (∀ k, k < wr.heap.size → k ≠ G → (((((wr.setCell ⟨G, q, none⟩ v).alloc o1).alloc o2).alloc o3).alloc (.cells #[a, b, c, d, e, f] 99)).heap[k]? = wr.heap[k]?) ∧
    Below G wr (((((wr.setCell ⟨G, q, none⟩ v).alloc o1).alloc o2).alloc o3).alloc (.cells #[a, b, c, d, e, f] 99)) := by
  have hGl := hG.lt
  refine ⟨?_, ((((hG.set q v).alloc _).alloc _).alloc _).alloc _, fun k hk hn => ?_, ?_⟩
  · have h := World.rowIs_alloc ((((wr.setCell ⟨G, q, none⟩ v).alloc o1).alloc o2).alloc o3) #[a, b, c, d, e, f] 99 (fun j => (#[a, b, c, d, e, f] : Array Value).getD j undef) (fun i hi => by
      match i, hi with
      | 0, _ | 1, _ | 2, _ | 3, _ | 4, _ | 5, _ => rfl)
    simpa using h
  · refine (Go.Deep.blk_alloc_lt _ _ k (by simp; omega)).trans ((Go.Deep.blk_alloc_lt _ _ k (by simp; omega)).trans ((Go.Deep.blk_alloc_lt _ _ k (by simp; omega)).trans ((Go.Deep.blk_alloc_lt _ _ k (by simpa using hk)).trans (Go.Deep.blk_setCell_other _ _ _ _ hn))))
  · exact (((((Below.refl G wr).setCell (p := ⟨G, q, none⟩) (Nat.le_refl G) v).alloc (by simp; omega) _).alloc (by simp; omega) _).alloc (by simp; omega) _).alloc (by simp; omega) _
/-- One node more. -/
def Chn.put (c : Chn) (q B : Nat) (T : Value) (O : Nat) : Chn := { c with I := fun j => if j = q then B else c.I j, T := fun j => if j = q then T else c.T j, O := fun j => if j = q then O else c.O j }
theorem Chn.put_startV {c : Chn} {q B O i : Nat} {T : Value} (h : i ≠ q) : (c.put q B T O).startV i = c.startV i := by
  unfold Chn.startV Chn.put
  simp [h]
theorem Chn.put_cells {c : Chn} {q B O i : Nat} {T : Value} (h : q < i) (s : Int) : (c.put q B T O).cells i s = c.cells i s := by
  unfold Chn.cells
  rw [Chn.put_startV (by omega)]
  have hne : i ≠ q := by omega
  have e1 : (c.put q B T O).T i = c.T i := by simp [Chn.put, hne]
  have e2 : (c.put q B T O).othV i = c.othV i := by simp [Chn.put, Chn.othV, hne]
  rw [e1, e2]
  rfl
theorem nextL_start (c : Chn) (q : Nat) : c.nextL q 0 = c.startL (q + 1) := by
  unfold Chn.nextL Chn.startL
  simp
theorem Bld.step {c : Chn} {w wr w5 : World} {X G R q : Nat} {T a0 a1 a2 a3 a4 a5 : Value} {O : Nat} (h : Bld c w wr X G R (q + 1)) (hq : q < c.n) (hXR : X ≠ R)
    (hn : w5.rowIs (wr.heap.size + 1 + 1 + 1) 99 6 (fun j => (#[a0, a1, a2, a3, a4, a5] : Array Value).getD j undef))
    (hi : w5.rowIs G 94 c.n (fun k => if k = q then .pointer (some ⟨wr.heap.size + 1 + 1 + 1, 0, none⟩) else if q + 1 ≤ k then .pointer (some ⟨c.I k, 0, none⟩) else .pointer none))
    (hk : ∀ k, k < wr.heap.size → k ≠ G → w5.heap[k]? = wr.heap[k]?) (hb : Below G wr w5) (hGw : w.heap.size ≤ G) (hXw : w.heap.size ≤ X)
    (hc : ∀ j, j < 6 → (#[a0, a1, a2, a3, a4, a5] : Array Value).getD j undef = (c.put q (wr.heap.size + 1 + 1 + 1) T O).cells q 0 j) :
    Bld (c.put q (wr.heap.size + 1 + 1 + 1) T O) w ((w5.setCell ⟨X, 0, none⟩ (.iface 94 (.pointer (some ⟨wr.heap.size + 1 + 1 + 1, 0, none⟩)))).setCell ⟨X, 1, none⟩ (.int .i32 (c.lc (3 * q + 2)))) X G R q := by
  have ty : ∀ (b : Nat) (T k : Nat) (F : Nat → Value), wr.rowIs b T k F → T ≠ 94 → b ≠ G := fun b T k F h1 hT e => by
    obtain ⟨c1, h1, _⟩ := h1
    obtain ⟨c2, h2, _⟩ := h.ifs
    rw [e, h2] at h1
    injection h1 with h1
    injection h1 with _ h1
    exact hT h1.symm
  have tyX : ∀ (b : Nat) (T k : Nat) (F : Nat → Value), wr.rowIs b T k F → T ≠ 41 → b ≠ X := fun b T k F h1 hT e => by
    obtain ⟨c1, h1, _⟩ := h1
    obtain ⟨c2, h2, _⟩ := h.box
    rw [e, h2] at h1
    injection h1 with h1
    injection h1 with _ h1
    exact hT h1.symm
  have kp : ∀ b, b ≠ X → ((w5.setCell ⟨X, 0, none⟩ (.iface 94 (.pointer (some ⟨wr.heap.size + 1 + 1 + 1, 0, none⟩)))).setCell ⟨X, 1, none⟩ (.int .i32 (c.lc (3 * q + 2)))).heap[b]? = w5.heap[b]? := fun b hb => (Go.Deep.blk_setCell_other _ _ _ _ hb).trans (Go.Deep.blk_setCell_other _ _ _ _ hb)
  have hXl := h.box.lt
  have hGX : G ≠ X := tyX _ _ _ _ h.ifs (by decide)
  refine ⟨fun j h1 h2 => ?_, fun i j h1 h2 h3 h4 e => ?_, ?_, ?_, ?_, ?_, fun j h1 h2 => ?_⟩
  · by_cases hj : j = q
    · subst hj
      show World.rowIs _ ((c.put j _ T O).I j) 99 6 _
      rw [show (c.put j (wr.heap.size + 1 + 1 + 1) T O).I j = wr.heap.size + 1 + 1 + 1 by simp [Chn.put]]
      exact (hn.of_block (kp _ (by omega))).congr hc
    · have hno := h.node j (by omega) h2
      show World.rowIs _ ((c.put q _ T O).I j) 99 6 _
      rw [show (c.put q (wr.heap.size + 1 + 1 + 1) T O).I j = c.I j by simp [Chn.put, hj], Chn.put_cells (by omega)]
      exact (World.rowIs.of_block hno (hk _ hno.lt (ty _ _ _ _ hno (by decide)))).of_block (kp _ (tyX _ _ _ _ hno (by decide)))
  · have hlt : ∀ j, q + 1 ≤ j → j < c.n → c.I j < wr.heap.size := fun j h1 h2 => World.rowIs.lt (h.node j h1 h2)
    simp only [Chn.put] at e
    by_cases hiq : i = q
    · by_cases hjq : j = q
      · omega
      · rw [if_pos hiq, if_neg hjq] at e
        have := hlt j (by omega) h4; omega
    · by_cases hjq : j = q
      · rw [if_neg hiq, if_pos hjq] at e
        have := hlt i (by omega) h3; omega
      · rw [if_neg hiq, if_neg hjq] at e
        exact h.inj i j (by omega) (by omega) h3 h4 e
  · have hx := (h.box.of_block (w' := w5) (hk X hXl (fun e => hGX e.symm)))
    refine ((hx.set 0 _).set 1 _).congr fun j hj => ?_
    have e1 : (c.put q (wr.heap.size + 1 + 1 + 1) T O).startV q = .iface 94 (.pointer (some ⟨wr.heap.size + 1 + 1 + 1, 0, none⟩)) := by
      unfold Chn.startV Chn.put
      simp [hq]
    have e2 : (c.put q (wr.heap.size + 1 + 1 + 1) T O).startL q = c.lc (3 * q + 2) := by
      unfold Chn.startL Chn.put
      simp [hq]
    rw [e1, e2]
    match j, hj with
    | 0, _ | 1, _ => rfl
  · refine (hi.of_block (kp G hGX)).congr fun j hj => ?_
    by_cases hjq : j = q
    · subst hjq; simp [Chn.put]
    · by_cases hlt : q + 1 ≤ j
      · rw [if_neg hjq, if_pos hlt, if_pos (by omega)]; simp [Chn.put, hjq]
      · rw [if_neg hjq, if_neg hlt, if_neg (by omega)]
  · exact (h.res.of_block (w' := w5) (hk R h.res.lt (ty _ _ _ _ h.res (by decide)))).of_block (kp R (fun e => hXR e.symm))
  · exact (((h.below.trans (hb.mono hGw)).setCell (p := ⟨X, 0, none⟩) hXw _).setCell (p := ⟨X, 1, none⟩) hXw _)
  · have hsz := h.below.size
    show w.heap.size ≤ (if j = q then _ else c.I j)
    by_cases hj : j = q
    · rw [if_pos hj]; omega
    · rw [if_neg hj]; exact h.ge j (by omega) h2
def BuiltC (n : Nat) (sd : Nat → Bool) (l : Nat → Int) (w : World) (e : Ending) (w' : World) : Prop :=
  ∃ (c : Chn) (G : Nat), c.n = n ∧ c.sd = sd ∧ c.lc = l ∧ e = .returned (.tuple #[.agg #[c.startV 0, .int .i32 (c.startL 0)], .slice (some ⟨G, 0, none⟩) n n]) ∧
    (∀ j, j < n → c.Node w' j 0) ∧ (∀ i j, i < n → j < n → c.I i = c.I j → i = j) ∧ w'.rowIs G 94 n (fun j => .pointer (some ⟨c.I j, 0, none⟩)) ∧ Below w.heap.size w w' ∧ (∀ j, j < n → w.heap.size ≤ c.I j)
set_option maxRecDepth 100000 in
set_option maxHeartbeats 4000000 in
theorem buildC (n m cap cap2 : Nat) (o o2 : Option Addr) (sd : Nat → Bool) (g : Nat → Int) (w : World) (hn : n ≤ 4096) (hm : m ≤ maxLen) (hS : BoolsAt w o n sd) (hL : IntsAt .i32 w o2 m g) :
    Calls Try.prog 11 #[.slice o n cap, .slice o2 m cap2] w (BuiltC n sd (lc m g) w) := by
  have hmk := run_make_row' (P := Try.prog) 42 94 (.pointer none) 8 Try.underlying42 infoPtr rfl .i64 .i64 n (by omega) (by omega)
  replace hm := Lib.hid hm
  go_enter Try.func11, Try.ntmps11
  go_wp2_with fail
  rw [show (3 * (n : Int)) = ((3 * n : Nat) : Int) by simp]
  have b1 : Below w.heap.size w ((w.alloc (.cells #[.nilIface, .int .i32 0] 41)).alloc (.cells (madeCells #[.pointer none] n) 94)) := ((Below.refl _ _).alloc (Nat.le_refl _) _).alloc (by simp) _
  have hR : ((w.alloc (.cells #[.nilIface, .int .i32 0] 41)).alloc (.cells (madeCells #[.pointer none] n) 94)).rowIs w.heap.size 41 2 (fun j => (#[.nilIface, .int .i32 0] : Array Value).getD j undef) := (World.rowIs_alloc w #[.nilIface, .int .i32 0] 41 (fun j => (#[.nilIface, .int .i32 0] : Array Value).getD j undef) (fun i hi => by
    match i, hi with
    | 0, _ | 1, _ => rfl)).alloc _
  have hG : ((w.alloc (.cells #[.nilIface, .int .i32 0] 41)).alloc (.cells (madeCells #[.pointer none] n) 94)).rowIs (w.heap.size + 1) 94 n (fun _ => .pointer none) := by
    have h := World.rowIs_made (w.alloc (.cells #[.nilIface, .int .i32 0] 41)) (.pointer none) n 94
    simpa using h
  clear hmk
  generalize ((w.alloc (.cells #[.nilIface, .int .i32 0] 41)).alloc (.cells (madeCells #[.pointer none] n) 94)) = w1 at b1 hR hG ⊢
  refine (loc o2 m cap2 (3 * n) g w1 (hL.below b1) hm.out (by omega)).mono ?_
  rintro e w' ⟨rfl, rfl⟩
  have hGne : Hid (w.heap.size < w.heap.size + 1) := Lib.hid (by omega)
  generalize hGn : w.heap.size + 1 = G at *
  generalize hRn : w.heap.size = R at *
  replace hGn := Lib.hid hGn
  replace hRn := Lib.hid hRn
  replace hR := Lib.hid hR
  replace hG := Lib.hid hG
  generalize hl3 : lc m g (3 * n) = l3 at *
  replace hl3 := Lib.hid hl3
  go_wp2_with fail
  have hXr : ((w1.alloc (.cells #[.float .f64 0] 93)).alloc (.cells #[.iface 90 (.pointer (some ⟨w1.heap.size, 0, none⟩)), .int .i32 l3] 41)).rowIs (w1.heap.size + 1) 41 2 (fun j => (#[.iface 90 (.pointer (some ⟨w1.heap.size, 0, none⟩)), .int .i32 l3] : Array Value).getD j undef) := by
    have h := World.rowIs_alloc (w1.alloc (.cells #[.float .f64 0] 93)) #[.iface 90 (.pointer (some ⟨w1.heap.size, 0, none⟩)), .int .i32 l3] 41 (fun j => (#[.iface 90 (.pointer (some ⟨w1.heap.size, 0, none⟩)), .int .i32 l3] : Array Value).getD j undef) (fun i hi => by
      match i, hi with
      | 0, _ | 1, _ => rfl)
    simpa using h
  have b2 : Below w1.heap.size w1 ((w1.alloc (.cells #[.float .f64 0] 93)).alloc (.cells #[.iface 90 (.pointer (some ⟨w1.heap.size, 0, none⟩)), .int .i32 l3] 41)) := ((Below.refl _ _).alloc (Nat.le_refl _) _).alloc (by simp) _
  generalize ((w1.alloc (.cells #[.float .f64 0] 93)).alloc (.cells #[.iface 90 (.pointer (some ⟨w1.heap.size, 0, none⟩)), .int .i32 l3] 41)) = w2 at hXr b2 ⊢
  have hR2 := hR.out.of_block (w' := w2) (b2.block _ hR.out.lt)
  have hG2 := hG.out.of_block (w' := w2) (b2.block _ hG.out.lt)
  have hord : Hid (R < w1.heap.size ∧ G < w1.heap.size ∧ R < G) := Lib.hid ⟨hR.out.lt, hG.out.lt, hGne.out⟩
  have bw2 : Below R w w2 := b1.trans (b2.mono (by rw [← hRn.out]; exact b1.size))
  have hX1 : Hid (w1.heap.size < w1.heap.size + 1) := Lib.hid (by omega)
  clear hR hG b1 b2
  generalize w1.heap.size = Z at *
  generalize Z + 1 = X at *
  have hB0 : Bld ⟨n, fun _ => 0, fun _ => .nilIface, fun _ => 0, Z, sd, lc m g⟩ w w2 X G R n :=
    ⟨fun j h1 h2 => absurd h2 (by show ¬ j < n; omega), fun i j h1 h2 h3 h4 => absurd h3 (by show ¬ i < n; omega),
     by simpa [Chn.startV, Chn.startL, hl3.out] using hXr,
     hG2.congr (fun j hj => by simp [show ¬ n ≤ j by omega]), hR2, by rw [hRn.out]; exact bw2, fun j h1 h2 => absurd h2 (by show ¬ j < n; omega)⟩
  clear hXr hR2 hG2 bw2
  replace hl3 := Lib.hid hl3
  go_loopg [9] n (fun gk i wr => ∃ (r : Nat) (c : Chn), r ≤ n ∧ gk = r ∧ i = .int .i64 ((r : Int) - 1) ∧ c.n = n ∧ c.sd = sd ∧ c.lc = lc m g ∧ Bld c w wr X G R r)
  case atStart => exact ⟨n, _, Nat.le_refl _, rfl, rfl, rfl, rfl, rfl, hB0⟩
  case round =>
    clear hB0
    obtain ⟨r, c, hr, rfl, rfl, hcn, hcs, hcl, hB⟩ := hrel
    replace hcn := Lib.hid hcn
    replace hcs := Lib.hid hcs
    replace hcl := Lib.hid hcl
    rcases Nat.eq_zero_or_pos gk with h0 | h0
    · subst h0
      obtain ⟨t, v, hv⟩ : ∃ t v, c.startV 0 = .iface t v := by unfold Chn.startV; split <;> exact ⟨_, _, rfl⟩
      have x0 : wr.cell? ⟨X, 0, none⟩ = some (.iface t v) := by rw [← hv]; exact hB.box.cell (i := 0) (by omega)
      have x1 : wr.cell? ⟨X, 1, none⟩ = some (.int .i32 (c.startL 0)) := hB.box.cell (i := 1) (by omega)
      have r0 : wr.cell? ⟨R, 0, none⟩ = some .nilIface := hB.res.cell (i := 0) (by omega)
      have r1 : wr.cell? ⟨R, 1, none⟩ = some (.int .i32 0) := hB.res.cell (i := 1) (by omega)
      have f0 := hB.res.frozen 0
      have f1 := hB.res.frozen 1
      replace hv := Lib.hid hv
      go_wp2_with fail
      have e1 : Ending.returned (.tuple #[.agg #[.iface t v, .int .i32 (c.startL 0)], .slice (some ⟨G, 0, none⟩) n n]) = .returned (.tuple #[.agg #[c.startV 0, .int .i32 (c.startL 0)], .slice (some ⟨G, 0, none⟩) n n]) := by rw [hv.out]
      have hRlt := hB.res.lt
      have hneR : ∀ (b : Nat) (T k : Nat) (F : Nat → Value), wr.rowIs b T k F → T ≠ 41 → b ≠ R := fun b T k F h hT e => by
        obtain ⟨c1, h1, _⟩ := h
        obtain ⟨c2, h2, _⟩ := hB.res
        rw [e, h2] at h1
        injection h1 with h1
        injection h1 with _ h1
        exact hT h1.symm
      have kp : ∀ b, b ≠ R → ((wr.setCell ⟨R, 0, none⟩ (.iface t v)).setCell ⟨R, 1, none⟩ (.int .i32 (c.startL 0))).heap[b]? = wr.heap[b]? := fun b hb => (Go.Deep.blk_setCell_other _ _ _ _ hb).trans (Go.Deep.blk_setCell_other _ _ _ _ hb)
      refine bodyPost_ret (v := .tuple #[.agg #[.iface t v, .int .i32 (c.startL 0)], .slice (some ⟨G, 0, none⟩) n n]) (by simp [results, Try.results11, go_sem, r0, r1]) rfl ⟨c, G, hcn.out, hcs.out, hcl.out, e1, fun j hj => ?_, fun i j hi hj => hB.inj i j (Nat.zero_le _) (Nat.zero_le _) (by rw [hcn.out]; exact hi) (by rw [hcn.out]; exact hj), ?_, ?_, fun j hj => by have := hB.ge j (Nat.zero_le _) (by rw [hcn.out]; exact hj); exact this⟩
      · have h := hB.node j (Nat.zero_le _) (by rw [hcn.out]; exact hj)
        exact World.rowIs.of_block h (kp _ (hneR _ _ _ _ h (by decide)))
      · have h := hB.ifs
        rw [hcn.out] at h
        exact (h.of_block (kp _ (hneR _ _ _ _ h (by decide)))).congr (fun j hj => by simp)
      · have h := hB.below
        rw [hRn.out] at h ⊢
        exact (h.setCell (p := ⟨R, 0, none⟩) (Nat.le_refl R) _).setCell (p := ⟨R, 1, none⟩) (Nat.le_refl R) _
    · obtain ⟨q, rfl⟩ : ∃ q, gk = q + 1 := ⟨gk - 1, by omega⟩
      rcases hS with hS0 | ⟨sb, soff, rfl, hsb, hsc⟩
      · omega
      have g1 : wr.cell? ⟨sb, soff + q, none⟩ = some (.bool (sd q)) := (hB.below.cell (p := ⟨sb, soff + q, none⟩) (by exact hsb)).trans (hsc q (by omega))
      have hL2 := hL.below hB.below
      rw [show ((q + 1 : Nat) : Int) - 1 = (q : Int) by omega]
      have hq : q ≤ 4096 := by omega
      obtain ⟨t, v, hv⟩ : ∃ t v, c.startV (q + 1) = .iface t v := by unfold Chn.startV; split <;> exact ⟨_, _, rfl⟩
      have x0 : wr.cell? ⟨X, 0, none⟩ = some (.iface t v) := by rw [← hv]; exact hB.box.cell (i := 0) (by omega)
      have x1 : wr.cell? ⟨X, 1, none⟩ = some (.int .i32 (c.startL (q + 1))) := hB.box.cell (i := 1) (by omega)
      have hXl := hB.box.lt
      have fx0 := hB.box.frozen 0
      have fx1 := hB.box.frozen 1
      have i0 : wr.cell? ⟨G, q, none⟩ = some (.pointer none) := by
        have h := hB.ifs.cell (i := q) (by rw [hcn.out]; omega)
        rw [if_neg (by omega)] at h
        exact h
      have fi := hB.ifs.frozen q
      have hGl := hB.ifs.lt
      have hsl : sb < wr.heap.size := lt_of_cell g1
      have j1 : IntKind.i64.wrap (3 * (q : Int)) = 3 * (q : Int) := by simp [IntKind.wrap, IntKind.bits, IntKind.signed]; omega
      have j2 : IntKind.i64.wrap (3 * (q : Int) + 1) = 3 * (q : Int) + 1 := by simp [IntKind.wrap, IntKind.bits, IntKind.signed]; omega
      have j3 : IntKind.i64.wrap (3 * (q : Int) + 2) = 3 * (q : Int) + 2 := by simp [IntKind.wrap, IntKind.bits, IntKind.signed]; omega
      replace hv := Lib.hid hv
      replace hsc := Lib.hid hsc
      have su1 : sb < wr.heap.size + 1 := by omega
      have su2 : sb < wr.heap.size + 1 + 1 := by omega
      have su3 : sb < wr.heap.size + 1 + 1 + 1 := by omega
      have su4 : X < wr.heap.size + 1 := by omega
      have su5 : X < wr.heap.size + 1 + 1 := by omega
      have su6 : X < wr.heap.size + 1 + 1 + 1 := by omega
      have su7 : G < wr.heap.size + 1 := by omega
      have su8 : G < wr.heap.size + 1 + 1 := by omega
      have su9 : G < wr.heap.size + 1 + 1 + 1 := by omega
      go_wp2_with fail
      refine (locI o2 m cap2 _ (3 * q + 1) (by simp) g wr hL2 hm.out (by omega)).mono ?_
      rintro e w' ⟨rfl, rfl⟩
      go_wp2_with fail
      refine (locI o2 m cap2 _ (3 * q) (by simp) g _ (hL2.below (((Below.refl _ _).alloc (Nat.le_refl _) _).alloc (by simp) _)) hm.out (by omega)).mono ?_
      rintro e w' ⟨rfl, rfl⟩
      cases hsd : sd q
      · rw [hsd] at g1
        replace hsd := Lib.hid hsd
        go_wp2_with fail
        obtain ⟨m1, m2, m3, m4⟩ := four (q := q) (v := .pointer (some ⟨wr.heap.size + 1 + 1 + 1, 0, none⟩)) (o1 := .cells #[.float .f64 4607182418800017408] 93) (o2 := .cells #[.iface 90 (.pointer (some ⟨wr.heap.size, 0, none⟩)), .int .i32 (lc m g (3 * q + 1))] 41) (o3 := .cells #[.int .u32 0, .int .u32 0, .bool false, .bool false, .bool false] 97)
          (a := .iface 95 (.pointer (some ⟨wr.heap.size + 1 + 1, 0, none⟩))) (b := .int .i32 (lc m g (3 * q))) (c := .iface 90 (.pointer (some ⟨wr.heap.size, 0, none⟩))) (d := .int .i32 (lc m g (3 * q + 1))) (e := .iface t v) (f := .int .i32 (c.startL (q + 1))) hB.ifs
        generalize (((((wr.setCell ⟨G, q, none⟩ (.pointer (some ⟨wr.heap.size + 1 + 1 + 1, 0, none⟩))).alloc (.cells #[.float .f64 4607182418800017408] 93)).alloc (.cells #[.iface 90 (.pointer (some ⟨wr.heap.size, 0, none⟩)), .int .i32 (lc m g (3 * q + 1))] 41)).alloc (.cells #[.int .u32 0, .int .u32 0, .bool false, .bool false, .bool false] 97)).alloc (.cells #[.iface 95 (.pointer (some ⟨wr.heap.size + 1 + 1, 0, none⟩)), .int .i32 (lc m g (3 * q)), .iface 90 (.pointer (some ⟨wr.heap.size, 0, none⟩)), .int .i32 (lc m g (3 * q + 1)), .iface t v, .int .i32 (c.startL (q + 1))] 99)) = w5 at m1 m2 m3 m4 ⊢
        have hwG : w.heap.size ≤ G := by have := hord.out; have := hRn.out; omega
        have hwX : w.heap.size ≤ X := by have := hord.out; have := hX1.out; have := hRn.out; omega
        have hXR : X ≠ R := by have := hord.out; have := hX1.out; omega
        refine (locI o2 m cap2 _ (3 * q + 2) (by simp) g w5 (hL.below (hB.below.trans (m4.mono hwG))) hm.out (by omega)).mono ?_
        rintro e w' ⟨rfl, rfl⟩
        have hGX : X ≠ G := fun e => by
          obtain ⟨c1, h1, _⟩ := hB.box
          obtain ⟨c2, h2, _⟩ := hB.ifs
          rw [e, h2] at h1
          injection h1 with h1
          injection h1 with _ h1
          exact absurd h1 (by decide)
        have hx5 := hB.box.of_block (w' := w5) (m3 X hXl hGX)
        have y0 : w5.cell? ⟨X, 0, none⟩ = some (.iface t v) := by rw [← hv.out]; exact hx5.cell (i := 0) (by omega)
        have y1 : w5.cell? ⟨X, 1, none⟩ = some (.int .i32 (c.startL (q + 1))) := hx5.cell (i := 1) (by omega)
        have fy0 := hx5.frozen 0
        have fy1 := hx5.frozen 1
        have hst := Lib.hid (hB.step (T := .iface 95 (.pointer (some ⟨wr.heap.size + 1 + 1, 0, none⟩))) (O := wr.heap.size) (by rw [hcn.out]; omega) hXR m1 m2 m3 m4 hwG hwX (fun j hj => by
          have es : c.sd q = sd q := by rw [hcs.out]
          have e1 : (c.put q (wr.heap.size + 1 + 1 + 1) (.iface 95 (.pointer (some ⟨wr.heap.size + 1 + 1, 0, none⟩))) wr.heap.size).startV (q + 1) = .iface t v := by rw [Chn.put_startV (by omega)]; exact hv.out
          have e2 : (c.put q (wr.heap.size + 1 + 1 + 1) (.iface 95 (.pointer (some ⟨wr.heap.size + 1 + 1, 0, none⟩))) wr.heap.size).nextL q 0 = c.startL (q + 1) := nextL_start c q
          have e3 : (c.put q (wr.heap.size + 1 + 1 + 1) (.iface 95 (.pointer (some ⟨wr.heap.size + 1 + 1, 0, none⟩))) wr.heap.size).othL q 0 = lc m g (3 * q + 1) := by show c.lc (3 * q + 1) + 0 = _; rw [hcl.out, Int.add_zero]
          have e4 : (c.put q (wr.heap.size + 1 + 1 + 1) (.iface 95 (.pointer (some ⟨wr.heap.size + 1 + 1, 0, none⟩))) wr.heap.size).othV q = .iface 90 (.pointer (some ⟨wr.heap.size, 0, none⟩)) := by simp [Chn.othV, Chn.put]
          have e5 : (c.put q (wr.heap.size + 1 + 1 + 1) (.iface 95 (.pointer (some ⟨wr.heap.size + 1 + 1, 0, none⟩))) wr.heap.size).T q = .iface 95 (.pointer (some ⟨wr.heap.size + 1 + 1, 0, none⟩)) := by simp [Chn.put]
          have e6 : (c.put q (wr.heap.size + 1 + 1 + 1) (.iface 95 (.pointer (some ⟨wr.heap.size + 1 + 1, 0, none⟩))) wr.heap.size).lc (3 * q) = lc m g (3 * q) := by show c.lc (3 * q) = _; rw [hcl.out]
          have e7 : (c.put q (wr.heap.size + 1 + 1 + 1) (.iface 95 (.pointer (some ⟨wr.heap.size + 1 + 1, 0, none⟩))) wr.heap.size).sd q = false := by show c.sd q = _; rw [es]; exact hsd.out
          unfold Chn.cells
          rw [e1, e2, e3, e4, e5, e6, e7]
          rfl))
        rw [hcl.out] at hst
        clear m1 m2 m3 m4 x0 x1 fx0 fx1 i0 fi g1 j1 j2 j3
        replace hx5 := Lib.hid hx5
        go_wp2_with fail
        go_roundg q
        case measure => omega
        case rel => exact ⟨q, c.put q (wr.heap.size + 1 + 1 + 1) (.iface 95 (.pointer (some ⟨wr.heap.size + 1 + 1, 0, none⟩))) wr.heap.size, by omega, rfl, rfl, hcn.out, hcs.out, hcl.out, hst.out⟩
      · rw [hsd] at g1
        replace hsd := Lib.hid hsd
        go_wp2_with fail
        obtain ⟨m1, m2, m3, m4⟩ := four (q := q) (v := .pointer (some ⟨wr.heap.size + 1 + 1 + 1, 0, none⟩)) (o1 := .cells #[.float .f64 4607182418800017408] 93) (o2 := .cells #[.iface 90 (.pointer (some ⟨wr.heap.size, 0, none⟩)), .int .i32 (lc m g (3 * q + 1))] 41) (o3 := .cells #[.int .u32 0, .int .u32 0, .bool false, .bool false, .bool false] 97)
          (a := .iface 95 (.pointer (some ⟨wr.heap.size + 1 + 1, 0, none⟩))) (b := .int .i32 (lc m g (3 * q))) (c := .iface t v) (d := .int .i32 (c.startL (q + 1))) (e := .iface 90 (.pointer (some ⟨wr.heap.size, 0, none⟩))) (f := .int .i32 (lc m g (3 * q + 1))) hB.ifs
        generalize (((((wr.setCell ⟨G, q, none⟩ (.pointer (some ⟨wr.heap.size + 1 + 1 + 1, 0, none⟩))).alloc (.cells #[.float .f64 4607182418800017408] 93)).alloc (.cells #[.iface 90 (.pointer (some ⟨wr.heap.size, 0, none⟩)), .int .i32 (lc m g (3 * q + 1))] 41)).alloc (.cells #[.int .u32 0, .int .u32 0, .bool false, .bool false, .bool false] 97)).alloc (.cells #[.iface 95 (.pointer (some ⟨wr.heap.size + 1 + 1, 0, none⟩)), .int .i32 (lc m g (3 * q)), .iface t v, .int .i32 (c.startL (q + 1)), .iface 90 (.pointer (some ⟨wr.heap.size, 0, none⟩)), .int .i32 (lc m g (3 * q + 1))] 99)) = w5 at m1 m2 m3 m4 ⊢
        have hwG : w.heap.size ≤ G := by have := hord.out; have := hRn.out; omega
        have hwX : w.heap.size ≤ X := by have := hord.out; have := hX1.out; have := hRn.out; omega
        have hXR : X ≠ R := by have := hord.out; have := hX1.out; omega
        refine (locI o2 m cap2 _ (3 * q + 2) (by simp) g w5 (hL.below (hB.below.trans (m4.mono hwG))) hm.out (by omega)).mono ?_
        rintro e w' ⟨rfl, rfl⟩
        have hGX : X ≠ G := fun e => by
          obtain ⟨c1, h1, _⟩ := hB.box
          obtain ⟨c2, h2, _⟩ := hB.ifs
          rw [e, h2] at h1
          injection h1 with h1
          injection h1 with _ h1
          exact absurd h1 (by decide)
        have hx5 := hB.box.of_block (w' := w5) (m3 X hXl hGX)
        have y0 : w5.cell? ⟨X, 0, none⟩ = some (.iface t v) := by rw [← hv.out]; exact hx5.cell (i := 0) (by omega)
        have y1 : w5.cell? ⟨X, 1, none⟩ = some (.int .i32 (c.startL (q + 1))) := hx5.cell (i := 1) (by omega)
        have fy0 := hx5.frozen 0
        have fy1 := hx5.frozen 1
        have hst := Lib.hid (hB.step (T := .iface 95 (.pointer (some ⟨wr.heap.size + 1 + 1, 0, none⟩))) (O := wr.heap.size) (by rw [hcn.out]; omega) hXR m1 m2 m3 m4 hwG hwX (fun j hj => by
          have es : c.sd q = sd q := by rw [hcs.out]
          have e1 : (c.put q (wr.heap.size + 1 + 1 + 1) (.iface 95 (.pointer (some ⟨wr.heap.size + 1 + 1, 0, none⟩))) wr.heap.size).startV (q + 1) = .iface t v := by rw [Chn.put_startV (by omega)]; exact hv.out
          have e2 : (c.put q (wr.heap.size + 1 + 1 + 1) (.iface 95 (.pointer (some ⟨wr.heap.size + 1 + 1, 0, none⟩))) wr.heap.size).nextL q 0 = c.startL (q + 1) := nextL_start c q
          have e3 : (c.put q (wr.heap.size + 1 + 1 + 1) (.iface 95 (.pointer (some ⟨wr.heap.size + 1 + 1, 0, none⟩))) wr.heap.size).othL q 0 = lc m g (3 * q + 1) := by show c.lc (3 * q + 1) + 0 = _; rw [hcl.out, Int.add_zero]
          have e4 : (c.put q (wr.heap.size + 1 + 1 + 1) (.iface 95 (.pointer (some ⟨wr.heap.size + 1 + 1, 0, none⟩))) wr.heap.size).othV q = .iface 90 (.pointer (some ⟨wr.heap.size, 0, none⟩)) := by simp [Chn.othV, Chn.put]
          have e5 : (c.put q (wr.heap.size + 1 + 1 + 1) (.iface 95 (.pointer (some ⟨wr.heap.size + 1 + 1, 0, none⟩))) wr.heap.size).T q = .iface 95 (.pointer (some ⟨wr.heap.size + 1 + 1, 0, none⟩)) := by simp [Chn.put]
          have e6 : (c.put q (wr.heap.size + 1 + 1 + 1) (.iface 95 (.pointer (some ⟨wr.heap.size + 1 + 1, 0, none⟩))) wr.heap.size).lc (3 * q) = lc m g (3 * q) := by show c.lc (3 * q) = _; rw [hcl.out]
          have e7 : (c.put q (wr.heap.size + 1 + 1 + 1) (.iface 95 (.pointer (some ⟨wr.heap.size + 1 + 1, 0, none⟩))) wr.heap.size).sd q = true := by show c.sd q = _; rw [es]; exact hsd.out
          unfold Chn.cells
          rw [e1, e2, e3, e4, e5, e6, e7]
          rfl))
        rw [hcl.out] at hst
        clear m1 m2 m3 m4 x0 x1 fx0 fx1 i0 fi g1 j1 j2 j3
        replace hx5 := Lib.hid hx5
        go_wp2_with fail
        go_roundg q
        case measure => omega
        case rel => exact ⟨q, c.put q (wr.heap.size + 1 + 1 + 1) (.iface 95 (.pointer (some ⟨wr.heap.size + 1 + 1, 0, none⟩))) wr.heap.size, by omega, rfl, rfl, hcn.out, hcs.out, hcl.out, hst.out⟩
end Go.Proofs.Ytgiehlcmmikgmaa.Tr
