/-
  zzCheckChain_b3 on a chain whose leaves were moved: true. Condition: at most 4096 nodes.
-/
import Derived.Test.YtgiehlcmmikgmaaTr3
namespace Go.Proofs.Ytgiehlcmmikgmaa.Tr
open Go.RowKit Go.ChangeShapes Go.WideShapes Go.ChangeAt Go.Proofs.Ytgiehlcmmikgmaa.Ints

theorem ints_drewN {k : IntKind} {w : World} {o : Option Addr} {m n : Nat} {g : Nat → Int} (h : IntsAt k w o m g) : IntsAt k (w.drewN n) o m g :=
  h.below ⟨rfl, rfl, rfl, Nat.le_refl _, fun _ _ => rfl⟩
theorem belowN {B : Nat} {a w : World} (h : Below B a w) (n : Nat) : Below B a (w.drewN n) := ⟨h.os, h.tape, h.output, h.size, h.block⟩
theorem locQ (o : Option Addr) (m cap : Nat) (k : Int) (kn : Nat) (hkk : k = (kn : Int)) (g : Nat → Int) (w : World) (x : Nat) (hI : IntsAt .i32 w o m g) (hm2 : m ≤ maxLen) (hk : kn ≤ 65536) :
    Calls Try.prog 23 #[.slice o m cap, .int .i64 k] (w.drewN x) fun e w'' => e = .returned (.int .i32 (lc m g kn)) ∧ ∃ y, w'' = w.drewN y :=
  Calls.quiet_of_same ((locI o m cap k kn hkk g (w.drewN x) (ints_drewN hI) hm2 hk).mono fun _ _ h => ⟨h.1, h.2.symm⟩)
set_option maxRecDepth 100000 in
set_option maxHeartbeats 4000000 in
theorem check (c : Chn) (n m cap cap2 G : Nat) (o o2 : Option Addr) (sd : Nat → Bool) (g : Nat → Int) (w : World) (hn : n ≤ 4096) (hm : m ≤ maxLen) (hg : ∀ i, i < m → -2147483648 ≤ g i ∧ g i ≤ 2147483647) (hS : BoolsAt w o n sd) (hL : IntsAt .i32 w o2 m g)
    (hcn : c.n = n) (hcs : c.sd = sd) (hcl : c.lc = lc m g) (hN : ∀ j, j < n → c.Node w j 1048576) (hG : w.rowIs G 94 n (fun j => .pointer (some ⟨c.I j, 0, none⟩))) (t : TypeId) (v : Value) :
    Calls Try.prog 14 #[.agg #[.iface t v, .int .i32 (c.retL 0 (c.startL 0))], .slice o n cap, .slice o2 m cap2, .slice (some ⟨G, 0, none⟩) n n, .int .i32 1048576] w fun e w' => e = .returned (.bool true) ∧ Below w.heap.size w w' := by
  replace hcn := Lib.hid hcn
  replace hcs := Lib.hid hcs
  replace hcl := Lib.hid hcl
  replace hg := Lib.hid hg
  replace hm := Lib.hid hm
  replace hN := Lib.hid hN
  rcases Nat.eq_zero_or_pos n with h0 | h0
  · subst h0
    have e0 : c.retL 0 (c.startL 0) = lc m g 0 + 1048576 := by
      unfold Chn.retL Chn.startL
      rw [hcn.out, hcl.out]
      simp
    rw [e0]
    have hr := lc_rng hg.out 0 (by omega)
    generalize hl0 : lc m g 0 = l0 at *
    have j0 : IntKind.i32.wrap (l0 + 1048576) = l0 + 1048576 := by simp [IntKind.wrap, IntKind.bits, IntKind.signed]; omega
    have hL1 := hL.below ((Below.refl w.heap.size w).alloc (Nat.le_refl _) (.cells #[.iface t v, .int .i32 (l0 + 1048576)] 41))
    clear hr
    go_enter Try.func14, Try.ntmps14
    go_wp2_with fail
    go_quiet ((go_at_call 23; exact locQ o2 m cap2 _ 0 rfl g _ _ hL1 hm.out (by omega)))
    go_wp2_with fail
    go_ret
    exact ⟨rfl, belowN ((Below.refl _ _).alloc (Nat.le_refl _) _) _⟩
  · have e0 : c.retL 0 (c.startL 0) = lc m g 2 := by
      unfold Chn.retL Chn.startL
      rw [hcn.out, hcl.out]
      simp [h0]
    rw [e0]
    have hne : ((n : Int) == 0) = false := by simp; omega
    have hL1 := hL.below ((Below.refl w.heap.size w).alloc (Nat.le_refl _) (.cells #[.iface t v, .int .i32 (lc m g 2)] 41))
    replace hS := Lib.hid hS
    replace hL := Lib.hid hL
    go_enter Try.func14, Try.ntmps14
    go_wp2_with fail
    go_quiet ((go_at_call 23; exact locQ o2 m cap2 _ 2 rfl g _ _ hL1 hm.out (by omega)))
    have b1 : Below w.heap.size w ((w.alloc (.cells #[.iface t v, .int .i32 (lc m g 2)] 41)).drewN nq) := belowN ((Below.refl _ _).alloc (Nat.le_refl _) _) _
    clear hL1
    generalize ((w.alloc (.cells #[.iface t v, .int .i32 (lc m g 2)] 41)).drewN nq) = w1 at b1 ⊢
    go_wp2_with fail
    go_loopg [12] n (fun gk i wr => ∃ r : Nat, r ≤ n ∧ gk = n - r ∧ i = .int .i64 r ∧ Below w.heap.size w wr)
    case atStart => exact ⟨0, Nat.zero_le _, rfl, rfl, b1⟩
    case round =>
      clear b1
      obtain ⟨r, hr, rfl, rfl, hB⟩ := hrel
      rcases Nat.lt_or_ge r n with hlt | hge
      · have hno := (hN.out r hlt).of_below hB
        have hGr := hG.of_block (w' := wr) (hB.block _ hG.lt)
        have hGl := hGr.lt
        have hIl := World.rowIs.lt hno
        rcases hS.out with hS0 | ⟨sb, soff, rfl, hsb, hsc⟩
        · omega
        have g1 : wr.cell? ⟨sb, soff + r, none⟩ = some (.bool (sd r)) := (hB.cell (p := ⟨sb, soff + r, none⟩) (by exact hsb)).trans (hsc r hlt)
        have hsl : sb < wr.heap.size := lt_of_cell g1
        have i0 : wr.cell? ⟨G, r, none⟩ = some (.pointer (some ⟨c.I r, 0, none⟩)) := hGr.cell hlt
        have hL2 := hL.out.below hB
        have hb1 : -268435456 ≤ lc m g (3 * r + 1) ∧ lc m g (3 * r + 1) ≤ 268435456 := lc_rng hg.out _ (by omega)
        have hb2 : -268435456 ≤ lc m g (3 * n) ∧ lc m g (3 * n) ≤ 268435456 := lc_rng hg.out _ (by omega)
        have w1' : IntKind.i32.wrap (lc m g (3 * r + 1) + 1048576) = lc m g (3 * r + 1) + 1048576 := by simp [IntKind.wrap, IntKind.bits, IntKind.signed]; omega
        have w2' : IntKind.i32.wrap (lc m g (3 * n) + 1048576) = lc m g (3 * n) + 1048576 := by simp [IntKind.wrap, IntKind.bits, IntKind.signed]; omega
        obtain ⟨t2, v2, hv⟩ : ∃ t v, c.startV (r + 1) = .iface t v := by unfold Chn.startV; split <;> exact ⟨_, _, rfl⟩
        have hol : c.othL r 1048576 = lc m g (3 * r + 1) + 1048576 := by unfold Chn.othL; rw [hcl.out]
        have hnl : c.nextL r 1048576 = if r + 1 < n then lc m g (3 * (r + 1) + 2) else lc m g (3 * n) + 1048576 := by unfold Chn.nextL; rw [hcl.out, hcn.out]
        have k1 : wr.cell? ⟨c.I r, 1, none⟩ = some (.int .i32 (lc m g (3 * r))) := by
          have h := World.rowIs.cell hno (i := 1) (by omega)
          rw [h]
          have e := congrFun hcl.out (3 * r)
          unfold Chn.cells
          split
          · show some (Value.int .i32 (c.lc (3 * r))) = _; rw [e]
          · show some (Value.int .i32 (c.lc (3 * r))) = _; rw [e]
        replace hno := Lib.hid hno
        replace hGr := Lib.hid hGr
        replace hv := Lib.hid hv
        replace hol := Lib.hid hol
        replace hnl := Lib.hid hnl
        replace hsc := Lib.hid hsc
        go_wp2_with fail
        go_quiet ((go_at_call 23; exact locQ o2 m cap2 _ (3 * r) (by simp) g _ _ hL2 hm.out (by omega)))
        have ba : Below wr.heap.size wr (wr.drewN nq) := belowN (Below.refl _ _) _
        generalize (wr.drewN nq) = wa at ba ⊢
        cases hsd : sd r
        · have hcell : c.cells r 1048576 = Chn.nodeF (c.T r) (c.lc (3 * r)) (c.othV r) (c.othL r 1048576) (c.startV (r + 1)) (c.nextL r 1048576) := by unfold Chn.cells; rw [hcs.out, hsd]; rfl
          have hna := hno.out.of_below ba
          unfold Chn.Node at hna
          rw [hcell] at hna
          have g2 : wa.cell? ⟨sb, soff + r, none⟩ = some (.bool false) := by rw [← hsd]; exact (ba.cell (p := ⟨sb, soff + r, none⟩) hsl).trans g1
          have hIa : c.I r < wa.heap.size := hna.lt
          have hsa : sb < wa.heap.size := lt_of_cell g2
          have v1 : c.I r < wa.heap.size + 1 := by omega
          have v2' : c.I r < wa.heap.size + 1 + 1 := by omega
          have v3 : sb < wa.heap.size + 1 := by omega
          have v4 : sb < wa.heap.size + 1 + 1 := by omega
          have hLa := hL2.below ba
          replace hna := Lib.hid hna
          replace hcell := Lib.hid hcell
          replace hsd := Lib.hid hsd
          clear g1 k1
          rcases Nat.lt_or_ge (r + 1) n with hlast | hlast
          · have hnl2 : Hid (c.nextL r 1048576 = (lc m g (3 * (r + 1) + 2))) := Lib.hid (by rw [hnl.out, if_pos hlast])
            have k2 : wa.cell? ⟨c.I r, 2, none⟩ = some (.iface 90 (.pointer (some ⟨c.O r, 0, none⟩))) := by exact hna.out.cell (i := 2) (by omega)
            have k3 : wa.cell? ⟨c.I r, 3, none⟩ = some (.int .i32 (lc m g (3 * r + 1) + 1048576)) := by rw [← hol.out]; exact hna.out.cell (i := 3) (by omega)
            have k4 : wa.cell? ⟨c.I r, 4, none⟩ = some (.iface t2 v2) := by rw [← hv.out]; exact hna.out.cell (i := 4) (by omega)
            have k5 : wa.cell? ⟨c.I r, 5, none⟩ = some (.int .i32 (lc m g (3 * (r + 1) + 2))) := by rw [← hnl2.out]; exact hna.out.cell (i := 5) (by omega)
            go_wp2_with fail
            have hL3 : ∀ x y, IntsAt .i32 ((wa.alloc x).alloc y) o2 m g := fun x y => hLa.below (((Below.refl _ _).alloc (Nat.le_refl _) _).alloc (by simp) _)
            have hb3 : -268435456 ≤ lc m g (3 * (r + 1) + 2) ∧ lc m g (3 * (r + 1) + 2) ≤ 268435456 := lc_rng hg.out _ (by omega)
            go_quiet ((go_at_call 23; exact locQ o2 m cap2 _ (3 * r + 1) (by simp) g _ _ (hL3 _ _) hm.out (by omega)))
            go_wp2_with fail
            refine (locI o2 m cap2 _ (3 * n) (by simp) g _ (ints_drewN (hL3 _ _)) hm.out (by omega)).mono ?_
            rintro e w' ⟨rfl, rfl⟩
            go_wp2_with fail
            refine (locI o2 m cap2 _ (3 * (r + 1) + 2) (by simp) g _ (ints_drewN (hL3 _ _)) hm.out (by omega)).mono ?_
            rintro e w' ⟨rfl, rfl⟩
            go_wp2_with fail
            go_roundg (n - (r + 1))
            case measure => omega
            case rel => exact ⟨r + 1, by omega, rfl, by simp, hB.trans ((ba.trans ((belowN (((Below.refl _ _).alloc (Nat.le_refl _) _).alloc (by simp) _) _).mono ba.size)).mono hB.size)⟩
          · have hnl2 : Hid (c.nextL r 1048576 = (lc m g (3 * n) + 1048576)) := Lib.hid (by rw [hnl.out, if_neg (by omega)])
            have k2 : wa.cell? ⟨c.I r, 2, none⟩ = some (.iface 90 (.pointer (some ⟨c.O r, 0, none⟩))) := by exact hna.out.cell (i := 2) (by omega)
            have k3 : wa.cell? ⟨c.I r, 3, none⟩ = some (.int .i32 (lc m g (3 * r + 1) + 1048576)) := by rw [← hol.out]; exact hna.out.cell (i := 3) (by omega)
            have k4 : wa.cell? ⟨c.I r, 4, none⟩ = some (.iface t2 v2) := by rw [← hv.out]; exact hna.out.cell (i := 4) (by omega)
            have k5 : wa.cell? ⟨c.I r, 5, none⟩ = some (.int .i32 (lc m g (3 * n) + 1048576)) := by rw [← hnl2.out]; exact hna.out.cell (i := 5) (by omega)
            go_wp2_with fail
            have hL3 : ∀ x y, IntsAt .i32 ((wa.alloc x).alloc y) o2 m g := fun x y => hLa.below (((Below.refl _ _).alloc (Nat.le_refl _) _).alloc (by simp) _)
            go_quiet ((go_at_call 23; exact locQ o2 m cap2 _ (3 * r + 1) (by simp) g _ _ (hL3 _ _) hm.out (by omega)))
            go_wp2_with fail
            refine (locI o2 m cap2 _ (3 * n) (by simp) g _ (ints_drewN (hL3 _ _)) hm.out (by omega)).mono ?_
            rintro e w' ⟨rfl, rfl⟩
            go_wp2_with fail
            go_roundg (n - (r + 1))
            case measure => omega
            case rel => exact ⟨r + 1, by omega, rfl, by simp, hB.trans ((ba.trans ((belowN (((Below.refl _ _).alloc (Nat.le_refl _) _).alloc (by simp) _) _).mono ba.size)).mono hB.size)⟩
        · have hcell : c.cells r 1048576 = Chn.nodeF (c.T r) (c.lc (3 * r)) (c.startV (r + 1)) (c.nextL r 1048576) (c.othV r) (c.othL r 1048576) := by unfold Chn.cells; rw [hcs.out, hsd]; rfl
          have hna := hno.out.of_below ba
          unfold Chn.Node at hna
          rw [hcell] at hna
          have g2 : wa.cell? ⟨sb, soff + r, none⟩ = some (.bool true) := by rw [← hsd]; exact (ba.cell (p := ⟨sb, soff + r, none⟩) hsl).trans g1
          have hIa : c.I r < wa.heap.size := hna.lt
          have hsa : sb < wa.heap.size := lt_of_cell g2
          have v1 : c.I r < wa.heap.size + 1 := by omega
          have v2' : c.I r < wa.heap.size + 1 + 1 := by omega
          have v3 : sb < wa.heap.size + 1 := by omega
          have v4 : sb < wa.heap.size + 1 + 1 := by omega
          have hLa := hL2.below ba
          replace hna := Lib.hid hna
          replace hcell := Lib.hid hcell
          replace hsd := Lib.hid hsd
          clear g1 k1
          rcases Nat.lt_or_ge (r + 1) n with hlast | hlast
          · have hnl2 : Hid (c.nextL r 1048576 = (lc m g (3 * (r + 1) + 2))) := Lib.hid (by rw [hnl.out, if_pos hlast])
            have k2 : wa.cell? ⟨c.I r, 2, none⟩ = some (.iface t2 v2) := by rw [← hv.out]; exact hna.out.cell (i := 2) (by omega)
            have k3 : wa.cell? ⟨c.I r, 3, none⟩ = some (.int .i32 (lc m g (3 * (r + 1) + 2))) := by rw [← hnl2.out]; exact hna.out.cell (i := 3) (by omega)
            have k4 : wa.cell? ⟨c.I r, 4, none⟩ = some (.iface 90 (.pointer (some ⟨c.O r, 0, none⟩))) := by exact hna.out.cell (i := 4) (by omega)
            have k5 : wa.cell? ⟨c.I r, 5, none⟩ = some (.int .i32 (lc m g (3 * r + 1) + 1048576)) := by rw [← hol.out]; exact hna.out.cell (i := 5) (by omega)
            go_wp2_with fail
            have hL3 : ∀ x y, IntsAt .i32 ((wa.alloc x).alloc y) o2 m g := fun x y => hLa.below (((Below.refl _ _).alloc (Nat.le_refl _) _).alloc (by simp) _)
            have hb3 : -268435456 ≤ lc m g (3 * (r + 1) + 2) ∧ lc m g (3 * (r + 1) + 2) ≤ 268435456 := lc_rng hg.out _ (by omega)
            go_quiet ((go_at_call 23; exact locQ o2 m cap2 _ (3 * r + 1) (by simp) g _ _ (hL3 _ _) hm.out (by omega)))
            go_wp2_with fail
            refine (locI o2 m cap2 _ (3 * n) (by simp) g _ (ints_drewN (hL3 _ _)) hm.out (by omega)).mono ?_
            rintro e w' ⟨rfl, rfl⟩
            go_wp2_with fail
            refine (locI o2 m cap2 _ (3 * (r + 1) + 2) (by simp) g _ (ints_drewN (hL3 _ _)) hm.out (by omega)).mono ?_
            rintro e w' ⟨rfl, rfl⟩
            go_wp2_with fail
            go_roundg (n - (r + 1))
            case measure => omega
            case rel => exact ⟨r + 1, by omega, rfl, by simp, hB.trans ((ba.trans ((belowN (((Below.refl _ _).alloc (Nat.le_refl _) _).alloc (by simp) _) _).mono ba.size)).mono hB.size)⟩
          · have hnl2 : Hid (c.nextL r 1048576 = (lc m g (3 * n) + 1048576)) := Lib.hid (by rw [hnl.out, if_neg (by omega)])
            have k2 : wa.cell? ⟨c.I r, 2, none⟩ = some (.iface t2 v2) := by rw [← hv.out]; exact hna.out.cell (i := 2) (by omega)
            have k3 : wa.cell? ⟨c.I r, 3, none⟩ = some (.int .i32 (lc m g (3 * n) + 1048576)) := by rw [← hnl2.out]; exact hna.out.cell (i := 3) (by omega)
            have k4 : wa.cell? ⟨c.I r, 4, none⟩ = some (.iface 90 (.pointer (some ⟨c.O r, 0, none⟩))) := by exact hna.out.cell (i := 4) (by omega)
            have k5 : wa.cell? ⟨c.I r, 5, none⟩ = some (.int .i32 (lc m g (3 * r + 1) + 1048576)) := by rw [← hol.out]; exact hna.out.cell (i := 5) (by omega)
            go_wp2_with fail
            have hL3 : ∀ x y, IntsAt .i32 ((wa.alloc x).alloc y) o2 m g := fun x y => hLa.below (((Below.refl _ _).alloc (Nat.le_refl _) _).alloc (by simp) _)
            go_quiet ((go_at_call 23; exact locQ o2 m cap2 _ (3 * r + 1) (by simp) g _ _ (hL3 _ _) hm.out (by omega)))
            go_wp2_with fail
            refine (locI o2 m cap2 _ (3 * n) (by simp) g _ (ints_drewN (hL3 _ _)) hm.out (by omega)).mono ?_
            rintro e w' ⟨rfl, rfl⟩
            go_wp2_with fail
            go_roundg (n - (r + 1))
            case measure => omega
            case rel => exact ⟨r + 1, by omega, rfl, by simp, hB.trans ((ba.trans ((belowN (((Below.refl _ _).alloc (Nat.le_refl _) _).alloc (by simp) _) _).mono ba.size)).mono hB.size)⟩
      · have hrn : n = r := by omega
        subst hrn
        go_wp2_with fail
        go_ret
        exact ⟨rfl, hB⟩
end Go.Proofs.Ytgiehlcmmikgmaa.Tr
