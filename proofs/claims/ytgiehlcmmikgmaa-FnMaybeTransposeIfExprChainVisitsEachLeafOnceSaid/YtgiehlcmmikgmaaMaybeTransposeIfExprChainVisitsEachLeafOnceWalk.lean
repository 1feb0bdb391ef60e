/-
  The walk of FnMaybeTransposeIfExprChainVisitsEachLeafOnce: it returns true for every chain. No condition.
-/
import Derived.Test.YtgiehlcmmikgmaaTr4
namespace Go.Proofs.Ytgiehlcmmikgmaa.fnMaybeTransposeIfExprChainVisitsEachLeafOnce
open Go.RowKit Go.WideShapes Go.ChangeAt Go.ChangeShapes Go.Proofs.Ytgiehlcmmikgmaa.Ints Go.Proofs.Ytgiehlcmmikgmaa.Tr

def SomeBool (w : World) (e : Ending) (w' : World) : Prop := ∃ r : Bool, e = .returned (.bool r) ∧ w = w'
theorem bytes (o o2 : Option Addr) (n cap m cap2 : Nat) (w : World) (hn0 : n ≤ maxLen) (hm0 : m ≤ maxLen) : Calls Try.prog 10 #[.slice o n cap, .slice o2 m cap2] w (SomeBool w) := by
  unfold maxLen at hn0 hm0
  go_enter Try.func10, Try.ntmps10
  go_wp2
  all_goals
    go_ret
    exact ⟨_, rfl, rfl⟩
theorem startI (c : Chn) (r : Nat) : ∃ t v, c.startV r = .iface t v := by unfold Chn.startV; split <;> exact ⟨_, _, rfl⟩
theorem zzTr (c : Chn) (hg : c.Good) (w : World) (l : Int) (hl : -268435456 ≤ l ∧ l ≤ 268435456) (hN : ∀ j, j < c.n → c.Node w j 0) :
    Calls Try.prog 12 #[.agg #[c.startV 0, .int .i32 l], .func (.func 13) #[] #[]] w (c.Rec 0 l w) := by
  obtain ⟨t, v, hv⟩ := startI c 0
  have hr : ∀ w1, Below w.heap.size w w1 → Calls Try.prog 24 #[.pointer none, .agg #[.iface t v, .int .i32 l], .func (.func 13) #[] #[]] w1 (c.Rec 0 l w1) := fun w1 hb => by
    rw [← hv]
    exact rec c hg c.n 0 w1 l (by omega) hl (fun j _ h2 => Chn.Node.of_below (hN j h2) hb)
  rw [hv]
  replace hv := Lib.hid hv
  replace hg := Lib.hid hg
  replace hN := Lib.hid hN
  replace hr := Lib.hid hr
  go_enter Try.func12, Try.ntmps12
  go_wp2_with fail
  obtain ⟨hR, _, hb0⟩ := two_boxes w (.iface t v) (.int .i32 l)
  generalize ((w.alloc (.cells #[.iface t v, .int .i32 l] 41)).alloc (.cells #[.nilIface, .int .i32 0] 41)) = w1 at hR hb0 ⊢
  refine (hr.out w1 hb0).mono ?_
  rintro e w3 ⟨rfl, hN3, h3⟩
  rw [hv.out]
  have hne : ∀ j, j < c.n → c.I j ≠ w.heap.size + 1 := fun j hj e => by have := World.rowIs.lt (hN.out j hj); omega
  have hR3 := hR.of_block (w' := w3) (h3.block _ hR.lt (fun j _ hj e => hne j hj e.symm))
  have r0 : w3.cell? ⟨w.heap.size + 1, 0, none⟩ = some .nilIface := hR3.cell (i := 0) (by omega)
  have r1 : w3.cell? ⟨w.heap.size + 1, 1, none⟩ = some (.int .i32 0) := hR3.cell (i := 1) (by omega)
  have f0 := hR3.frozen 0
  have f1 := hR3.frozen 1
  replace hN3 := Lib.hid hN3
  replace h3 := Lib.hid h3
  replace hb0 := Lib.hid hb0
  replace hne := Lib.hid hne
  clear hR hR3
  go_wp2_with fail
  have hch : c.Ch 0 w ((w3.setCell ⟨w.heap.size + 1, 0, none⟩ (.iface t v)).setCell ⟨w.heap.size + 1, 1, none⟩ (.int .i32 (c.retL 0 l))) :=
    ((((Chn.Ch.below hb0.out).trans h3.out).setNew (by omega) _ _).setNew (by omega) _ _)
  exact bodyPost_ret (v := .agg #[.iface t v, .int .i32 (c.retL 0 l)]) (by simp [results, Try.results12, go_sem, r0, r1]) rfl ⟨by rw [hv.out], fun j h1 h2 => ((hN3.out j h1 h2).of_set (hne.out j h2)).of_set (hne.out j h2), hch⟩
set_option maxRecDepth 100000 in
theorem main (o o2 : Option Addr) (n cap m cap2 : Nat) (sd : Nat → Bool) (g : Nat → Int) (w : World) (hn : n ≤ maxLen) (hm : m ≤ maxLen) (hS : BoolsAt w o n sd) (hL : IntsAt .i32 w o2 m g) (hg : ∀ i, i < m → -2147483648 ≤ g i ∧ g i ≤ 2147483647) :
    Calls Try.prog 4 #[.slice o n cap, .slice o2 m cap2] w fun e w' => e = .returned (.bool true) ∧ Below w.heap.size w w' := by
  have hn' := hn
  have hm' := hm
  unfold maxLen at hn' hm'
  replace hg := Lib.hid hg
  replace hm := Lib.hid hm
  replace hn := Lib.hid hn
  replace hS := Lib.hid hS
  replace hL := Lib.hid hL
  go_enter Try.func4, Try.ntmps4
  go_wp2_with fail
  go_at_call 10
  refine (bytes _ _ _ _ _ _ _ hn.out hm.out).mono ?_
  rintro e w' ⟨r, rfl, rfl⟩
  cases r with
  | false =>
    go_wp2_with fail
    go_ret
    exact ⟨rfl, Below.refl _ _⟩
  | true =>
    by_cases big : 4096 < n
    · go_wp2_with fail
      go_ret
      exact ⟨rfl, Below.refl _ _⟩
    by_cases big2 : 65536 < m
    · go_wp2_with fail
      go_ret
      exact ⟨rfl, Below.refl _ _⟩
    go_wp2_with fail
    go_at_call 11
    refine (buildC n m cap cap2 o o2 sd g w (by omega) hm.out hS.out hL.out).mono ?_
    rintro e w1 ⟨c, G, hcn, hcs, hcl, rfl, hN, hinj, hG, b1, hge⟩
    have hgood : c.Good := ⟨by rw [hcn]; exact hinj, fun k hk => by rw [hcl]; exact lc_rng hg.out k (by omega), by rw [hcn]; omega⟩
    have hs0 : -268435456 ≤ c.startL 0 ∧ c.startL 0 ≤ 268435456 := by
      unfold Chn.startL
      rw [hcl, hcn]
      split
      · exact lc_rng hg.out _ (by omega)
      · exact lc_rng hg.out _ (by omega)
    have hz := zzTr c hgood
    obtain ⟨t, v, hv⟩ := startI c 0
    have hf : ∀ w2, (∀ j, j < n → c.Node w2 j 1048576) → BoolsAt w2 o n sd → IntsAt .i32 w2 o2 m g → w2.rowIs G 94 n (fun j => .pointer (some ⟨c.I j, 0, none⟩)) → Calls Try.prog 14 #[.agg #[.iface t v, .int .i32 (c.retL 0 (c.startL 0))], .slice o n cap, .slice o2 m cap2, .slice (some ⟨G, 0, none⟩) n n, .int .i32 1048576] w2 fun e w' => e = .returned (.bool true) ∧ Below w2.heap.size w2 w' :=
      fun w2 h1 h2 h3 h4 => check c n m cap cap2 G o o2 sd g w2 (by omega) hm.out hg.out h2 h3 hcn hcs hcl h1 h4 t v
    have hz2 : ∀ w2, (∀ j, j < n → c.Node w2 j 0) → Calls Try.prog 12 #[.agg #[.iface t v, .int .i32 (c.startL 0)], .func (.func 13) #[] #[]] w2 (fun e w' => e = .returned (.agg #[.iface t v, .int .i32 (c.retL 0 (c.startL 0))]) ∧ (∀ j, j < n → c.Node w' j 1048576) ∧ c.Ch 0 w2 w') := fun w2 h => by
      rw [← hv]
      refine (hz w2 (c.startL 0) hs0 (fun j hj => h j (by rw [← hcn]; exact hj))).mono ?_
      rintro e w' ⟨h1, h2, h3⟩
      exact ⟨h1, fun j hj => h2 j (Nat.zero_le _) (by rw [hcn]; exact hj), h3⟩
    rw [hv]
    replace hv := Lib.hid hv
    replace hf := Lib.hid hf
    replace hz2 := Lib.hid hz2
    replace hgood := Lib.hid hgood
    replace hN := Lib.hid hN
    replace hinj := Lib.hid hinj
    replace hG := Lib.hid hG
    replace hge := Lib.hid hge
    replace hcn := Lib.hid hcn
    clear hz hcs hcl hs0
    go_wp2_with fail
    go_at_call 12
    have b12 : Below w1.heap.size w1 (w1.alloc (.cells #[.iface t v, .int .i32 (c.startL 0)] 41)) := (Below.refl _ _).alloc (Nat.le_refl _) _
    have hGn : ∀ j, j < n → G ≠ c.I j := fun j hj e => by
      obtain ⟨c1, h1, _⟩ := hG.out
      obtain ⟨c2, h2, _⟩ := hN.out j hj
      rw [e, h2] at h1
      injection h1 with h1
      injection h1 with _ h1
      exact absurd h1 (by decide)
    have hN2 : ∀ j, j < n → c.Node (w1.alloc (.cells #[.iface t v, .int .i32 (c.startL 0)] 41)) j 0 := fun j hj => Chn.Node.of_below (hN.out j hj) b12
    have hG2 := World.rowIs.of_block (w' := w1.alloc (.cells #[.iface t v, .int .i32 (c.startL 0)] 41)) hG.out (b12.block _ hG.out.lt)
    have bw2 : Below w.heap.size w (w1.alloc (.cells #[.iface t v, .int .i32 (c.startL 0)] 41)) := b1.trans (b12.mono b1.size)
    generalize (w1.alloc (.cells #[.iface t v, .int .i32 (c.startL 0)] 41)) = w2 at hN2 hG2 bw2 ⊢
    refine (hz2.out w2 hN2).mono ?_
    rintro e w3 ⟨rfl, hN3, h3⟩
    have hG3 := hG2.of_block (w' := w3) (h3.block _ hG2.lt (fun j _ hj => hGn j (by rw [← hcn.out]; exact hj)))
    have bw3 : Below w.heap.size w w3 := bw2.trans ⟨h3.os, h3.tape, h3.output, h3.size, fun b hb => h3.block b (Nat.lt_of_lt_of_le hb bw2.size) (fun j _ hj e => by have := hge.out j (by rw [← hcn.out]; exact hj); omega)⟩
    have hck : ∀ w4, Below w3.heap.size w3 w4 → Calls Try.prog 14 #[.agg #[.iface t v, .int .i32 (c.retL 0 (c.startL 0))], .slice o n cap, .slice o2 m cap2, .slice (some ⟨G, 0, none⟩) n n, .int .i32 1048576] w4 fun e w' => e = .returned (.bool true) ∧ Below w4.heap.size w4 w' := fun w4 hb =>
      hf.out w4 (fun j hj => Chn.Node.of_below (hN3 j hj) hb) (hS.out.below (bw3.trans (hb.mono bw3.size))) (hL.out.below (bw3.trans (hb.mono bw3.size))) (hG3.of_block (hb.block _ hG3.lt))
    replace hck := Lib.hid hck
    clear hN3 hG3 h3 hN2 hG2 bw2 b12
    go_wp2_with fail
    have b34 : Below w3.heap.size w3 (w3.alloc (.cells #[.iface t v, .int .i32 (c.retL 0 (c.startL 0))] 41)) := (Below.refl _ _).alloc (Nat.le_refl _) _
    refine (hck.out _ b34).mono ?_
    rintro e w5 ⟨rfl, b5⟩
    have hend : Below w.heap.size w w5 := bw3.trans ((b34.trans (b5.mono b34.size)).mono bw3.size)
    go_wp2_with fail
    go_ret
    exact ⟨rfl, hend⟩
set_option maxRecDepth 100000 in
theorem walk (W : World) {H : Type} {enc : TypeId × Value → H} {base : Nat} {p0 p1 : List MemPlace} (v0 : Value) (d0 : DataW H) (k0 : Value.okWide Try.prog W .any base 35 v0) (h0 : DataW.Trod enc Try.prog W 0 (fun _ => true) true 35 v0 d0 p0) (v1 : Value) (d1 : DataW H) (k1 : Value.okWide Try.prog W .any base 36 v1) (h1 : DataW.Trod enc Try.prog W 0 (fun _ => true) true 36 v1 d1 p1) :
    Calls Try.prog 4 #[v0, v1] W fun e w' => e = .returned (.bool true) ∧ Below W.heap.size W w' := by
  have e1 : IntKind.i32.min = -2147483648 := rfl
  have e2 : IntKind.i32.max = 2147483647 := rfl
  obtain ⟨o1, n1, c1, f1, rfl, x1, y1, i1, z1⟩ := openBools Try.underlying35 Try.underlying4 (by kernel_rfl) k0 h0
  obtain ⟨o2, n2, c2, f2, rfl, x2, y2, i2, g2, z2⟩ := openInts (k := .i32) Try.underlying36 Try.underlying21 (by kernel_rfl) k1 h1
  exact main o1 o2 n1 c1 n2 c2 f1 f2 W (Nat.le_trans x1 y1) (Nat.le_trans x2 y2) i1 i2 (fun i hi => by simpa [Lit.wf, e1, e2] using g2 i hi)
end Go.Proofs.Ytgiehlcmmikgmaa.fnMaybeTransposeIfExprChainVisitsEachLeafOnce
