/-
  The node that zzBuildNew builds. Condition: at most 65536 codes each.
-/
import Derived.Test.YtihpdmoonddjmaaPure6
namespace Go.Proofs.Ytihpdmoonddjmaa.Pure
open Go.RowKit Go.Proofs.Ytihpdmoonddjmaa.Ints

structure A0 (w : World) (b m : Nat) (t0 : TypeId) (D : Nat) (oi : Option Addr) (I : Nat) (ts : Nat → TypeId) (ps : Nat → Addr) : Prop where
  c : w.cell? ⟨b, 0, none⟩ = some (.iface t0 (.pointer (some ⟨D, 0, none⟩)))
  k : Kind8 t0
  d : t0 = 307 → w.cell? ⟨D, 0, none⟩ = some (.slice oi m m)
  i : Its m w oi I ts ps
  lD : b < D
  lI : b < I
theorem A0.below {w w' : World} {b m D I : Nat} {t0 : TypeId} {oi : Option Addr} {ts : Nat → TypeId} {ps : Nat → Addr} (h : A0 w b m t0 D oi I ts ps) (hB : Below w.heap.size w w') : A0 w' b m t0 D oi I ts ps :=
  ⟨bC hB h.c, h.k, fun e => bC hB (h.d e), fun j hj => ⟨(h.i j hj).1, bC hB (h.i j hj).2.1, bC hB (h.i j hj).2.2⟩, h.lD, h.lI⟩
theorem A0.set {w : World} {b m D I r : Nat} {t0 : TypeId} {oi : Option Addr} {ts : Nat → TypeId} {ps : Nat → Addr} (h : A0 w b m t0 D oi I ts ps) (hr : 0 < r) (x y : Value) : A0 ((w.setCell ⟨b, r * 2, none⟩ x).setCell ⟨b, r * 2 + 1, none⟩ y) b m t0 D oi I ts ps := by
  have k : ∀ {p : Addr} {u : Value}, p ≠ ⟨b, r * 2, none⟩ → p ≠ ⟨b, r * 2 + 1, none⟩ → w.cell? p = some u → ((w.setCell ⟨b, r * 2, none⟩ x).setCell ⟨b, r * 2 + 1, none⟩ y).cell? p = some u := fun h1 h2 hc => by
    rw [World.cell?_setCell_other _ _ _ _ (Ne.symm h2), World.cell?_setCell_other _ _ _ _ (Ne.symm h1)]
    exact hc
  have db : ∀ {c o o' : Nat}, b < c → (⟨c, o, none⟩ : Addr) ≠ ⟨b, o', none⟩ := fun hc e => by have := congrArg Addr.block e; simp at this; omega
  exact ⟨k (fun e => by have := congrArg Addr.off e; simp at this; omega) (fun e => by have := congrArg Addr.off e; simp at this) h.c, h.k, fun e => k (db h.lD) (db h.lD) (h.d e), fun j hj => ⟨(h.i j hj).1, k (db h.lI) (db h.lI) (h.i j hj).2.1, k (db h.lI) (db h.lI) (h.i j hj).2.2⟩, h.lD, h.lI⟩
theorem A0.first {w : World} {b m D I : Nat} {t0 : TypeId} {oi : Option Addr} {ts : Nat → TypeId} {ps : Nat → Addr} (hc : ∃ u, w.cell? ⟨b, 0, none⟩ = some u) (hk : Kind8 t0) (hd : t0 = 307 → w.cell? ⟨D, 0, none⟩ = some (.slice oi m m)) (hi : Its m w oi I ts ps) (lD : b < D) (lI : b < I) (y : Value) :
    A0 ((w.setCell ⟨b, 0 * 2, none⟩ (.iface t0 (.pointer (some ⟨D, 0, none⟩)))).setCell ⟨b, 0 * 2 + 1, none⟩ y) b m t0 D oi I ts ps := by
  have db : ∀ {c o o' : Nat}, b < c → (⟨c, o, none⟩ : Addr) ≠ ⟨b, o', none⟩ := fun hc e => by have := congrArg Addr.block e; simp at this; omega
  have k : ∀ {c o : Nat} {u : Value}, b < c → w.cell? ⟨c, o, none⟩ = some u → ((w.setCell ⟨b, 0 * 2, none⟩ (.iface t0 (.pointer (some ⟨D, 0, none⟩)))).setCell ⟨b, 0 * 2 + 1, none⟩ y).cell? ⟨c, o, none⟩ = some u := fun h1 hc => by
    rw [World.cell?_setCell_other _ _ _ _ (Ne.symm (db h1)), World.cell?_setCell_other _ _ _ _ (Ne.symm (db h1))]
    exact hc
  obtain ⟨u, hu⟩ := hc
  refine ⟨?_, hk, fun e => k lD (hd e), fun j hj => ⟨(hi j hj).1, k lI (hi j hj).2.1, k lI (hi j hj).2.2⟩, lD, lI⟩
  rw [World.cell?_setCell_other _ _ _ _ (fun e => by have := congrArg Addr.off e; simp at this)]
  exact World.cell?_setCell_same _ _ _ hu
theorem nilq8 (a : Option Addr) (l c : Nat) (w : World) : (binOp .neq 54 (.slice a l c) (.slice none 0 0)).run Try.prog w = .ok (.bool a.isSome) w := by
  simp [binOp, run_equal_slice_nil w 54 5 a l c Try.underlying54]
/-- The node that was built: its cells, its first argument. -/
def Node (n m T : Nat) (f : Bool) (w : World) (e : Ending) (w' : World) : Prop := ∃ E o, e = .returned (.pointer (some ⟨E, 0, none⟩)) ∧ w.heap.size ≤ E ∧ w'.cell? ⟨E, 0, none⟩ = some (.iface 64 (.pointer (some ⟨T, 0, none⟩))) ∧ w'.cell? ⟨E, 1, none⟩ = some (.int .i32 0) ∧ w'.cell? ⟨E, 2, none⟩ = some (.slice o n n) ∧ w'.cell? ⟨E, 5, none⟩ = some (.bool f) ∧ w'.frozen? ⟨E, 5, none⟩ = false ∧
    (n = 1 → ∃ b t0 D oi I ts ps, o = some ⟨b, 0, none⟩ ∧ A0 w' b m t0 D oi I ts ps ∧ I ≠ E) ∧ Below w.heap.size w w'
set_option maxRecDepth 100000 in
set_option maxHeartbeats 2000000 in
theorem new_some (f : Bool) (a : Addr) (o2 : Option Addr) (n c m c2 T : Nat) (g1 g2 : Nat → Int) (w : World) (hn : n ≤ 65536) (hm : m ≤ 65536) (hI : IntsAt .u8 w (some a) n g1) (hI2 : IntsAt .u8 w o2 m g2) (z2 : o2 = none → m = 0 ∧ c2 = 0)
    (hf : ∀ i, i < n → 0 ≤ g1 i ∧ g1 i < 256) (hf2 : ∀ i, i < m → 0 ≤ g2 i ∧ g2 i < 256) :
    Calls Try.prog 25 #[.bool f, .slice (some a) n c, .slice o2 m c2, .pointer (some ⟨T, 0, none⟩)] w (Node n m T f w) := by
  have hmk := mkE n hn
  have hnil := nilq8 (some a) n c
  replace hf := Lib.hid hf
  replace hf2 := Lib.hid hf2
  replace z2 := Lib.hid z2
  go_enter Try.func25, Try.ntmps25
  go_wp2_with fail
  clear hmk hnil
  go_loopg [10] n (fun gk i wr => ∃ r : Nat, r ≤ n ∧ gk = n - r ∧ i = .int .i64 r ∧ Below w.heap.size w wr ∧ RowE wr w.heap.size n r ∧ (0 < r → ∃ t0 D oi I ts ps, A0 wr w.heap.size m t0 D oi I ts ps))
  case atStart => exact ⟨0, Nat.zero_le _, rfl, rfl, (Below.refl _ _).alloc (Nat.le_refl _) _, rowE_made w n, fun h => absurd h (by omega)⟩
  case round =>
    obtain ⟨r, hr, rfl, rfl, hB, hR, hA⟩ := hrel
    rcases Nat.lt_or_ge r n with hlt | hge
    · rcases hI with h0 | ⟨bb, off, he, hbb, hc⟩
      · omega
      · cases he
        obtain ⟨f0, f1⟩ := hf.out r hlt
        have q2 : wr.cell? ⟨bb, off + r, none⟩ = some (.int .u8 (g1 r)) := (hB.cell (by exact hbb)).trans (hc r hlt)
        clear hc
        rcases Nat.eq_zero_or_pos r with hr0 | hr0
        · subst hr0
          clear hA
          rw [Nat.add_zero] at q2
          go_wp2_with fail
          go_at_call 45
          refine (items o2 m c2 g2 _ hm (hI2.below hB) z2.out hf2.out).mono ?_
          rintro e w1 ⟨oi, I, ts, ps, rfl, lI, hIt, B1⟩
          replace q2 := bC B1 q2
          have hR1 := hR.below B1
          replace hB := hB.trans (B1.mono hB.size)
          have lb : w.heap.size < wr.heap.size := by obtain ⟨F, hF, _⟩ := hR; exact hF.lt
          have lw := B1.size
          clear hR B1
          replace hIt := Lib.hid hIt
          go_wp2_with fail
          go_at_call 46
          refine (makeArg _ _ _ _ f0 f1 _).mono ?_
          rintro e w2 ⟨t, D, rfl, lD, hk, hd, B2⟩
          have hR2 := hR1.below B2
          replace hB := hB.trans (B2.mono hB.size)
          obtain ⟨x, y, d0, d1, d2, d3⟩ := hR2.cells hlt
          have hN := Lib.hid (hR2.set t D)
          have hA := Lib.hid (A0.first (y := .int .i32 0) ⟨_, d0⟩ hk hd (fun j hj => ⟨(hIt.out j hj).1, bC B2 (hIt.out j hj).2.1, bC B2 (hIt.out j hj).2.2⟩) (by omega) (by omega))
          clear hR1 hR2 B2 q2 hk hd hIt
          simp only [Nat.zero_mul, Nat.zero_add] at d0 d1 d2 d3
          go_wp2_with fail
          go_roundg (n - (0 + 1))
          case measure => omega
          case rel => exact ⟨0 + 1, by omega, rfl, rfl, (hB.setCell (by exact Nat.le_refl _) _).setCell (by exact Nat.le_refl _) _, hN.out, fun _ => ⟨_, _, _, _, _, _, hA.out⟩⟩
        · have rz : ((r : Int) == 0) = false := by rw [beq_eq_false_iff_ne]; omega
          obtain ⟨t0, D0, oi, I, ts, ps, hA0⟩ := hA hr0
          clear hA
          go_wp2_with fail
          go_at_call 46
          refine (makeArg _ _ _ _ f0 f1 _).mono ?_
          rintro e w2 ⟨t, D, rfl, lD, hk, hd, B2⟩
          have hR2 := hR.below B2
          have hA2 := (hA0.below B2).set hr0 (.iface t (.pointer (some ⟨D, 0, none⟩))) (.int .i32 0)
          replace hB := hB.trans (B2.mono hB.size)
          obtain ⟨x, y, d0, d1, d2, d3⟩ := hR2.cells hlt
          have hN := Lib.hid (hR2.set t D)
          replace hA2 := Lib.hid hA2
          clear hR hR2 B2 q2 hk hd hA0
          go_wp2_with fail
          go_roundg (n - (r + 1))
          case measure => omega
          case rel => exact ⟨r + 1, by omega, rfl, rfl, (hB.setCell (by exact Nat.le_refl _) _).setCell (by exact Nat.le_refl _) _, hN.out, fun _ => ⟨t0, D0, oi, I, ts, ps, hA2.out⟩⟩
    · have hrn : r = n := by omega
      subst hrn
      clear hI hI2
      replace hA := Lib.hid hA
      go_wp2_with fail
      go_ret
      have bA : Below wr.heap.size wr (wr.alloc (.cells #[.iface 64 (.pointer (some ⟨T, 0, none⟩)), .int .i32 0, .slice (some ⟨w.heap.size, 0, none⟩) r r, .int .i32 0, .bool false, .bool f] 75)) := (Below.refl _ _).alloc (Nat.le_refl _) _
      refine ⟨wr.heap.size, some ⟨w.heap.size, 0, none⟩, rfl, hB.size, by go_simp, by go_simp, by go_simp, by go_simp, by go_simp, fun h1 => ?_, hB.alloc hB.size _⟩
      obtain ⟨t0, D, oi, I, ts, ps, hA0⟩ := hA.out (by omega)
      by_cases hm0 : 0 < m
      · have lIw : I < wr.heap.size := lt_of_cell (hA0.i 0 hm0).2.1
        exact ⟨_, t0, D, oi, I, ts, ps, rfl, hA0.below bA, Nat.ne_of_lt lIw⟩
      · have hA1 := hA0.below bA
        have hz := hB.size
        exact ⟨_, t0, D, oi, wr.heap.size + 1, ts, ps, rfl, ⟨hA1.c, hA1.k, hA1.d, fun j hj => absurd hj (by omega), hA1.lD, by omega⟩, by omega⟩
set_option maxRecDepth 100000 in
set_option maxHeartbeats 2000000 in
theorem new_none (f : Bool) (o2 : Option Addr) (m c2 T : Nat) (w : World) :
    Calls Try.prog 25 #[.bool f, .slice none 0 0, .slice o2 m c2, .pointer (some ⟨T, 0, none⟩)] w (Node 0 m T f w) := by
  have hnil := nilq8 none 0 0
  go_enter Try.func25, Try.ntmps25
  go_wp2_with fail
  refine wp_loop_rounds 1 ?_
  rw [rounds_succ]
  go_wp2_with fail
  go_ret
  exact ⟨w.heap.size, none, rfl, Nat.le_refl _, by go_simp, by go_simp, by go_simp, by go_simp, by go_simp, fun h1 => absurd h1 (by decide), (Below.refl _ _).alloc (Nat.le_refl _) _⟩
end Go.Proofs.Ytihpdmoonddjmaa.Pure
