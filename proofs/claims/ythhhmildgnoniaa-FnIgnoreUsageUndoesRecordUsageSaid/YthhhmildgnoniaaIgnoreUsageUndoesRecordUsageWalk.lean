/-
  The walk of FnIgnoreUsageUndoesRecordUsage: it returns true for every input. No condition.
-/
import Derived.Test.YthhhmildgnoniaaUse6
namespace Go.Proofs.Ythhhmildgnoniaa.fnIgnoreUsageUndoesRecordUsage
open Go.RowKit Go.ChangeShapes Go.WideShapes Go.ChangeAt Go.Proofs.Ythhhmildgnoniaa.Ints Go.Maps Go.Proofs.Ythhhmildgnoniaa.Use

theorem infoB : (Try.prog.info? 4).map (fun i => (i.zero, i.size, i.bytes)) = some (some (.bool false), 1, 1) := by kernel_rfl
theorem _root_.Go.Proofs.Ythhhmildgnoniaa.Use.St.fresh {w : World} {P S T n N : Nat} {q : Option (Nat × Nat)} {dead tp : Bool} {U C c : Nat → Nat} {D : DataW Unit} (h : St w P S T n q dead tp U C c D N) {b : Nat} (hb : w.heap.size ≤ b := by exact Nat.le_refl _) : ¬ SS S T q b := by
  obtain ⟨G, hG, _⟩ := h.sy
  have h1 := hG.lt
  have h2 := h.ts.lt
  rintro (rfl | rfl | ⟨p, e⟩)
  · omega
  · omega
  · have := (h.part p b e).2.1.lt
    omega
theorem belowN {B : Nat} {a w : World} (h : Below B a w) (n : Nat) : Below B a (w.drewN n) := ⟨h.os, h.tape, h.output, h.size, h.block⟩
section
variable {P S T n N x : Nat} {q : Option (Nat × Nat)} {dead tp : Bool} {U C c : Nat → Nat} {D : DataW Unit} {w : World}
theorem useQ (hx : x < n) (h : St w P S T n q dead tp U C c D N) (k : Nat) :
    Calls Try.prog 8 #[.pointer (some ⟨P, 0, none⟩), .int .u32 x] (w.drewN k) fun e w'' => e = .returned (.int .u32 (U x : Int)) ∧ ∃ y, w'' = w.drewN y :=
  Calls.quiet_of_same ((useCount P S T n N x q dead tp U C c D (w.drewN k) hx (h.keep (belowN (Below.refl _ _) k))).mono fun _ _ h => ⟨h.1, h.2.symm⟩)
theorem tsQ (hx : x < n) (h : St w P S T n q dead tp U C c D N) (k : Nat) :
    Calls Try.prog 9 #[.pointer (some ⟨P, 0, none⟩), .int .u32 x] (w.drewN k) fun e w'' => e = .returned (.int .u32 (C x : Int)) ∧ ∃ y, w'' = w.drewN y :=
  Calls.quiet_of_same ((tsCount P S T n N x q dead tp U C c D (w.drewN k) hx (h.keep (belowN (Below.refl _ _) k))).mono fun _ _ h => ⟨h.1, h.2.symm⟩)
end
structure Four (V wr : World) (n r1 r2 r3 r4 : Nat) (f1 f2 f3 : Nat → Int) (f4 : Nat → Bool) : Prop where
  below : Below V.heap.size V wr
  size : V.heap.size + 4 ≤ wr.heap.size
  a : wr.rowIs V.heap.size 23 n (fillTo .u32 r1 f1)
  b : wr.rowIs (V.heap.size + 1) 23 n (fillTo .u32 r2 f2)
  c : wr.rowIs (V.heap.size + 1 + 1) 23 n (fillTo .u32 r3 f3)
  d : wr.rowIs (V.heap.size + 1 + 1 + 1) 4 n (fillB r4 f4)
section
variable {V wr w' : World} {n r1 r2 r3 r4 : Nat} {f1 f2 f3 : Nat → Int} {f4 : Nat → Bool}
theorem Four.next (h : Four V wr n r1 r2 r3 r4 f1 f2 f3 f4) (hb : Below wr.heap.size wr w') : Four V w' n r1 r2 r3 r4 f1 f2 f3 f4 :=
  ⟨h.below.trans (hb.mono (by have := h.size; omega)), Nat.le_trans h.size hb.size, h.a.of_block (hb.block _ h.a.lt), h.b.of_block (hb.block _ h.b.lt), h.c.of_block (hb.block _ h.c.lt), h.d.of_block (hb.block _ h.d.lt)⟩
theorem Four.setA (h : Four V wr n r1 r2 r3 r4 f1 f2 f3 f4) : Four V (wr.setCell ⟨V.heap.size, r1, none⟩ (.int .u32 (f1 r1))) n (r1 + 1) r2 r3 r4 f1 f2 f3 f4 :=
  ⟨h.below.setCell (Nat.le_refl _) _, by simpa using h.size, fill_set h.a, h.b.setOther (by show V.heap.size + 1 ≠ V.heap.size; omega) _, h.c.setOther (by show V.heap.size + 1 + 1 ≠ V.heap.size; omega) _, h.d.setOther (by show V.heap.size + 1 + 1 + 1 ≠ V.heap.size; omega) _⟩
theorem Four.setB (h : Four V wr n r1 r2 r3 r4 f1 f2 f3 f4) : Four V (wr.setCell ⟨V.heap.size + 1, r2, none⟩ (.int .u32 (f2 r2))) n r1 (r2 + 1) r3 r4 f1 f2 f3 f4 :=
  ⟨h.below.setCell (by show V.heap.size ≤ V.heap.size + 1; omega) _, by simpa using h.size, h.a.setOther (by show V.heap.size ≠ V.heap.size + 1; omega) _, fill_set h.b, h.c.setOther (by show V.heap.size + 1 + 1 ≠ V.heap.size + 1; omega) _, h.d.setOther (by show V.heap.size + 1 + 1 + 1 ≠ V.heap.size + 1; omega) _⟩
theorem Four.setC (h : Four V wr n r1 r2 r3 r4 f1 f2 f3 f4) : Four V (wr.setCell ⟨V.heap.size + 1 + 1, r3, none⟩ (.int .u32 (f3 r3))) n r1 r2 (r3 + 1) r4 f1 f2 f3 f4 :=
  ⟨h.below.setCell (by show V.heap.size ≤ V.heap.size + 1 + 1; omega) _, by simpa using h.size, h.a.setOther (by show V.heap.size ≠ V.heap.size + 1 + 1; omega) _, h.b.setOther (by show V.heap.size + 1 ≠ V.heap.size + 1 + 1; omega) _, fill_set h.c, h.d.setOther (by show V.heap.size + 1 + 1 + 1 ≠ V.heap.size + 1 + 1; omega) _⟩
theorem Four.setD (h : Four V wr n r1 r2 r3 r4 f1 f2 f3 f4) : Four V (wr.setCell ⟨V.heap.size + 1 + 1 + 1, r4, none⟩ (.bool (f4 r4))) n r1 r2 r3 (r4 + 1) f1 f2 f3 f4 :=
  ⟨h.below.setCell (by show V.heap.size ≤ V.heap.size + 1 + 1 + 1; omega) _, by simpa using h.size, h.a.setOther (by show V.heap.size ≠ V.heap.size + 1 + 1 + 1; omega) _, h.b.setOther (by show V.heap.size + 1 ≠ V.heap.size + 1 + 1 + 1; omega) _, h.c.setOther (by show V.heap.size + 1 + 1 ≠ V.heap.size + 1 + 1 + 1; omega) _, fillB_set h.d⟩
end
theorem four_start (V : World) (n : Nat) (f1 f2 f3 : Nat → Int) (f4 : Nat → Bool) :
    Four V ((((V.alloc (.cells (madeCells #[.int .u32 0] n) 23)).alloc (.cells (madeCells #[.int .u32 0] n) 23)).alloc (.cells (madeCells #[.int .u32 0] n) 23)).alloc (.cells (madeCells #[.bool false] n) 4)) n 0 0 0 0 f1 f2 f3 f4 := by
  have h1 := filling_start V 23 .u32 n f1
  have e1 := h1.size
  have h2 := filling_start (V.alloc (.cells (madeCells #[.int .u32 0] n) 23)) 23 .u32 n f2
  have e2 := h2.size
  rw [e1] at e2
  have r2 := h2.row
  rw [e1] at r2
  have h3 := filling_start ((V.alloc (.cells (madeCells #[.int .u32 0] n) 23)).alloc (.cells (madeCells #[.int .u32 0] n) 23)) 23 .u32 n f3
  have e3 := h3.size
  rw [e2] at e3
  have r3 := h3.row
  rw [e2] at r3
  have h4 := fillingB_start (((V.alloc (.cells (madeCells #[.int .u32 0] n) 23)).alloc (.cells (madeCells #[.int .u32 0] n) 23)).alloc (.cells (madeCells #[.int .u32 0] n) 23)) 4 n f4
  have e4 := h4.size
  rw [e3] at e4
  have r4 := h4.row
  rw [e3] at r4
  exact ⟨((h1.below.alloc (by omega) _).alloc (by omega) _).alloc (by omega) _, by omega, ((h1.row.alloc _).alloc _).alloc _, (r2.alloc _).alloc _, r3.alloc _, r4⟩
theorem _root_.Go.Proofs.Ythhhmildgnoniaa.Use.St.congr {w : World} {P S T n N : Nat} {q : Option (Nat × Nat)} {dead tp : Bool} {U C c U' c' : Nat → Nat} {D : DataW Unit} (h : St w P S T n q dead tp U C c D N) (hU : ∀ i, U' i = U i) (hc : ∀ i, c' i = c i) : St w P S T n q dead tp U' C c' D N := by
  rw [show U' = U from funext hU, show c' = c from funext hc]
  exact h
theorem upd_back (U : Nat → Nat) (x : Nat) : ∀ i, U i = upd (upd U x (U x + 1)) x (upd U x (U x + 1) x - 1) i := fun i => by
  unfold upd
  by_cases e : i = x
  · subst e; simp
  · simp [e]
theorem plen_back {w : World} {P S T n N x : Nat} {q : Option (Nat × Nat)} {dead tp : Bool} {U C c : Nat → Nat} {D : DataW Unit} (h : St w P S T n q dead tp U C c D N) (hx : x < n) :
    plen q (cond dead (cond dead D (D.put (kl x) (cnt (c x + 1)))) (back (cond dead D (D.put (kl x) (cnt (c x + 1)))) x (cond dead c (upd c x (c x + 1)) x))) = plen q D := by
  cases dead
  · cases q with
    | none => rfl
    | some q =>
      obtain ⟨p, M⟩ := q
      obtain ⟨h1, h2, h3, _⟩ := h.part p M rfl
      have h4 := h3.size_back h.small.1 hx (c x + 1) (Nat.succ_ne_zero _)
      show Maps.size (back (D.put (kl x) (cnt (c x + 1))) x (upd c x (c x + 1) x)) = Maps.size D
      rw [show upd c x (c x + 1) x = c x + 1 from by simp [upd]]
      unfold back
      by_cases e : c x = 0
      · rw [if_pos (by omega)]
        exact h4.1 e
      · rw [if_neg (by omega)]
        exact h4.2 e _
  · rfl
def SomeBool (w : World) (e : Ending) (w' : World) : Prop := ∃ r : Bool, e = .returned (.bool r) ∧ w = w'
theorem bytes (o : Option Addr) (m cap : Nat) (a b c d e : Value) (w : World) (m1 : m ≤ maxLen) :
    Calls Try.prog 5 #[a, .slice o m cap, b, c, d, e] w (SomeBool w) := by
  unfold maxLen at m1
  go_enter Try.func5, Try.ntmps5
  go_wp2
  all_goals
    go_ret
    exact ⟨_, rfl, rfl⟩
set_option maxRecDepth 20000 in
set_option maxHeartbeats 2000000 in
theorem main (n x m cap : Nat) (dead tp wp : Bool) (o : Option Addr) (f : Nat → Int) (w : World) (hn1 : 1 ≤ n) (hn : n ≤ 4096) (hx : x < n) (hm : m ≤ 65536) (hI : IntsAt .u32 w o m f) (hf : ∀ i, i < m → 0 ≤ f i ∧ f i ≤ 4294967295) :
    Calls Try.prog 3 #[.int .i64 n, .slice o m cap, .int .u32 x, .bool dead, .bool tp, .bool wp] w fun e w' => e = .returned (.bool true) ∧ Below w.heap.size w w' := by
  have hn2 : (n : Int) % 4294967296 = n := by omega
  go_enter Try.func3, Try.ntmps3
  go_wp2_with fail
  go_at_call 5
  refine (bytes _ _ _ _ _ _ _ _ _ (by unfold maxLen; omega)).mono ?_
  rintro e w' ⟨r, rfl, rfl⟩
  cases r with
  | false =>
    go_wp2_with fail
    go_ret
    exact ⟨rfl, Below.refl _ _⟩
  | true =>
    go_wp2_with fail
    go_loopg [55] m (fun g i wr => ∃ r : Nat, r ≤ m ∧ g = m - r ∧ i = .int .i64 r ∧ w = wr ∧ ∀ j, j < r → f j < n)
    case atStart => exact ⟨0, Nat.zero_le _, rfl, rfl, rfl, fun j h => absurd h (Nat.not_lt_zero _)⟩
    case round =>
      obtain ⟨r, hr, rfl, rfl, rfl, hlow⟩ := hrel
      replace hlow := Lib.hid hlow
      rcases Nat.lt_or_ge r m with hlt | hge
      · rcases hI with h0 | ⟨b, off, rfl, hb, hc⟩
        · omega
        · have g2 := hc r hlt
          replace hc := Lib.hid hc
          obtain ⟨f1, f2⟩ := hf r hlt
          replace hf := Lib.hid hf
          by_cases hfr : f r < n
          · go_wp2_with fail
            go_roundg (m - (r + 1))
            case measure => omega
            case rel => exact ⟨r + 1, by omega, rfl, rfl, rfl, fun j hj => by
              rcases Nat.lt_or_ge j r with h | h
              · exact hlow.out j h
              · rwa [show j = r by omega]⟩
          · go_wp2_with fail
            go_ret
            exact ⟨rfl, Below.refl _ _⟩
      · replace hI := Lib.hid hI
        replace hf := Lib.hid hf
        go_wp2_with fail
        go_at_call 6
        refine (newParser n dead tp wp _ hn).mono ?_
        rintro e w1 ⟨P, S, T, q, rfl, hq, h1, b1, hSS⟩
        replace hq := Lib.hid hq
        replace h1 := Lib.hid h1
        replace b1 := Lib.hid b1
        replace hSS := Lib.hid hSS
        go_wp2_with fail
        go_loopg [71] m (fun g i wr => ∃ (k : Nat) (U C c : Nat → Nat) (D : DataW Unit) (N : Nat), k ≤ m ∧ g = m - k ∧ i = .int .i64 k ∧ St wr P S T n q dead tp U C c D N ∧ N ≤ 2 * k ∧ Below w.heap.size w wr)
        case atStart => exact ⟨0, _, _, _, _, _, Nat.zero_le _, rfl, rfl, h1.out, Nat.le_refl _, b1.out⟩
        case round =>
          obtain ⟨k, U, C, c, D, N, hk, rfl, rfl, h2, hN, b2⟩ := hrel
          rcases Nat.lt_or_ge k m with hlt | hge2
          · obtain ⟨b, off, rfl, hb, hc⟩ := (hI.out.resolve_left (by omega))
            have g2 := (b2.cell (p := ⟨b, off + k, none⟩) hb).trans (hc k hlt)
            have g3 := hlow.out k (by omega)
            obtain ⟨f1, f2⟩ := hf.out k hlt
            obtain ⟨y, hy⟩ := Int.eq_ofNat_of_zero_le f1
            rw [hy] at g2 g3
            have hyn : y < n := by omega
            replace hc := Lib.hid hc
            replace h2 := Lib.hid h2
            replace b2 := Lib.hid b2
            clear f1 f2 hy g3
            go_wp2_with fail
            go_at_call 7
            refine (recordZ P S T n N y q dead tp U C c D wr hyn (by omega) h2.out h2.out.fresh).mono ?_
            rintro e w2 ⟨rfl, o3, h3⟩
            replace o3 := Lib.hid o3
            replace h3 := Lib.hid h3
            go_wp2_with fail
            go_roundg (m - (k + 1))
            case measure => omega
            case rel => exact ⟨k + 1, _, _, _, _, N + 2, by omega, rfl, rfl, h3.out, by omega, b2.out.trans (o3.out.below b2.out.size hSS.out)⟩
          · obtain ⟨V, rfl⟩ : ∃ V, V = wr := ⟨_, rfl⟩
            replace h2 := Lib.hid h2
            replace b2 := Lib.hid b2
            have hmk := run_make_row' (P := Try.prog) 22 23 (.int .u32 0) 4 Try.underlying22 info32 rfl .i64 .i64 n (by omega) (by omega)
            have hmb := run_make_row' (P := Try.prog) 28 4 (.bool false) 1 Try.underlying28 infoB rfl .i64 .i64 n (by omega) (by omega)
            go_wp2_with fail
            clear hmk hmb
            rw [show decide (k < m) = false from decide_eq_false (by omega)]
            go_loopg [22] n (fun g i w3 => ∃ j : Nat, j ≤ n ∧ g = n - j ∧ i = .int .i64 j ∧ Four V w3 n j j j j (fun i => (U i : Int)) (fun i => (C i : Int)) (fun i => (puse q c i : Int)) (fun i => decide (puse q c i ≠ 0)))
            case atStart => exact ⟨0, Nat.zero_le _, rfl, rfl, four_start _ _ _ _ _ _⟩
            case round =>
              obtain ⟨j, hj, rfl, rfl, hF⟩ := hrel
              have h4 := h2.out.keep hF.below
              rcases Nat.lt_or_ge j n with hlt | hge3
              · have hj2 : (j : Int) % 4294967296 = j := by omega
                have z1 := hF.a.cell hlt
                have z2 := hF.a.frozen j
                rw [show fillTo .u32 j (fun i => (U i : Int)) j = .int .u32 0 from by simp [fillTo]] at z1
                have hF1 := hF.setA
                replace h4 := Lib.hid h4
                replace hF := Lib.hid hF
                replace hF1 := Lib.hid hF1
                go_wp2_with fail
                go_at_call 8
                refine (useCount P S T n N j q dead tp U C c D _ hlt h4.out).mono ?_
                rintro e w4 ⟨rfl, rfl⟩
                go_wp2_with fail
                generalize (wr.setCell _ _) = X1 at hF1 ⊢
                clear z1 z2 h4 hF
                have z1 := hF1.out.b.cell hlt
                have z2 := hF1.out.b.frozen j
                rw [show fillTo .u32 j (fun i => (C i : Int)) j = .int .u32 0 from by simp [fillTo]] at z1
                have hF2 := hF1.out.setB
                have h4 := h2.out.keep hF1.out.below
                replace h4 := Lib.hid h4
                replace hF2 := Lib.hid hF2
                go_at_call 9
                refine (tsCount P S T n N j q dead tp U C c D _ hlt h4.out).mono ?_
                rintro e w4 ⟨rfl, rfl⟩
                go_wp2_with fail
                generalize (X1.setCell _ _) = X2 at hF2 ⊢
                clear z1 z2 h4 hF1
                have h4 := h2.out.keep hF2.out.below
                replace h4 := Lib.hid h4
                go_at_call 10
                refine (partUse P S T n N j q dead tp U C c D _ hlt h4.out).mono ?_
                rintro e X3 ⟨rfl, b4⟩
                have hF3 := hF2.out.next b4
                have z1 := hF3.c.cell hlt
                have z2 := hF3.c.frozen j
                rw [show fillTo .u32 j (fun i => (puse q c i : Int)) j = .int .u32 0 from by simp [fillTo]] at z1
                have hF4 := hF3.setC
                have z3 := hF4.d.cell hlt
                have z4 := hF4.d.frozen j
                rw [show fillB j (fun i => decide (puse q c i ≠ 0)) j = .bool false from by simp [fillB]] at z3
                have hF5 := hF4.setD
                replace hF3 := Lib.hid hF3
                replace hF4 := Lib.hid hF4
                replace hF5 := Lib.hid hF5
                replace b4 := Lib.hid b4
                clear h4 hF2
                generalize (puse q c j : Int) = pu at *
                generalize decide (puse q c j ≠ 0) = pk at *
                go_wp2_with fail
                go_roundg (n - (j + 1))
                case measure => omega
                case rel => exact ⟨j + 1, by omega, rfl, rfl, hF5.out⟩
              · replace hF := Lib.hid hF
                replace h4 := Lib.hid h4
                have hjn : j = n := by omega
                rw [hjn] at hF
                go_wp2_with fail
                go_at_call 11
                refine (partLen P S T n N q dead tp U C c D _ h4.out).mono ?_
                rintro e w4 ⟨rfl, rfl⟩
                go_wp2_with fail
                go_at_call 7
                refine (recordZ P S T n N x q dead tp U C c D wr hx (by omega) h4.out h4.out.fresh).mono ?_
                rintro e w5 ⟨rfl, o5, h5⟩
                replace o5 := Lib.hid o5
                replace h5 := Lib.hid h5
                go_wp2_with fail
                go_at_call 12
                refine (ignoreZ P S T n (N + 2) x q dead tp _ _ _ _ w5 hx (by omega) h5.out h5.out.fresh (fun hd => ?_)).mono ?_
                · subst hd
                  exact ⟨by simp [upd], fun _ => by simp [upd]⟩
                rintro e w6 ⟨rfl, o6, h6⟩
                replace o6 := Lib.hid o6
                replace h6 := Lib.hid h6
                have h7 : St w6 P S T n q dead tp U (cond tp (upd C x (C x + 1)) C) c _ (N + 2 + 2) := h6.out.congr (fun i => by cases dead <;> first | rfl | exact upd_back U x i) (fun i => by cases dead <;> first | rfl | exact upd_back c x i)
                have hpl := plen_back h4.out hx
                have nf : ∀ b, V.heap.size ≤ b → ¬ SS S T q b := fun b hb => h2.out.fresh hb
                have za : ∀ i, i < n → w6.cell? ⟨V.heap.size, i, none⟩ = some (.int .u32 (U i : Int)) := fun i hi => o6.out.cell (o5.out.cell ((hF.out.a.cell hi).trans (by simp [fillTo, hi])) (nf _ (Nat.le_refl _))) (nf _ (Nat.le_refl _))
                have zb : ∀ i, i < n → w6.cell? ⟨V.heap.size + 1, i, none⟩ = some (.int .u32 (C i : Int)) := fun i hi => o6.out.cell (o5.out.cell ((hF.out.b.cell hi).trans (by simp [fillTo, hi])) (nf _ (by omega))) (nf _ (by omega))
                have zc : ∀ i, i < n → w6.cell? ⟨V.heap.size + 1 + 1, i, none⟩ = some (.int .u32 (puse q c i : Int)) := fun i hi => o6.out.cell (o5.out.cell ((hF.out.c.cell hi).trans (by simp [fillTo, hi])) (nf _ (by omega))) (nf _ (by omega))
                have zd : ∀ i, i < n → w6.cell? ⟨V.heap.size + 1 + 1 + 1, i, none⟩ = some (.bool (decide (puse q c i ≠ 0))) := fun i hi => o6.out.cell (o5.out.cell ((hF.out.d.cell hi).trans (by simp [fillB, hi])) (nf _ (by omega))) (nf _ (by omega))
                have b6 : Below w.heap.size w w6 := (((b2.out.trans (hF.out.below.mono b2.out.size)).trans (o5.out.below (Nat.le_trans b2.out.size hF.out.below.size) hSS.out))).trans (o6.out.below (Nat.le_trans (Nat.le_trans b2.out.size hF.out.below.size) o5.out.size) hSS.out)
                replace h7 := Lib.hid h7
                replace hpl := Lib.hid hpl
                replace nf := Lib.hid nf
                replace za := Lib.hid za
                replace zb := Lib.hid zb
                replace zc := Lib.hid zc
                replace zd := Lib.hid zd
                replace b6 := Lib.hid b6
                go_wp2_with fail
                go_loopg [27] n (fun g i w7 => ∃ y : Nat, y ≤ n ∧ g = n - y ∧ i = .int .i64 y ∧ Below w6.heap.size w6 w7)
                case atStart => exact ⟨0, Nat.zero_le _, rfl, rfl, Below.refl _ _⟩
                case round =>
                  obtain ⟨y, hy, rfl, rfl, b7⟩ := hrel
                  have h8 := h7.out.keep b7
                  rcases Nat.lt_or_ge y n with hlt | hge4
                  · have hy2 : (y : Int) % 4294967296 = y := by omega
                    have z1 := (b7.cell (p := ⟨V.heap.size, y, none⟩) (lt_of_cell (za.out y hlt))).trans (za.out y hlt)
                    replace h8 := Lib.hid h8
                    replace b7 := Lib.hid b7
                    go_wp2_with fail
                    go_quiet ((go_at_call 8; exact useQ hlt h8.out _))
                    have b8 := b7.out.trans ((belowN (Below.refl _ wr) nq).mono b7.out.size)
                    generalize wr.drewN nq = X1 at *
                    have z2 := (b8.cell (p := ⟨V.heap.size + 1, y, none⟩) (lt_of_cell (zb.out y hlt))).trans (zb.out y hlt)
                    have h9 := h7.out.keep b8
                    clear z1 h8
                    replace h9 := Lib.hid h9
                    replace b8 := Lib.hid b8
                    have bC := (h2.out.le y hlt).2.1
                    cases tp with
                    | false =>
                      have hyx : True := trivial
                      go_wp2_with fail
                      go_at_call 9
                      refine (tsCount P S T n _ y q dead _ U _ c _ _ hlt h9.out).mono ?_
                      rintro e w8 ⟨rfl, rfl⟩
                      rw [show cond false (upd C x (C x + 1)) C y = C y from rfl]
                      go_wp2_with fail
                      go_at_call 10
                      refine (partUse P S T n _ y q dead _ U _ c _ _ hlt h9.out).mono ?_
                      rintro e X2 ⟨rfl, b9⟩
                      have ba := b8.out.trans (b9.mono b8.out.size)
                      have z3 := (ba.cell (p := ⟨V.heap.size + 1 + 1, y, none⟩) (lt_of_cell (zc.out y hlt))).trans (zc.out y hlt)
                      have z4 := (ba.cell (p := ⟨V.heap.size + 1 + 1 + 1, y, none⟩) (lt_of_cell (zd.out y hlt))).trans (zd.out y hlt)
                      replace ba := Lib.hid ba
                      replace b9 := Lib.hid b9
                      clear z2
                      generalize (puse q c y : Int) = pu at *
                      generalize decide (puse q c y ≠ 0) = pk at *
                      go_wp2_with fail
                      go_roundg (n - (y + 1))
                      case measure => omega
                      case rel => exact ⟨y + 1, by omega, rfl, rfl, ba.out⟩
                    | true =>
                      by_cases hyx : y = x
                      · subst hyx
                        have e9 : ((C y + 1 : Nat) : Int) = (C y : Int) + 1 := by omega
                        go_wp2_with fail
                        go_at_call 9
                        refine (tsCount P S T n _ y q dead _ U _ c _ _ hlt h9.out).mono ?_
                        rintro e w8 ⟨rfl, rfl⟩
                        rw [show cond true (upd C y (C y + 1)) C y = C y + 1 from by simp [upd], e9]
                        clear e9
                        go_wp2_with fail
                        go_at_call 10
                        refine (partUse P S T n _ y q dead _ U _ c _ _ hlt h9.out).mono ?_
                        rintro e X2 ⟨rfl, b9⟩
                        have ba := b8.out.trans (b9.mono b8.out.size)
                        have z3 := (ba.cell (p := ⟨V.heap.size + 1 + 1, y, none⟩) (lt_of_cell (zc.out y hlt))).trans (zc.out y hlt)
                        have z4 := (ba.cell (p := ⟨V.heap.size + 1 + 1 + 1, y, none⟩) (lt_of_cell (zd.out y hlt))).trans (zd.out y hlt)
                        replace ba := Lib.hid ba
                        replace b9 := Lib.hid b9
                        clear z2
                        generalize (puse q c y : Int) = pu at *
                        generalize decide (puse q c y ≠ 0) = pk at *
                        go_wp2_with fail
                        go_roundg (n - (y + 1))
                        case measure => omega
                        case rel => exact ⟨y + 1, by omega, rfl, rfl, ba.out⟩
                      · have hyx2 : ¬ ((y : Int) = x) := by omega
                        go_wp2_with fail
                        go_at_call 9
                        refine (tsCount P S T n _ y q dead _ U _ c _ _ hlt h9.out).mono ?_
                        rintro e w8 ⟨rfl, rfl⟩
                        rw [show cond true (upd C x (C x + 1)) C y = C y from by simp [upd, hyx]]
                        go_wp2_with fail
                        go_at_call 10
                        refine (partUse P S T n _ y q dead _ U _ c _ _ hlt h9.out).mono ?_
                        rintro e X2 ⟨rfl, b9⟩
                        have ba := b8.out.trans (b9.mono b8.out.size)
                        have z3 := (ba.cell (p := ⟨V.heap.size + 1 + 1, y, none⟩) (lt_of_cell (zc.out y hlt))).trans (zc.out y hlt)
                        have z4 := (ba.cell (p := ⟨V.heap.size + 1 + 1 + 1, y, none⟩) (lt_of_cell (zd.out y hlt))).trans (zd.out y hlt)
                        replace ba := Lib.hid ba
                        replace b9 := Lib.hid b9
                        clear z2
                        generalize (puse q c y : Int) = pu at *
                        generalize decide (puse q c y ≠ 0) = pk at *
                        go_wp2_with fail
                        go_roundg (n - (y + 1))
                        case measure => omega
                        case rel => exact ⟨y + 1, by omega, rfl, rfl, ba.out⟩
                  · go_wp2_with fail
                    go_at_call 11
                    refine (partLen P S T n _ q dead tp U _ c _ _ h8).mono ?_
                    rintro e w8 ⟨rfl, rfl⟩
                    rw [hpl.out]
                    go_wp2_with fail
                    go_ret
                    exact ⟨rfl, b6.out.trans (b7.mono b6.out.size)⟩
set_option maxRecDepth 20000 in
set_option maxHeartbeats 2000000 in
theorem early (a0 a2 : Int) (m cap : Nat) (dead tp wp : Bool) (o : Option Addr) (w : World) (m1 : m ≤ maxLen) (h2 : 0 ≤ a2 ∧ a2 ≤ 4294967295) (hbig : 65536 < m ∨ a0 < 1 ∨ 4096 < a0 ∨ a0 ≤ a2) :
    Calls Try.prog 3 #[.int .i64 a0, .slice o m cap, .int .u32 a2, .bool dead, .bool tp, .bool wp] w fun e w' => e = .returned (.bool true) ∧ Below w.heap.size w w' := by
  have m2 := m1
  unfold maxLen at m2
  have hb := Lib.hid hbig
  clear hbig
  go_enter Try.func3, Try.ntmps3
  go_wp2_with fail
  go_at_call 5
  refine (bytes _ _ _ _ _ _ _ _ _ m1).mono ?_
  rintro e w' ⟨r, rfl, rfl⟩
  cases r with
  | false =>
    go_wp2_with fail
    go_ret
    exact ⟨rfl, Below.refl _ _⟩
  | true =>
    by_cases c1 : 65536 < m
    · go_wp2_with fail
      go_ret
      exact ⟨rfl, Below.refl _ _⟩
    · by_cases c2 : a0 < 1
      · go_wp2_with fail
        go_ret
        exact ⟨rfl, Below.refl _ _⟩
      · by_cases c3 : 4096 < a0
        · go_wp2_with fail
          go_ret
          exact ⟨rfl, Below.refl _ _⟩
        · have c4 : a0 ≤ a2 := by have := hb.out; omega
          have c5 : a0 % 4294967296 = a0 := by omega
          go_wp2_with fail
          go_ret
          exact ⟨rfl, Below.refl _ _⟩
set_option maxRecDepth 100000 in
theorem walk (W : World) {H : Type} {enc : TypeId × Value → H} {base : Nat} {p1 : List MemPlace} (a0 : Int) (_w0 : (Lit.int .i64 a0).wf = true) (v1 : Value) (d1 : DataW H) (k1 : Value.okWide Try.prog W .any base 22 v1) (h1 : DataW.Trod enc Try.prog W 0 (fun _ => true) true 22 v1 d1 p1)
    (a2 : Int) (w2 : (Lit.int .u32 a2).wf = true) (a3 a4 a5 : Bool) :
    Calls Try.prog 3 #[.int .i64 a0, v1, .int .u32 a2, .bool a3, .bool a4, .bool a5] W fun e w' => e = .returned (.bool true) ∧ Below W.heap.size W w' := by
  obtain ⟨o1, n1, c1, f1, rfl, x1, y1, i1, l1, z1⟩ := openInts (k := .u32) Try.underlying22 Try.underlying23 (by kernel_rfl) k1 h1
  have hw : 0 ≤ a2 ∧ a2 ≤ 4294967295 := by
    simp [Lit.wf, IntKind.min, IntKind.max, IntKind.signed, IntKind.bits] at w2
    omega
  by_cases hbig : 65536 < n1 ∨ a0 < 1 ∨ 4096 < a0 ∨ a0 ≤ a2
  · exact early a0 a2 n1 c1 a3 a4 a5 o1 W (Nat.le_trans x1 y1) hw hbig
  · obtain ⟨n, rfl⟩ := Int.eq_ofNat_of_zero_le (show 0 ≤ a0 by omega)
    obtain ⟨x, rfl⟩ := Int.eq_ofNat_of_zero_le hw.1
    refine main n x n1 c1 a3 a4 a5 o1 f1 W (by omega) (by omega) (by omega) (by omega) i1 (fun i hi => ?_)
    have hl := l1 i hi
    simp [Lit.wf, IntKind.min, IntKind.max, IntKind.signed, IntKind.bits] at hl
    omega
end Go.Proofs.Ythhhmildgnoniaa.fnIgnoreUsageUndoesRecordUsage
