/-
  ignoreUsage, by what it leaves. Condition: the ref was recorded.
-/
import Derived.Test.YthhhmildgnoniaaUse3
namespace Go.Proofs.Ythhhmildgnoniaa.Use
open Go.RowKit Go.ChangeShapes Go.WideShapes Go.ChangeAt Go.Proofs.Ythhhmildgnoniaa.Ints Go.Maps

noncomputable def back (D : DataW Unit) (x m : Nat) : DataW Unit := if m = 1 then D.del (kl x) else D.put (kl x) (cnt (m - 1))
def Ign (w : World) (P S T n : Nat) (q : Option (Nat × Nat)) (dead tp : Bool) (U C c : Nat → Nat) (D : DataW Unit) (N x : Nat) (e : Ending) (w' : World) : Prop :=
  e = .returned (.tuple #[]) ∧ Oth (SS S T q) w w' ∧
    St w' P S T n q dead tp (cond dead U (upd U x (U x - 1))) C (cond dead c (upd c x (c x - 1))) (cond dead D (back D x (c x))) (N + 2)
set_option maxHeartbeats 1000000 in
theorem ignore (P S T n N x : Nat) (q : Option (Nat × Nat)) (dead tp : Bool) (U C c : Nat → Nat) (D : DataW Unit) (w : World) (hx : x < n) (hN : N ≤ 999000) (h : St w P S T n q dead tp U C c D N) (hf : ¬ SS S T q w.heap.size) (hu : dead = false → 1 ≤ U x ∧ (q ≠ none → 1 ≤ c x)) :
    Calls Try.prog 20 #[.pointer (some ⟨P, 0, none⟩), .agg #[.int .u32 0, .int .u32 x]] w (Ign w P S T n q dead tp U C c D N x) := by
  have hb : Below w.heap.size w (w.alloc (.cells #[.int .u32 0, .int .u32 x] 171)) := (Below.refl _ _).alloc (Nat.le_refl _) _
  have h1 := h.keep hb
  have o1 : Oth (SS S T q) w (w.alloc (.cells #[.int .u32 0, .int .u32 x] 171)) := Oth.of_below hb
  have r1 : (w.alloc (.cells #[.int .u32 0, .int .u32 x] 171)).cell? ⟨w.heap.size, 1, none⟩ = some (.int .u32 x) := cell_of_row _ _ 1 _ _ _ (heap_alloc_new _ _)
  have r0 : (w.alloc (.cells #[.int .u32 0, .int .u32 x] 171)).cell? ⟨w.heap.size, 0, none⟩ = some (.int .u32 0) := cell_of_row _ _ 0 _ _ _ (heap_alloc_new _ _)
  have lP := lt_of_cell h.pr.part
  have hC := (h.le x hx).2.1
  replace hu := Lib.hid hu
  replace h1 := Lib.hid h1
  replace o1 := Lib.hid o1
  clear hb h
  cases dead
  · obtain ⟨p1, p2, p3, p4, p5⟩ := h1.out.pr
    go_enter Try.func20, Try.ntmps20
    go_wp2_with fail
    have hs := h1.out.sy
    obtain ⟨G, hG, hc⟩ := hs
    have s1 : (w.alloc (.cells #[.int .u32 0, .int .u32 x] 171)).cell? ⟨S, x * 10 + 4, none⟩ = some (.int .u32 (U x : Int)) := hc x hx ▸ hG.cell (by omega)
    have s2 := hG.frozen (x * 10 + 4)
    have n1 : (w.alloc (.cells #[.int .u32 0, .int .u32 x] 171)).heap.size = w.heap.size + 1 := by simp
    clear hG hc
    generalize hW : w.alloc (.cells #[.int .u32 0, .int .u32 x] 171) = W at *
    replace hW := Lib.hid hW
    go_region
    obtain ⟨b1, b2, b3⟩ := h1.out.le x hx
    obtain ⟨u1, u2⟩ := hu.out (by simp)
    replace u2 := Lib.hid u2
    have e1 : ((U x : Int) - 1) % 4294967296 = ((U x - 1 : Nat) : Int) := by omega
    rw [e1]
    have h2 := ((h1.out.mono (Nat.le_succ N) (by omega)).incU hx (m := U x - 1) (by omega)).drew
    have o0 : Oth (SS S T q) W (W.setCell ⟨S, x * 10 + 4, none⟩ (.int .u32 ((U x - 1 : Nat) : Int))).drew := (Oth.set _ _ (.inl rfl)).trans (Oth.of_below (Below.refl _ _).drew)
    have o2 := o1.out.trans o0
    have r2 := o0.cell r1 hf
    have r3 := o0.cell r0 hf
    generalize (W.setCell ⟨S, x * 10 + 4, none⟩ (.int .u32 ((U x - 1 : Nat) : Int))).drew = W2 at *
    replace h2 := Lib.hid h2
    replace o2 := Lib.hid o2
    clear h1 o1 o0 r0 r1 s1 s2 n1 hW W p1 p2 p3 p4 p5
    obtain ⟨p1, p2, p3, p4, p5⟩ := h2.out.pr
    cases q with
    | none =>
      replace h2 := Lib.hid (h2.out.mono (show N.succ ≤ N + 2 by omega) (by omega))
      obtain ⟨p1, p2, p3, p4, p5⟩ := h2.out.pr
      go_wp2_with fail
      go_end0
      exact ⟨rfl, o2.out, h2.out.nopart (upd_le (fun i hi => (h2.out.le i hi).2.2) (by omega))⟩
    | some q =>
      obtain ⟨p, M⟩ := q
      obtain ⟨p1, p2, p3, p4, p5⟩ := h2.out.pr
      obtain ⟨g1, g2, g3, g4⟩ := h2.out.part p M rfl
      have hl := look g2 g3 h2.out.small.1 hx
      have hl1 := look (g2.alloc (.cells #[.int .u32 0] 194)) g3 h2.out.small.1 hx
      have hl2 := look (g2.alloc (.cells #[.int .u32 0] 194)).drew g3 h2.out.small.1 hx
      have hl3 := look g2.drew g3 h2.out.small.1 hx
      unfold refV at hl hl1 hl2 hl3
      have c1 := u2.out (by simp)
      obtain ⟨m, hm⟩ : ∃ m, c x = m + 1 := ⟨c x - 1, by omega⟩
      rw [hm] at hl hl1 hl2 hl3
      rw [show ((m + 1 : Nat) : Int) = (m : Int) + 1 from by omega] at hl hl1 hl2 hl3
      replace hm := Lib.hid hm
      have m3 : m < 1000000 := by have := hm.out; omega
      have lp := lt_of_cell p1
      have lr := lt_of_cell r2
      have lg := lt_of_cell g1
      replace g2 := Lib.hid g2
      replace g3 := Lib.hid g3
      replace g4 := Lib.hid g4
      go_wp2_with fail
      go_region
      all_goals
        have z1 : (W2.alloc (.cells #[.int .u32 ((m : Int) + 1)] 194)).drew.rowIs W2.heap.size 194 1 (fun _ => .int .u32 ((m : Int) + 1)) := ⟨_, heap_alloc_new _ _, rfl, fun i hi => by match i, hi with | 0, _ => rfl⟩
        have z0 := z1.cell (i := 0) (by omega)
        have b4 : Below W2.heap.size W2 (W2.alloc (.cells #[.int .u32 ((m : Int) + 1)] 194)).drew := ((Below.refl _ _).alloc (Nat.le_refl _) _).drew
        have z2 := z1.frozen 0
        generalize (W2.alloc (.cells #[.int .u32 ((m : Int) + 1)] 194)).drew = W3 at *
        replace b4 := Lib.hid b4
        replace z1 := Lib.hid z1
        replace p1 := Lib.hid p1
        clear p2 p3 p4 p5 hl hl1 hl2 hl3 e1
        by_cases m0 : m = 0
        · subst m0
          go_wp2_with fail
          have b5 : Below W2.heap.size W2 (W3.setCell ⟨W2.heap.size, 0, none⟩ (.int .u32 0)) := b4.out.setCell (Nat.le_refl _) _
          have z3 := z1.out.set 0 (.int .u32 0)
          have z4 := z3.cell (i := 0) (by omega)
          rw [if_pos rfl] at z4
          generalize (W3.setCell ⟨W2.heap.size, 0, none⟩ (.int .u32 0)) = W4 at *
          have h4 := h2.out.keep b5
          have g5 := (b5.cell (p := ⟨p, 4, none⟩) lg).trans g1
          have r4 := (b5.cell (p := ⟨w.heap.size, 1, none⟩) lr).trans r2
          have r5 := (b5.cell (p := ⟨w.heap.size, 0, none⟩) lr).trans r3
          have o4 := o2.out.trans (Oth.of_below b5)
          replace b5 := Lib.hid b5
          replace z3 := Lib.hid z3
          obtain ⟨q1, q2, q3, q4⟩ := h4.drew.part p M rfl
          obtain ⟨W5, hup, hM5, ht5⟩ := q2.drop law Try.underlying176 (kl_eq x (by have := h4.small; omega)) 0
          have hg5 := ht5.grown
          replace ht5 := Lib.hid ht5
          unfold refV at hup
          have h4' := Lib.hid h4
          have o4' := Lib.hid o4
          replace q2 := Lib.hid q2
          replace q3 := Lib.hid q3
          replace q4 := Lib.hid q4
          replace hM5 := Lib.hid hM5
          replace hg5 := Lib.hid hg5
          clear h4 o4 h2 o2 z3 z1 b4 g1 g2 g3 r2 r3 z0 z2 lr lg lp W3
          go_region
          have h5 := (h4'.out.drew.mono (show N.succ ≤ N + 2 by omega) (by omega)).turn hg5.out (hM5.out.mono (by omega)) (by have h := V.del q3.out h4'.out.small.1 hx; rw [show c x - 1 = 0 by have := hm.out; omega]; exact h) (upd_le (m := c x - 1) (fun i hi => by have := (h4'.out.le i hi).2.2; omega) (by omega))
          have o5 := (o4'.out.trans (Oth.of_below (Below.refl _ _).drew)).trans (Oth.grown hg5.out (.inr (.inr ⟨p, rfl⟩)))
          go_end0
          refine ⟨rfl, o5, ?_⟩
          show St _ _ _ _ _ _ _ _ _ _ _ (back D x (c x)) _
          rw [show back D x (c x) = D.del (kl x) from if_pos (by have := hm.out; omega)]
          exact h5
        · go_wp2_with fail
          have b5 : Below W2.heap.size W2 (W3.setCell ⟨W2.heap.size, 0, none⟩ (.int .u32 (m : Int))) := b4.out.setCell (Nat.le_refl _) _
          have z3 := z1.out.set 0 (.int .u32 (m : Int))
          have z4 := z3.cell (i := 0) (by omega)
          rw [if_pos rfl] at z4
          generalize (W3.setCell ⟨W2.heap.size, 0, none⟩ (.int .u32 (m : Int))) = W4 at *
          have h4 := h2.out.keep b5
          have g5 := (b5.cell (p := ⟨p, 4, none⟩) lg).trans g1
          have r4 := (b5.cell (p := ⟨w.heap.size, 1, none⟩) lr).trans r2
          have r5 := (b5.cell (p := ⟨w.heap.size, 0, none⟩) lr).trans r3
          have o4 := o2.out.trans (Oth.of_below b5)
          replace b5 := Lib.hid b5
          replace z3 := Lib.hid z3
          obtain ⟨q1, q2, q3, q4⟩ := h4.drew.part p M rfl
          have hnn : N.succ < maxLen := by unfold maxLen; omega
          obtain ⟨W5, hup, hM5, hg5⟩ := q2.update law Try.underlying176 hnn (kl_eq x (by have := h4.small; omega)) (useR_mk (m : Int))
          unfold refV at hup
          have h4' := Lib.hid h4
          have o4' := Lib.hid o4
          replace q2 := Lib.hid q2
          replace q3 := Lib.hid q3
          replace q4 := Lib.hid q4
          replace hM5 := Lib.hid hM5
          replace hg5 := Lib.hid hg5
          clear h4 o4 h2 o2 z3 z1 b4 g1 g2 g3 r2 r3 z0 z2 lr lg lp W3
          go_region
          have h5 := (h4'.out.drew.mono (show N.succ ≤ N + 2 by omega) (by omega)).turn hg5.out (hM5.out.mono (by omega)) (by have h := V.put q3.out h4'.out.small.1 hx m0; rw [show c x - 1 = m by have := hm.out; omega]; exact h) (upd_le (m := c x - 1) (fun i hi => by have := (h4'.out.le i hi).2.2; omega) (by omega))
          have o5 := (o4'.out.trans (Oth.of_below (Below.refl _ _).drew)).trans (Oth.grown hg5.out (.inr (.inr ⟨p, rfl⟩)))
          go_end0
          refine ⟨rfl, o5, ?_⟩
          show St _ _ _ _ _ _ _ _ _ _ _ (back D x (c x)) _
          rw [show back D x (c x) = D.put (kl x) (cnt m) from by unfold back; rw [if_neg (by have := hm.out; omega), show c x - 1 = m by have := hm.out; omega]]
          exact h5
  · replace h1 := Lib.hid (h1.out.mono (show N ≤ N + 2 by omega) (by omega))
    obtain ⟨p1, p2, p3, p4, p5⟩ := h1.out.pr
    go_enter Try.func20, Try.ntmps20
    go_wp2_with fail
    go_end0
    exact ⟨rfl, o1.out, h1.out⟩
end Go.Proofs.Ythhhmildgnoniaa.Use
