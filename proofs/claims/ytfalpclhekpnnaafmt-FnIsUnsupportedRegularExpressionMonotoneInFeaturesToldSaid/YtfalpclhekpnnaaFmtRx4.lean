/-
  The law's helpers: the last slash, the size check, what an error has left. No condition.
-/
import Derived.Test.YtfalpclhekpnnaaFmtRx3
namespace Go.Proofs.YtfalpclhekpnnaaFmt.Rx
open Go.RowKit Go.Proofs.YtfalpclhekpnnaaFmt.Ints Go.Proofs.YtfalpclhekpnnaaFmt.Lg Go.Proofs.YtfalpclhekpnnaaFmt.U8
open Go.Extern.Stop Go.Stop Go.Extern

section
variable {B K M H G n B' K' M' H' G' n' : Nat} {e e' : Bool} {v v' : Value} {xs xs' : List Value} {w w' : World}
theorem kept_blk {b : Nat} {c : Array Value} {t : TypeId} {f : Nat × Nat} (hb : w.heap[b]? = some (.cells c t f)) (k : Kp B' H' G' (.slice none 0 0) w w') (h1 : b ≠ H') (h2 : b ≠ G') : w'.heap[b]? = w.heap[b]? :=
  k.blk b (lt_of_blk hb) h1 h2 (by intro h; cases h)
theorem Lg.kept (h : Lg B K M H G e n v xs w) (k : Kp B' H' G' (.slice none 0 0) w w') (h' : Lg B' K' M' H' G' e' n' v' xs' w) (hH : H ≠ H') (hG : G ≠ G') : Lg B K M H G e n v xs w' := by
  refine ⟨(kept_blk h.bK k (ne_of_ty h.bK h'.bH (by decide)) (ne_of_ty h.bK h'.bG (by decide))).trans h.bK, (kept_blk h.bM k (ne_of_ty h.bM h'.bH (by decide)) (ne_of_ty h.bM h'.bG (by decide))).trans h.bM,
    (kept_blk h.bH k hH (ne_of_ty h.bH h'.bG (by decide))).trans h.bH, (kept_blk h.bG k (ne_of_ty h.bG h'.bH (by decide)) hG).trans h.bG, own_same h.own (fun b hv => ?_), h.hM, h.hH, h.hG⟩
  rcases h.own.2 with ⟨rfl, _⟩ | ⟨g, cap, cur, rfl, _, hg, _⟩
  · cases hv
  · cases hv
    exact kept_blk hg k (ne_of_ty hg h'.bH (by decide)) (ne_of_ty hg h'.bG (by decide))
theorem Px.same {P : Nat} {F : Int} (h : Px P K M H G F w) (e : w'.heap[P]? = w.heap[P]?) : Px P K M H G F w' := by
  have f : ∀ j x, w.cell? ⟨P, j, none⟩ = some x → w'.cell? ⟨P, j, none⟩ = some x := fun j x hx => (World.cell?_of_block e).trans hx
  obtain ⟨C, fr, hb1⟩ := h.bP
  exact ⟨f _ _ h.cE, f _ _ h.cF, f _ _ h.cO, f _ _ h.l0, f _ _ h.l1, f _ _ h.l2, f _ _ h.l3, f _ _ h.l4, f _ _ h.l5, f _ _ h.cT, ⟨C, fr, e.trans hb1⟩⟩
theorem Px.kept {P : Nat} {F : Int} (h : Px P K M H G F w) (k : Kp B' H' G' (.slice none 0 0) w w') (h' : Lg B' K' M' H' G' e' n' v' xs' w) : Px P K M H G F w' := by
  obtain ⟨C, fr, hb1⟩ := h.bP
  exact h.same (kept_blk hb1 k (ne_of_ty hb1 h'.bH (by decide)) (ne_of_ty hb1 h'.bG (by decide)))
end
theorem hasErr {B P K M H G n : Nat} {e : Bool} {v : Value} {xs : List Value} {F : Int} (w : World) (hP : Px P K M H G F w) (h : Lg B K M H G e n v xs w) :
    Calls Tryf.prog 8 #[pt P] w (Says B (.bool e) w) := by
  have lP := lt_of_cell hP.cF
  have l1 := hP.l1
  have c := Lib.hid (hasErrors w h)
  unfold fHas pt at *
  go_enter Tryf.func8, Tryf.ntmps8
  go_wp2_with fail
  refine c.out.mono ?_
  rintro y w' ⟨rfl, hb, hs⟩
  have hfin : Says B (.bool e) w (.returned (.bool e)) w' := ⟨rfl, hb, hs⟩
  replace hfin := Lib.hid hfin
  clear hb hs
  go_wp2_with fail
  go_ret
  exact hfin.out
set_option maxRecDepth 100000 in
theorem lastSlash (s : ByteArray) (hs : s.size ≤ 1048576) (w : World) : Calls Tryf.prog 5 #[.string s] w fun e w' => e = .returned (.int .i64 (Lib.lastIndexByte s 47)) ∧ w = w' := by
  go_enter Tryf.func5, Tryf.ntmps5
  go_wp2_with fail
  go_loopg [3] s.size (fun g iv wr => ∃ k : Nat, ∃ j : Int, g = k ∧ k ≤ s.size ∧ iv = .int .i64 j ∧ Hid (j = (k : Int) - 1) ∧ wr = w ∧ Hid (Lib.lastIdx s 47 k = Lib.lastIndexByte s 47))
  case atStart => exact ⟨s.size, _, rfl, Nat.le_refl _, rfl, Lib.hid rfl, rfl, Lib.hid rfl⟩
  case round =>
    obtain ⟨k, j, hgk, hk, rfl, hj, rfl, hi⟩ := hrel
    cases k with
    | zero =>
      have hi2 := hi.out
      obtain rfl : j = -1 := by rw [hj.out]; rfl
      have hi3 : Lib.lastIndexByte s 47 = -1 := hi2.symm.trans rfl
      replace hi3 := Lib.hid hi3
      clear hi2 hj
      go_wp2_with fail
      go_ret
      exact ⟨by rw [hi3.out]; rfl, rfl⟩
    | succ k =>
      obtain rfl : j = (k : Int) := by rw [hj.out]; omega
      have h0 : k < s.size := by omega
      have e0 := bt_eq s k h0
      have i0 : (k : Int) < (s.size : Int) := by omega
      have hdef : ((s.data[k]!).toNat : Int) = (bt s k : Int) := rfl
      clear hj
      by_cases hc : bt s k = 47
      · rw [hc] at e0
        have hr : Lib.lastIndexByte s 47 = (k : Int) := by rw [← hi.out]; exact Lib.lastIdx_hit s 47 k (by rw [hdef, hc]; rfl)
        replace hr := Lib.hid hr
        clear hdef hi
        go_wp2_with fail
        go_ret
        exact ⟨by rw [hr.out]; rfl, rfl⟩
      · have hr : Hid (Lib.lastIdx s 47 k = Lib.lastIndexByte s 47) := Lib.hid (by rw [← hi.out]; exact (Lib.lastIdx_miss s 47 k (by rw [hdef]; omega)).symm)
        have t0 : ((bt s k : Int) == 47) = false := by simp; omega
        clear hdef hi
        generalize bt s k = c at *
        go_wp2_with fail
        go_roundg k
        case measure => omega
        case rel => exact ⟨k, _, rfl, by omega, rfl, Lib.hid rfl, rfl, hr⟩
theorem bytes (a b l : Int) (s : ByteArray) (hs : s.size ≤ 9223372036854775807) (w : World) : Calls Tryf.prog 4 #[.int .u64 a, .int .u64 b, .int .i32 l, .string s] w fun e w' => e = .returned (.bool (decide (s.size ≤ 1048576))) ∧ w = w' := by
  by_cases h : s.size ≤ 1048576
  · have h1 : ¬ (1048576 : Int) < (s.size : Int) := by omega
    rw [decide_eq_true h]
    go_enter Tryf.func4, Tryf.ntmps4
    go_wp2
    go_ret
    exact ⟨rfl, rfl⟩
  · have h1 : (1048576 : Int) < (s.size : Int) := by omega
    rw [decide_eq_false h]
    go_enter Tryf.func4, Tryf.ntmps4
    go_wp2
    go_ret
    exact ⟨rfl, rfl⟩
end Go.Proofs.YtfalpclhekpnnaaFmt.Rx
