/-
  maybeMarkKnownGlobalConstructorAsPure: the constructor Map with an array, and the joined answer: one q for a node whose parts are known, whatever the flag was. Condition: the parts lie as stated (Nw).
-/
import Derived.Test.YtihpdmoonddjmaaPure3
import Derived.Deep.LoopGhost
namespace Go.Proofs.Ytihpdmoonddjmaa.Pure
open Go.RowKit Go.Proofs.Ytihpdmoonddjmaa.Ints

def allArr (ts : Nat → TypeId) (m : Nat) : Bool := decide (∀ i, i < m → ts i = 307)
set_option maxRecDepth 100000 in
set_option maxHeartbeats 4000000 in
theorem un_ma_arr (x : Fix) (hk : x.k = 0) (hb_ws : Hid ((x.nm.toList == [87, 101, 97, 107, 83, 101, 116]) = false)) (hb_wm : Hid ((x.nm.toList == [87, 101, 97, 107, 77, 97, 112]) = false)) (hb_da : Hid ((x.nm.toList == [68, 97, 116, 101]) = false)) (hb_se : Hid ((x.nm.toList == [83, 101, 116]) = false)) (hb_ma : Hid ((x.nm.toList == [77, 97, 112]) = true)) (hn : Hid (x.n = 1)) (ht : Hid (x.t0 = 307)) (f : Bool) (w : World) (h : Nw x f w) : Calls Try.prog 47 #[.pointer (some ⟨x.P, 0, none⟩), .pointer (some ⟨x.E, 0, none⟩)] w (Mk x (allArr x.ts x.m) w) := by
  obtain ⟨e0, e2, e5, fz, t1, p, s0, s1, s2, s3, s4, s5, s6, s7, s8, s9, arg, nS, nI⟩ := h
  rw [hk] at s8
  obtain ⟨P, E, T, S, nm, k, o, n, A, t0, D, oi, m, I, ts, ps⟩ := x
  simp only at *
  replace arg := Lib.hid arg
  have h64 := ta_EIdentifier
  have lT : T < w.heap.size := lt_of_cell t1
  have lS : S < w.heap.size := lt_of_cell s0
  have lP : P < w.heap.size := lt_of_cell p
  go_enter Try.func47, Try.ntmps47
  go_wp2_with fail
  go_region
  generalize hW : World.drew _ = W
  have B : Below w.heap.size w W := by subst hW; exact ((Below.refl _ _).alloc (Nat.le_refl _) _).drew
  have k8 : W.cell? ⟨w.heap.size, 8, none⟩ = some (.int .u8 0) := by subst hW; go_simp
  have k1 : W.cell? ⟨w.heap.size, 1, none⟩ = some (.string nm) := by subst hW; go_simp
  clear hW
  replace fz := (B.frozen (p := ⟨E, 5, none⟩) (lt_of_cell e5)).trans fz
  replace e2 := bC B e2
  replace e5 := bC B e5
  clear e0 t1 p s0 s1 s2 s3 s4 s5 s6 s7 s8 s9 nS lT lS lP
  have b_ws : (nm.toList == [87, 101, 97, 107, 83, 101, 116]) = false := hb_ws.out
  have b_wm : (nm.toList == [87, 101, 97, 107, 77, 97, 112]) = false := hb_wm.out
  have b_da : (nm.toList == [68, 97, 116, 101]) = false := hb_da.out
  have b_se : (nm.toList == [83, 101, 116]) = false := hb_se.out
  have b_ma : (nm.toList == [77, 97, 112]) = true := hb_ma.out
  obtain ⟨rfl, ha, hK, hA⟩ := arg.out hn.out
  obtain rfl := hn.out
  have v0 := bC B ha
  obtain ⟨hD, hm, hIt⟩ := hA ht.out
  obtain rfl := ht.out
  have v1 := bC B hD
  clear hK hA arg
  have hN := ta_ENull
  have hU := ta_EUndefined
  have hR := ta_EArray
  replace hIt := Lib.hid hIt
  go_wp2_with fail
  go_loopg [16, 197] m (fun gk s i wr => ∃ r : Nat, r ≤ m ∧ gk = m - r ∧ i = .int .i64 r ∧ s = .bool true ∧ Below W.heap.size W wr ∧ ∀ j, j < r → ts j = 307)
  case atStart => exact ⟨0, Nat.zero_le _, rfl, rfl, rfl, Below.refl _ _, fun j hj => absurd hj (by omega)⟩
  case round =>
    obtain ⟨r, hr, rfl, rfl, rfl, hB, hall⟩ := hrel
    replace hall := Lib.hid hall
    have B2 := B.trans (hB.mono B.size)
    rcases Nat.lt_or_ge r m with hlt | hge
    · obtain ⟨ho, hc0, hc1⟩ := hIt.out r hlt
      subst ho
      have g0 := bC B2 hc0
      have g1 := bC B2 hc1
      clear hc0 hc1 v0 v1 e2 k8 k1
      by_cases hq : ts r = 307
      · have hall2 : ∀ j, j < r + 1 → ts j = 307 := fun j hj => by
          rcases Nat.lt_succ_iff_lt_or_eq.1 hj with h | h
          · exact hall.out j h
          · rw [h]; exact hq
        replace hall2 := Lib.hid hall2
        rw [hq] at g0
        clear hq
        go_wp2_with fail
        go_roundg (m - (r + 1))
        case measure => omega
        case rel => exact ⟨r + 1, by omega, rfl, rfl, rfl, hB.alloc hB.size _, hall2.out⟩
      · have hF : allArr ts m = false := by
          unfold allArr
          exact decide_eq_false fun h => hq (h r hlt)
        replace hF := Lib.hid hF
        go_wp2_with fail
        go_end0
        refine ⟨rfl, wr.alloc (.cells #[.iface (ts r) (.pointer (some (ps r))), .int .i32 0] 39), B2.alloc B2.size _, ?_⟩
        rw [hF.out]
        rfl
    · have hrn : r = m := by omega
      subst hrn
      have hF : allArr ts r = true := by
        unfold allArr
        exact decide_eq_true hall.out
      replace hF := Lib.hid hF
      have g5 := bC hB e5
      have gz := (hB.frozen (p := ⟨E, 5, none⟩) (lt_of_cell e5)).trans fz
      clear v0 v1 e2 k8 k1 e5 fz
      go_wp2_with fail
      go_end0
      refine ⟨rfl, wr, B2, ?_⟩
      rw [hF.out]
      rfl
theorem mark (x : Fix) (hk : x.k = 0 ∨ x.k = 27) (h8 : x.n = 1 → Kind8 x.t0) : ∃ q : Bool, ∀ (f : Bool) (w : World), Nw x f w → Calls Try.prog 47 #[.pointer (some ⟨x.P, 0, none⟩), .pointer (some ⟨x.E, 0, none⟩)] w (Mk x q w) := by
  rcases hk with hk | hk
  · have nc : x.n = 0 ∨ x.n = 1 ∨ 1 < x.n := by omega
    cases b_ws : (x.nm.toList == [87, 101, 97, 107, 83, 101, 116]) with
    | true =>
      have hb_ws := Lib.hid b_ws
      rcases nc with hn | hn | hn
      · exact ⟨true, fun f w h => un_ws_0 x hk hb_ws (Lib.hid hn) f w h⟩
      · by_cases ht : x.t0 = 294
        · exact ⟨true, fun f w h => un_ws_ENull x hk hb_ws (Lib.hid hn) (Lib.hid ht) f w h⟩
        by_cases ht2 : x.t0 = 296
        · exact ⟨true, fun f w h => un_ws_EUndefined x hk hb_ws (Lib.hid hn) (Lib.hid ht2) f w h⟩
        by_cases ht3 : x.t0 = 307
        · rcases Nat.eq_zero_or_pos x.m with hm | hm
          · exact ⟨true, fun f w h => un_ws_arr0 x hk hb_ws (Lib.hid hn) (Lib.hid ht3) (Lib.hid hm) f w h⟩
          · exact ⟨false, fun f w h => un_ws_arr1 x hk hb_ws (Lib.hid hn) (Lib.hid ht3) (Lib.hid hm) f w h⟩
        exact ⟨false, fun f w h => un_ws_o x hk hb_ws (Lib.hid hn) (Lib.hid ⟨ht, ht2, ht3⟩) f w h⟩
      · exact ⟨false, fun f w h => un_ws_2 x hk hb_ws (Lib.hid hn) f w h⟩
    | false =>
      have hb_ws := Lib.hid b_ws
      cases b_wm : (x.nm.toList == [87, 101, 97, 107, 77, 97, 112]) with
      | true =>
        have hb_wm := Lib.hid b_wm
        rcases nc with hn | hn | hn
        · exact ⟨true, fun f w h => un_wm_0 x hk hb_ws hb_wm (Lib.hid hn) f w h⟩
        · by_cases ht : x.t0 = 294
          · exact ⟨true, fun f w h => un_wm_ENull x hk hb_ws hb_wm (Lib.hid hn) (Lib.hid ht) f w h⟩
          by_cases ht2 : x.t0 = 296
          · exact ⟨true, fun f w h => un_wm_EUndefined x hk hb_ws hb_wm (Lib.hid hn) (Lib.hid ht2) f w h⟩
          by_cases ht3 : x.t0 = 307
          · rcases Nat.eq_zero_or_pos x.m with hm | hm
            · exact ⟨true, fun f w h => un_wm_arr0 x hk hb_ws hb_wm (Lib.hid hn) (Lib.hid ht3) (Lib.hid hm) f w h⟩
            · exact ⟨false, fun f w h => un_wm_arr1 x hk hb_ws hb_wm (Lib.hid hn) (Lib.hid ht3) (Lib.hid hm) f w h⟩
          exact ⟨false, fun f w h => un_wm_o x hk hb_ws hb_wm (Lib.hid hn) (Lib.hid ⟨ht, ht2, ht3⟩) f w h⟩
        · exact ⟨false, fun f w h => un_wm_2 x hk hb_ws hb_wm (Lib.hid hn) f w h⟩
      | false =>
        have hb_wm := Lib.hid b_wm
        cases b_da : (x.nm.toList == [68, 97, 116, 101]) with
        | true =>
          have hb_da := Lib.hid b_da
          rcases nc with hn | hn | hn
          · exact ⟨true, fun f w h => un_da_0 x hk hb_ws hb_wm hb_da (Lib.hid hn) f w h⟩
          · rcases h8 hn with ht | ht | ht | ht | ht | ht | ht | ht
            · exact ⟨true, fun f w h => un_da_10 x hk hb_ws hb_wm hb_da (Lib.hid hn) (Lib.hid ht) f w h⟩
            · exact ⟨true, fun f w h => un_da_11 x hk hb_ws hb_wm hb_da (Lib.hid hn) (Lib.hid ht) f w h⟩
            · exact ⟨true, fun f w h => un_da_12 x hk hb_ws hb_wm hb_da (Lib.hid hn) (Lib.hid ht) f w h⟩
            · exact ⟨true, fun f w h => un_da_13 x hk hb_ws hb_wm hb_da (Lib.hid hn) (Lib.hid ht) f w h⟩
            · exact ⟨true, fun f w h => un_da_14 x hk hb_ws hb_wm hb_da (Lib.hid hn) (Lib.hid ht) f w h⟩
            · exact ⟨false, fun f w h => un_da_15 x hk hb_ws hb_wm hb_da (Lib.hid hn) (Lib.hid ht) f w h⟩
            · exact ⟨false, fun f w h => un_da_16 x hk hb_ws hb_wm hb_da (Lib.hid hn) (Lib.hid ht) f w h⟩
            · exact ⟨false, fun f w h => un_da_17 x hk hb_ws hb_wm hb_da (Lib.hid hn) (Lib.hid ht) f w h⟩
          · exact ⟨false, fun f w h => un_da_2 x hk hb_ws hb_wm hb_da (Lib.hid hn) f w h⟩
        | false =>
          have hb_da := Lib.hid b_da
          cases b_se : (x.nm.toList == [83, 101, 116]) with
          | true =>
            have hb_se := Lib.hid b_se
            rcases nc with hn | hn | hn
            · exact ⟨true, fun f w h => un_se_0 x hk hb_ws hb_wm hb_da hb_se (Lib.hid hn) f w h⟩
            · by_cases ht : x.t0 = 294
              · exact ⟨true, fun f w h => un_se_ENull x hk hb_ws hb_wm hb_da hb_se (Lib.hid hn) (Lib.hid ht) f w h⟩
              by_cases ht2 : x.t0 = 296
              · exact ⟨true, fun f w h => un_se_EUndefined x hk hb_ws hb_wm hb_da hb_se (Lib.hid hn) (Lib.hid ht2) f w h⟩
              by_cases ht3 : x.t0 = 307
              · exact ⟨true, fun f w h => un_se_arr x hk hb_ws hb_wm hb_da hb_se (Lib.hid hn) (Lib.hid ht3) f w h⟩
              exact ⟨false, fun f w h => un_se_o x hk hb_ws hb_wm hb_da hb_se (Lib.hid hn) (Lib.hid ⟨ht, ht2, ht3⟩) f w h⟩
            · exact ⟨false, fun f w h => un_se_2 x hk hb_ws hb_wm hb_da hb_se (Lib.hid hn) f w h⟩
          | false =>
            have hb_se := Lib.hid b_se
            cases b_ma : (x.nm.toList == [77, 97, 112]) with
            | true =>
              have hb_ma := Lib.hid b_ma
              rcases nc with hn | hn | hn
              · exact ⟨true, fun f w h => un_ma_0 x hk hb_ws hb_wm hb_da hb_se hb_ma (Lib.hid hn) f w h⟩
              · by_cases ht : x.t0 = 294
                · exact ⟨true, fun f w h => un_ma_ENull x hk hb_ws hb_wm hb_da hb_se hb_ma (Lib.hid hn) (Lib.hid ht) f w h⟩
                by_cases ht2 : x.t0 = 296
                · exact ⟨true, fun f w h => un_ma_EUndefined x hk hb_ws hb_wm hb_da hb_se hb_ma (Lib.hid hn) (Lib.hid ht2) f w h⟩
                by_cases ht3 : x.t0 = 307
                · exact ⟨_, fun f w h => un_ma_arr x hk hb_ws hb_wm hb_da hb_se hb_ma (Lib.hid hn) (Lib.hid ht3) f w h⟩
                exact ⟨false, fun f w h => un_ma_o x hk hb_ws hb_wm hb_da hb_se hb_ma (Lib.hid hn) (Lib.hid ⟨ht, ht2, ht3⟩) f w h⟩
              · exact ⟨false, fun f w h => un_ma_2 x hk hb_ws hb_wm hb_da hb_se hb_ma (Lib.hid hn) f w h⟩
            | false =>
              have hb_ma := Lib.hid b_ma
              exact ⟨false, fun f w h => un_other x hk hb_ws hb_wm hb_da hb_se hb_ma f w h⟩
  · exact ⟨false, fun f w h => mark_bound x hk f w h⟩
end Go.Proofs.Ytihpdmoonddjmaa.Pure
