/-
  logExprErrors walked. Condition: as before.
-/
import Derived.Test.YtcijcifhdakhoaaFmtEx3
namespace Go.Proofs.YtcijcifhdakhoaaFmt.Ex
open Go.RowKit Go.Lib Go.Proofs.YtcijcifhdakhoaaFmt.Ints Go.Proofs.YtcijcifhdakhoaaFmt.Lg Go.Proofs.YtcijcifhdakhoaaFmt.U8
open Go.Extern.Stop Go.Stop Go.Extern

structure S4 (P K M H G N : Nat) (s : ByteArray) (t k : Nat) (w : World) : Prop where
  l0 : w.cell? ⟨P, 51, none⟩ = some (fAdd K M H G)
  l1 : w.cell? ⟨P, 52, none⟩ = some (fHas M H)
  l2 : w.cell? ⟨P, 53, none⟩ = some (fPeek M G)
  l3 : w.cell? ⟨P, 54, none⟩ = some (fDone M G)
  l4 : w.cell? ⟨P, 55, none⟩ = some (.int .i8 3)
  l5 : w.cell? ⟨P, 56, none⟩ = some (.map none)
  src : w.cell? ⟨P, 60, none⟩ = some (.string s)
  n0 : w.cell? ⟨N, 0, none⟩ = some (.int .i32 (t : Nat))
  n1 : w.cell? ⟨N, 1, none⟩ = some (.int .i32 (k : Nat))
theorem S4.of {P K M H G N t k o ls le : Nat} {F0 : Nat → Value} {s : ByteArray} {ln : Int} {hs he : Bool} {w : World} {fr : Nat × Nat} (hT : Tk P F0 s o ls le ln hs he w) (hP : Ps K M H G s F0) (q : w.heap[N]? = some (.cells #[.int .i32 (t : Nat), .int .i32 (k : Nat)] 31 fr)) : S4 P K M H G N s t k w :=
  ⟨hP.l0 ▸ hT.far (k := 51) (by omega) (by omega), hP.l1 ▸ hT.far (k := 52) (by omega) (by omega), hP.l2 ▸ hT.far (k := 53) (by omega) (by omega), hP.l3 ▸ hT.far (k := 54) (by omega) (by omega), hP.l4 ▸ hT.far (k := 55) (by omega) (by omega), hP.l5 ▸ hT.far (k := 56) (by omega) (by omega), hP.src ▸ hT.far (k := 60) (by omega) (by omega), by simp [World.cell?, q], by simp [World.cell?, q]⟩
theorem S4.below {P K M H G N t k : Nat} {s : ByteArray} {w w1 : World} (h : S4 P K M H G N s t k w) (hb : Below w.heap.size w w1) : S4 P K M H G N s t k w1 := by
  have f : ∀ a x, w.cell? a = some x → w1.cell? a = some x := fun a x hx => (hb.cell (lt_of_cell hx)).trans hx
  exact ⟨f _ _ h.l0, f _ _ h.l1, f _ _ h.l2, f _ _ h.l3, f _ _ h.l4, f _ _ h.l5, f _ _ h.src, f _ _ h.n0, f _ _ h.n1⟩
theorem tabs2 {w w1 : World} (h : Utf8Tabs 0 1 w) (hb : Below 2 w w1) : Utf8Tabs 0 1 w1 :=
  ⟨fun c hc => (hb.cell (by show 0 < 2; omega)).trans (h.1 c hc), fun i hi => ⟨(hb.cell (by show 1 < 2; omega)).trans (h.2 i hi).1, (hb.cell (by show 1 < 2; omega)).trans (h.2 i hi).2⟩⟩
theorem S4.more {B P K M H G N n o ls le t k : Nat} {F0 : Nat → Value} {s x : ByteArray} {ln : Int} {he e : Bool} {v : Value} {xs : List Value} {w w2 : World} {y : Ending} {fr : Nat × Nat} (hh : MoreL B P K M H G n v xs F0 s x o t k w y w2) (hL : Lg B K M H G e n v xs w) (hT : Tk P F0 s o ls le ln true he w) (hP : Ps K M H G s F0) (q : w.heap[N]? = some (.cells #[.int .i32 (t : Nat), .int .i32 (k : Nat)] 31 fr)) : S4 P K M H G N s t k w2 := by
  obtain ⟨v', q', _, _, _, _, ⟨o2, ls2, le2, ln2, g1, _⟩, _, hk⟩ := hh
  obtain ⟨cP, fP, bP⟩ := hT.blk
  exact S4.of g1 hP ((hk _ (lt_of_blk q) (ne_of_ty q bP (by decide)) (ne_of_ty q hL.bH (by decide)) (ne_of_ty q hL.bG (by decide)) (own_ty hL.own q (by decide))).trans q)
theorem nat_of {a b : Int} {s : ByteArray} (h : Fits s a b) (hb : 0 < b) : ∃ t k : Nat, a = (t : Nat) ∧ b = (k : Nat) ∧ t + k ≤ s.size ∧ 1 ≤ k := by
  obtain ⟨h1, h2⟩ := h hb
  exact ⟨a.toNat, b.toNat, by omega, by omega, by omega, by omega⟩
set_option maxRecDepth 100000 in
set_option maxHeartbeats 4000000 in
theorem logErrs {I : Interp} (B P K M H G E : Nat) (F0 : Nat → Value) (s : ByteArray) (d0 d1 a0 a1 s0 s1 : Int) (w : World) (hI : I.answers w.tape) (hs : s.size ≤ 1048576) (hB2 : 2 ≤ B) (hBP : B ≤ P) (hT : Utf8Tabs 0 1 w) (hPs : Ps K M H G s F0)
    (hTk : Tk P F0 s 0 0 0 0 true false w) (hL : Lg B K M H G false 0 (.slice none 0 0) [] w) (hE : ErrB E d0 d1 a0 a1 s0 s1 w) (hd : Fits s d0 d1) (ha : Fits s a0 a1) :
    Calls Tryf.prog 14 #[pt P, pt E] w (fun y w' => y = .returned (.tuple #[]) ∧ LS B P K M H G E F0 s (lenOf d1 ++ lenOf a1) d0 d1 a0 a1 s0 s1 false w w') := by
  have lP := hTk.lt
  have lE : E < w.heap.size := lt_of_blk hE
  have e0 : w.cell? ⟨E, 0, none⟩ = some (.int .i32 d0) := cell_of_row _ _ 0 _ _ _ hE
  have e1 : w.cell? ⟨E, 1, none⟩ = some (.int .i32 d1) := cell_of_row _ _ 1 _ _ _ hE
  have l0 : w.cell? ⟨P, 51, none⟩ = some (fAdd K M H G) := hPs.l0 ▸ hTk.far (k := 51) (by omega) (by omega)
  have l1 : w.cell? ⟨P, 52, none⟩ = some (fHas M H) := hPs.l1 ▸ hTk.far (k := 52) (by omega) (by omega)
  have l2 : w.cell? ⟨P, 53, none⟩ = some (fPeek M G) := hPs.l2 ▸ hTk.far (k := 53) (by omega) (by omega)
  have l3 : w.cell? ⟨P, 54, none⟩ = some (fDone M G) := hPs.l3 ▸ hTk.far (k := 54) (by omega) (by omega)
  have l4 : w.cell? ⟨P, 55, none⟩ = some (.int .i8 3) := hPs.l4 ▸ hTk.far (k := 55) (by omega) (by omega)
  have l5 : w.cell? ⟨P, 56, none⟩ = some (.map none) := hPs.l5 ▸ hTk.far (k := 56) (by omega) (by omega)
  have st0 : St s 0 0 0 false := ⟨Nat.zero_le _, Nat.le_refl _, .inl rfl, fun e => by cases e⟩
  have hLS0 : LS B P K M H G E F0 s [] d0 d1 a0 a1 s0 s1 true w w := ⟨⟨_, _, _, 0, 0, 0, 0, false, hL, rfl, hTk, fun _ => st0⟩, hE, Below.refl _ _⟩
  replace hLS0 := Lib.hid hLS0
  replace hI := Lib.hid hI
  replace hT := Lib.hid hT
  replace hPs := Lib.hid hPs
  replace hd := Lib.hid hd
  replace ha := Lib.hid ha
  unfold pt
  go_enter Tryf.func14, Tryf.ntmps14
  go_upto_if 10 with fail
  go_cut [] from 10 to 22 (fun wx => LS B P K M H G E F0 s (lenOf d1) d0 d1 a0 a1 s0 s1 true w wx)
  · by_cases hpos : 0 < d1
    · obtain ⟨t, k, rfl, rfl, htk, hk1⟩ := nat_of hd.out hpos
      have hlen : lenOf (k : Int) = [] ++ [k] := by unfold lenOf; rw [if_pos hpos]; simp
      have cA := Lib.hid (addErr (B := B) (K := K) (M := M) (H := H) (G := G) P F0 s ⟨#[85, 110, 101, 120, 112, 101, 99, 116, 101, 100, 32, 34, 61, 34]⟩ 0 0 0 0 false t k w.drew hs (by omega) (by omega) (by omega) hBP (Utf8Tabs_below hT.out (Below.refl _ _).drew) (hTk.of rfl) st0 (hL.below (Below.refl _ _).drew) (Nat.zero_le _))
      have hm := Lib.hid (fun (y : Ending) (w2 : World) (hh : MoreL B P K M H G 0 (.slice none 0 0) [] F0 s ⟨#[85, 110, 101, 120, 112, 101, 99, 116, 101, 100, 32, 34, 61, 34]⟩ 0 t k w.drew y w2) =>
        LS.more (w0 := w) (hL.below (Below.refl _ _).drew) (l := []) rfl rfl (hTk.of rfl) (E := E) (d0 := (t : Nat)) (d1 := (k : Nat)) (a0 := a0) (a1 := a1) (s0 := s0) (s1 := s1) hE (Below.refl _ _).drew hh true (fun _ => Nat.zero_le _))
      replace hlen := Lib.hid hlen
      clear hTk hL hE st0 hd ha
      go_upto_region 1 with fail
      go_still_tail 11, (by kernel_rfl)
      unfold logC at cA
      go_wp2_with fail
      go_at_call 23
      refine cA.out.mono ?_
      intro y w2 hh
      obtain ⟨rfl, hls⟩ := hm.out y w2 hh
      replace hls := Lib.hid hls
      clear hh cA hm
      go_wp2_with fail
      go_meet
      rw [hlen.out]
      exact hls.out
    · have hlen : lenOf d1 = [] := by unfold lenOf; rw [if_neg hpos]
      replace hlen := Lib.hid hlen
      clear hTk hL hE st0
      go_wp2_with fail
      go_meet
      rw [hlen.out]
      exact hLS0.out
  · clear hTk hL hE st0 e0 e1 l0 l1 l2 l3 l4 l5 hLS0
    have hls := Lib.hid hcut
    obtain ⟨v, xs, e, o, ls, le, ln, he, hL, hM, hTk, hst⟩ := hcut.ex
    have hE : ErrB E d0 d1 a0 a1 s0 s1 wc := hcut.err
    have bC := hcut.bel
    have lE := lt_of_blk hE
    have lP := hTk.lt
    have e2 : wc.cell? ⟨E, 2, none⟩ = some (.int .i32 a0) := cell_of_row _ _ 2 _ _ _ hE
    have e3 : wc.cell? ⟨E, 3, none⟩ = some (.int .i32 a1) := cell_of_row _ _ 3 _ _ _ hE
    replace hL := Lib.hid hL
    replace hM := Lib.hid hM
    replace hTk := Lib.hid hTk
    replace hst := Lib.hid hst
    replace hE := Lib.hid hE
    replace bC := Lib.hid bC
    clear hcut
    go_upto_if 28 with fail
    go_cut [] from 28 to 59 (fun wx => LS B P K M H G E F0 s (lenOf d1 ++ lenOf a1) d0 d1 a0 a1 s0 s1 false w wx)
    · by_cases hpos : 0 < a1
      · obtain ⟨t, k, rfl, rfl, htk, hk1⟩ := nat_of ha.out hpos
        have hlen : lenOf (k : Int) = [k] := by unfold lenOf; rw [if_pos hpos]; simp
        replace hlen := Lib.hid hlen
        have tI : (t : Int) + (k : Int) ≤ (s.size : Int) := by omega
        go_upto_region 4 with fail
        have hwr : IntKind.i32.wrap ((t : Int) + (k : Int)) = (t : Int) + (k : Int) := wraps_i32 _ (by omega) (by omega)
        have hnat : ((t : Int) + (k : Int)).toNat = t + k := by omega
        have hS0 : Hid (S4 P K M H G wc.heap.size s t k (wc.alloc (.cells #[.int .i32 (t : Nat), .int .i32 (k : Nat)] 31)).drew) :=
          Lib.hid (S4.of (hTk.out.of (((Below.refl _ _).alloc (Nat.le_refl _) _).drew.block _ lP)) hPs.out (heap_alloc_new _ _))
        refine wp_region_held_drew (S := S4 P K M H G wc.heap.size s t k) (by kernel_rfl) hS0.out (fun hS => ?_)
        refine Take.takeD (i := 0) (v := pt P) (some 33) rfl rfl (by kernel_rfl) (by kernel_rfl) (by kernel_rfl) (fun _ _ _ h => h) (Or.inl ⟨by rfl, fun w9 hw9 => by (have u0 := hw9.l0; have u1 := hw9.l1; have u2 := hw9.l2; have u3 := hw9.l3; have u4 := hw9.l4; have u5 := hw9.l5; have u6 := hw9.src; have u7 := hw9.n0; have u8 := hw9.n1; go_simp; first | done | rfl | exact hwr | (rw [if_pos (by omega), if_pos (by omega)]) | (simp [logC, u0, u1, u2, u3, u4, u5, u6, u7, u8]; done) | (simp [logC, u0, u1, u2, u3, u4, u5, u6, u7, u8]; omega))⟩) hS ?_
        try simp only [Act.put, List.setIfInBounds_toArray, List.set_cons_zero, List.set_cons_succ]
        refine Take.takeD (i := 1) (v := pt P) (some 34) rfl rfl (by kernel_rfl) (by kernel_rfl) (by kernel_rfl) (fun _ _ _ h => h) (Or.inl ⟨by rfl, fun w9 hw9 => by (have u0 := hw9.l0; have u1 := hw9.l1; have u2 := hw9.l2; have u3 := hw9.l3; have u4 := hw9.l4; have u5 := hw9.l5; have u6 := hw9.src; have u7 := hw9.n0; have u8 := hw9.n1; go_simp; first | done | rfl | exact hwr | (rw [if_pos (by omega), if_pos (by omega)]) | (simp [logC, u0, u1, u2, u3, u4, u5, u6, u7, u8]; done) | (simp [logC, u0, u1, u2, u3, u4, u5, u6, u7, u8]; omega))⟩) hS ?_
        try simp only [Act.put, List.setIfInBounds_toArray, List.set_cons_zero, List.set_cons_succ]
        refine Take.takeD (i := 2) (v := .pointer (some ⟨P, 51, none⟩)) (some 35) rfl rfl (by kernel_rfl) (by kernel_rfl) (by kernel_rfl) (fun _ _ _ h => h) (Or.inl ⟨by rfl, fun w9 hw9 => by (have u0 := hw9.l0; have u1 := hw9.l1; have u2 := hw9.l2; have u3 := hw9.l3; have u4 := hw9.l4; have u5 := hw9.l5; have u6 := hw9.src; have u7 := hw9.n0; have u8 := hw9.n1; go_simp; first | done | rfl | exact hwr | (rw [if_pos (by omega), if_pos (by omega)]) | (simp [logC, u0, u1, u2, u3, u4, u5, u6, u7, u8]; done) | (simp [logC, u0, u1, u2, u3, u4, u5, u6, u7, u8]; omega))⟩) hS ?_
        try simp only [Act.put, List.setIfInBounds_toArray, List.set_cons_zero, List.set_cons_succ]
        refine Take.takeD (i := 3) (v := .agg (logC K M H G)) (some 36) rfl rfl (by kernel_rfl) (by kernel_rfl) (by kernel_rfl) (fun _ _ _ h => h) (Or.inl ⟨by rfl, fun w9 hw9 => by (have u0 := hw9.l0; have u1 := hw9.l1; have u2 := hw9.l2; have u3 := hw9.l3; have u4 := hw9.l4; have u5 := hw9.l5; have u6 := hw9.src; have u7 := hw9.n0; have u8 := hw9.n1; go_simp; first | done | rfl | exact hwr | (rw [if_pos (by omega), if_pos (by omega)]) | (simp [logC, u0, u1, u2, u3, u4, u5, u6, u7, u8]; done) | (simp [logC, u0, u1, u2, u3, u4, u5, u6, u7, u8]; omega))⟩) hS ?_
        try simp only [Act.put, List.setIfInBounds_toArray, List.set_cons_zero, List.set_cons_succ]
        refine Take.takeD (i := 4) (v := pt P) (some 37) rfl rfl (by kernel_rfl) (by kernel_rfl) (by kernel_rfl) (fun _ _ _ h => h) (Or.inl ⟨by rfl, fun w9 hw9 => by (have u0 := hw9.l0; have u1 := hw9.l1; have u2 := hw9.l2; have u3 := hw9.l3; have u4 := hw9.l4; have u5 := hw9.l5; have u6 := hw9.src; have u7 := hw9.n0; have u8 := hw9.n1; go_simp; first | done | rfl | exact hwr | (rw [if_pos (by omega), if_pos (by omega)]) | (simp [logC, u0, u1, u2, u3, u4, u5, u6, u7, u8]; done) | (simp [logC, u0, u1, u2, u3, u4, u5, u6, u7, u8]; omega))⟩) hS ?_
        try simp only [Act.put, List.setIfInBounds_toArray, List.set_cons_zero, List.set_cons_succ]
        refine Take.takeD (i := 5) (v := pt P) (some 38) rfl rfl (by kernel_rfl) (by kernel_rfl) (by kernel_rfl) (fun _ _ _ h => h) (Or.inl ⟨by rfl, fun w9 hw9 => by (have u0 := hw9.l0; have u1 := hw9.l1; have u2 := hw9.l2; have u3 := hw9.l3; have u4 := hw9.l4; have u5 := hw9.l5; have u6 := hw9.src; have u7 := hw9.n0; have u8 := hw9.n1; go_simp; first | done | rfl | exact hwr | (rw [if_pos (by omega), if_pos (by omega)]) | (simp [logC, u0, u1, u2, u3, u4, u5, u6, u7, u8]; done) | (simp [logC, u0, u1, u2, u3, u4, u5, u6, u7, u8]; omega))⟩) hS ?_
        try simp only [Act.put, List.setIfInBounds_toArray, List.set_cons_zero, List.set_cons_succ]
        refine Take.takeD (i := 6) (v := .pointer (some ⟨P, 67, none⟩)) (some 39) rfl rfl (by kernel_rfl) (by kernel_rfl) (by kernel_rfl) (fun _ _ _ h => h) (Or.inl ⟨by rfl, fun w9 hw9 => by (have u0 := hw9.l0; have u1 := hw9.l1; have u2 := hw9.l2; have u3 := hw9.l3; have u4 := hw9.l4; have u5 := hw9.l5; have u6 := hw9.src; have u7 := hw9.n0; have u8 := hw9.n1; go_simp; first | done | rfl | exact hwr | (rw [if_pos (by omega), if_pos (by omega)]) | (simp [logC, u0, u1, u2, u3, u4, u5, u6, u7, u8]; done) | (simp [logC, u0, u1, u2, u3, u4, u5, u6, u7, u8]; omega))⟩) hS ?_
        try simp only [Act.put, List.setIfInBounds_toArray, List.set_cons_zero, List.set_cons_succ]
        refine Take.takeD (i := 7) (v := .agg #[.int .i32 (t : Nat), .int .i32 (k : Nat)]) (some 40) rfl rfl (by kernel_rfl) (by kernel_rfl) (by kernel_rfl) (fun _ _ _ h => h) (Or.inl ⟨by rfl, fun w9 hw9 => by (have u0 := hw9.l0; have u1 := hw9.l1; have u2 := hw9.l2; have u3 := hw9.l3; have u4 := hw9.l4; have u5 := hw9.l5; have u6 := hw9.src; have u7 := hw9.n0; have u8 := hw9.n1; go_simp; first | done | rfl | exact hwr | (rw [if_pos (by omega), if_pos (by omega)]) | (simp [logC, u0, u1, u2, u3, u4, u5, u6, u7, u8]; done) | (simp [logC, u0, u1, u2, u3, u4, u5, u6, u7, u8]; omega))⟩) hS ?_
        try simp only [Act.put, List.setIfInBounds_toArray, List.set_cons_zero, List.set_cons_succ]
        refine Take.takeD (i := 8) (v := pt P) (some 41) rfl rfl (by kernel_rfl) (by kernel_rfl) (by kernel_rfl) (fun _ _ _ h => h) (Or.inl ⟨by rfl, fun w9 hw9 => by (have u0 := hw9.l0; have u1 := hw9.l1; have u2 := hw9.l2; have u3 := hw9.l3; have u4 := hw9.l4; have u5 := hw9.l5; have u6 := hw9.src; have u7 := hw9.n0; have u8 := hw9.n1; go_simp; first | done | rfl | exact hwr | (rw [if_pos (by omega), if_pos (by omega)]) | (simp [logC, u0, u1, u2, u3, u4, u5, u6, u7, u8]; done) | (simp [logC, u0, u1, u2, u3, u4, u5, u6, u7, u8]; omega))⟩) hS ?_
        try simp only [Act.put, List.setIfInBounds_toArray, List.set_cons_zero, List.set_cons_succ]
        refine Take.takeD (i := 9) (v := pt P) (some 42) rfl rfl (by kernel_rfl) (by kernel_rfl) (by kernel_rfl) (fun _ _ _ h => h) (Or.inl ⟨by rfl, fun w9 hw9 => by (have u0 := hw9.l0; have u1 := hw9.l1; have u2 := hw9.l2; have u3 := hw9.l3; have u4 := hw9.l4; have u5 := hw9.l5; have u6 := hw9.src; have u7 := hw9.n0; have u8 := hw9.n1; go_simp; first | done | rfl | exact hwr | (rw [if_pos (by omega), if_pos (by omega)]) | (simp [logC, u0, u1, u2, u3, u4, u5, u6, u7, u8]; done) | (simp [logC, u0, u1, u2, u3, u4, u5, u6, u7, u8]; omega))⟩) hS ?_
        try simp only [Act.put, List.setIfInBounds_toArray, List.set_cons_zero, List.set_cons_succ]
        refine Take.takeD (i := 10) (v := .pointer (some ⟨P, 57, none⟩)) (some 43) rfl rfl (by kernel_rfl) (by kernel_rfl) (by kernel_rfl) (fun _ _ _ h => h) (Or.inl ⟨by rfl, fun w9 hw9 => by (have u0 := hw9.l0; have u1 := hw9.l1; have u2 := hw9.l2; have u3 := hw9.l3; have u4 := hw9.l4; have u5 := hw9.l5; have u6 := hw9.src; have u7 := hw9.n0; have u8 := hw9.n1; go_simp; first | done | rfl | exact hwr | (rw [if_pos (by omega), if_pos (by omega)]) | (simp [logC, u0, u1, u2, u3, u4, u5, u6, u7, u8]; done) | (simp [logC, u0, u1, u2, u3, u4, u5, u6, u7, u8]; omega))⟩) hS ?_
        try simp only [Act.put, List.setIfInBounds_toArray, List.set_cons_zero, List.set_cons_succ]
        refine Take.takeD (i := 11) (v := .pointer (some ⟨P, 60, none⟩)) (some 44) rfl rfl (by kernel_rfl) (by kernel_rfl) (by kernel_rfl) (fun _ _ _ h => h) (Or.inl ⟨by rfl, fun w9 hw9 => by (have u0 := hw9.l0; have u1 := hw9.l1; have u2 := hw9.l2; have u3 := hw9.l3; have u4 := hw9.l4; have u5 := hw9.l5; have u6 := hw9.src; have u7 := hw9.n0; have u8 := hw9.n1; go_simp; first | done | rfl | exact hwr | (rw [if_pos (by omega), if_pos (by omega)]) | (simp [logC, u0, u1, u2, u3, u4, u5, u6, u7, u8]; done) | (simp [logC, u0, u1, u2, u3, u4, u5, u6, u7, u8]; omega))⟩) hS ?_
        try simp only [Act.put, List.setIfInBounds_toArray, List.set_cons_zero, List.set_cons_succ]
        refine Take.takeD (i := 12) (v := .string s) (some 45) rfl rfl (by kernel_rfl) (by kernel_rfl) (by kernel_rfl) (fun _ _ _ h => h) (Or.inl ⟨by rfl, fun w9 hw9 => by (have u0 := hw9.l0; have u1 := hw9.l1; have u2 := hw9.l2; have u3 := hw9.l3; have u4 := hw9.l4; have u5 := hw9.l5; have u6 := hw9.src; have u7 := hw9.n0; have u8 := hw9.n1; go_simp; first | done | rfl | exact hwr | (rw [if_pos (by omega), if_pos (by omega)]) | (simp [logC, u0, u1, u2, u3, u4, u5, u6, u7, u8]; done) | (simp [logC, u0, u1, u2, u3, u4, u5, u6, u7, u8]; omega))⟩) hS ?_
        try simp only [Act.put, List.setIfInBounds_toArray, List.set_cons_zero, List.set_cons_succ]
        refine Take.takeD (i := 13) (v := .pointer (some ⟨wc.heap.size, 0, none⟩)) (some 46) rfl rfl (by kernel_rfl) (by kernel_rfl) (by kernel_rfl) (fun _ _ _ h => h) (Or.inl ⟨by rfl, fun w9 hw9 => by (have u0 := hw9.l0; have u1 := hw9.l1; have u2 := hw9.l2; have u3 := hw9.l3; have u4 := hw9.l4; have u5 := hw9.l5; have u6 := hw9.src; have u7 := hw9.n0; have u8 := hw9.n1; go_simp; first | done | rfl | exact hwr | (rw [if_pos (by omega), if_pos (by omega)]) | (simp [logC, u0, u1, u2, u3, u4, u5, u6, u7, u8]; done) | (simp [logC, u0, u1, u2, u3, u4, u5, u6, u7, u8]; omega))⟩) hS ?_
        try simp only [Act.put, List.setIfInBounds_toArray, List.set_cons_zero, List.set_cons_succ]
        refine Take.takeD (i := 14) (v := .pointer (some ⟨wc.heap.size, 0, none⟩)) (some 47) rfl rfl (by kernel_rfl) (by kernel_rfl) (by kernel_rfl) (fun _ _ _ h => h) (Or.inl ⟨by rfl, fun w9 hw9 => by (have u0 := hw9.l0; have u1 := hw9.l1; have u2 := hw9.l2; have u3 := hw9.l3; have u4 := hw9.l4; have u5 := hw9.l5; have u6 := hw9.src; have u7 := hw9.n0; have u8 := hw9.n1; go_simp; first | done | rfl | exact hwr | (rw [if_pos (by omega), if_pos (by omega)]) | (simp [logC, u0, u1, u2, u3, u4, u5, u6, u7, u8]; done) | (simp [logC, u0, u1, u2, u3, u4, u5, u6, u7, u8]; omega))⟩) hS ?_
        try simp only [Act.put, List.setIfInBounds_toArray, List.set_cons_zero, List.set_cons_succ]
        refine Take.takeD (i := 15) (v := .int .i32 (t : Nat)) (some 48) rfl rfl (by kernel_rfl) (by kernel_rfl) (by kernel_rfl) (fun _ _ _ h => h) (Or.inl ⟨by rfl, fun w9 hw9 => by (have u0 := hw9.l0; have u1 := hw9.l1; have u2 := hw9.l2; have u3 := hw9.l3; have u4 := hw9.l4; have u5 := hw9.l5; have u6 := hw9.src; have u7 := hw9.n0; have u8 := hw9.n1; go_simp; first | done | rfl | exact hwr | (rw [if_pos (by omega), if_pos (by omega)]) | (simp [logC, u0, u1, u2, u3, u4, u5, u6, u7, u8]; done) | (simp [logC, u0, u1, u2, u3, u4, u5, u6, u7, u8]; omega))⟩) hS ?_
        try simp only [Act.put, List.setIfInBounds_toArray, List.set_cons_zero, List.set_cons_succ]
        refine Take.takeD (i := 16) (v := .pointer (some ⟨wc.heap.size, 0, none⟩)) (some 49) rfl rfl (by kernel_rfl) (by kernel_rfl) (by kernel_rfl) (fun _ _ _ h => h) (Or.inl ⟨by rfl, fun w9 hw9 => by (have u0 := hw9.l0; have u1 := hw9.l1; have u2 := hw9.l2; have u3 := hw9.l3; have u4 := hw9.l4; have u5 := hw9.l5; have u6 := hw9.src; have u7 := hw9.n0; have u8 := hw9.n1; go_simp; first | done | rfl | exact hwr | (rw [if_pos (by omega), if_pos (by omega)]) | (simp [logC, u0, u1, u2, u3, u4, u5, u6, u7, u8]; done) | (simp [logC, u0, u1, u2, u3, u4, u5, u6, u7, u8]; omega))⟩) hS ?_
        try simp only [Act.put, List.setIfInBounds_toArray, List.set_cons_zero, List.set_cons_succ]
        refine Take.takeD (i := 17) (v := .pointer (some ⟨wc.heap.size, 0, none⟩)) (some 50) rfl rfl (by kernel_rfl) (by kernel_rfl) (by kernel_rfl) (fun _ _ _ h => h) (Or.inl ⟨by rfl, fun w9 hw9 => by (have u0 := hw9.l0; have u1 := hw9.l1; have u2 := hw9.l2; have u3 := hw9.l3; have u4 := hw9.l4; have u5 := hw9.l5; have u6 := hw9.src; have u7 := hw9.n0; have u8 := hw9.n1; go_simp; first | done | rfl | exact hwr | (rw [if_pos (by omega), if_pos (by omega)]) | (simp [logC, u0, u1, u2, u3, u4, u5, u6, u7, u8]; done) | (simp [logC, u0, u1, u2, u3, u4, u5, u6, u7, u8]; omega))⟩) hS ?_
        try simp only [Act.put, List.setIfInBounds_toArray, List.set_cons_zero, List.set_cons_succ]
        refine Take.takeD (i := 18) (v := .int .i32 (t : Nat)) (some 51) rfl rfl (by kernel_rfl) (by kernel_rfl) (by kernel_rfl) (fun _ _ _ h => h) (Or.inl ⟨by rfl, fun w9 hw9 => by (have u0 := hw9.l0; have u1 := hw9.l1; have u2 := hw9.l2; have u3 := hw9.l3; have u4 := hw9.l4; have u5 := hw9.l5; have u6 := hw9.src; have u7 := hw9.n0; have u8 := hw9.n1; go_simp; first | done | rfl | exact hwr | (rw [if_pos (by omega), if_pos (by omega)]) | (simp [logC, u0, u1, u2, u3, u4, u5, u6, u7, u8]; done) | (simp [logC, u0, u1, u2, u3, u4, u5, u6, u7, u8]; omega))⟩) hS ?_
        try simp only [Act.put, List.setIfInBounds_toArray, List.set_cons_zero, List.set_cons_succ]
        refine Take.takeD (i := 19) (v := .pointer (some ⟨wc.heap.size, 1, none⟩)) (some 52) rfl rfl (by kernel_rfl) (by kernel_rfl) (by kernel_rfl) (fun _ _ _ h => h) (Or.inl ⟨by rfl, fun w9 hw9 => by (have u0 := hw9.l0; have u1 := hw9.l1; have u2 := hw9.l2; have u3 := hw9.l3; have u4 := hw9.l4; have u5 := hw9.l5; have u6 := hw9.src; have u7 := hw9.n0; have u8 := hw9.n1; go_simp; first | done | rfl | exact hwr | (rw [if_pos (by omega), if_pos (by omega)]) | (simp [logC, u0, u1, u2, u3, u4, u5, u6, u7, u8]; done) | (simp [logC, u0, u1, u2, u3, u4, u5, u6, u7, u8]; omega))⟩) hS ?_
        try simp only [Act.put, List.setIfInBounds_toArray, List.set_cons_zero, List.set_cons_succ]
        refine Take.takeD (i := 20) (v := .int .i32 (k : Nat)) (some 53) rfl rfl (by kernel_rfl) (by kernel_rfl) (by kernel_rfl) (fun _ _ _ h => h) (Or.inl ⟨by rfl, fun w9 hw9 => by (have u0 := hw9.l0; have u1 := hw9.l1; have u2 := hw9.l2; have u3 := hw9.l3; have u4 := hw9.l4; have u5 := hw9.l5; have u6 := hw9.src; have u7 := hw9.n0; have u8 := hw9.n1; go_simp; first | done | rfl | exact hwr | (rw [if_pos (by omega), if_pos (by omega)]) | (simp [logC, u0, u1, u2, u3, u4, u5, u6, u7, u8]; done) | (simp [logC, u0, u1, u2, u3, u4, u5, u6, u7, u8]; omega))⟩) hS ?_
        try simp only [Act.put, List.setIfInBounds_toArray, List.set_cons_zero, List.set_cons_succ]
        refine Take.takeD (i := 21) (v := .int .i32 ((t : Int) + (k : Int))) (some 54) rfl rfl (by kernel_rfl) (by kernel_rfl) (by kernel_rfl) (fun _ _ _ h => h) (Or.inl ⟨by rfl, fun w9 hw9 => by (have u0 := hw9.l0; have u1 := hw9.l1; have u2 := hw9.l2; have u3 := hw9.l3; have u4 := hw9.l4; have u5 := hw9.l5; have u6 := hw9.src; have u7 := hw9.n0; have u8 := hw9.n1; go_simp; first | done | rfl | exact hwr | (rw [if_pos (by omega), if_pos (by omega)]) | (simp [logC, u0, u1, u2, u3, u4, u5, u6, u7, u8]; done) | (simp [logC, u0, u1, u2, u3, u4, u5, u6, u7, u8]; omega))⟩) hS ?_
        try simp only [Act.put, List.setIfInBounds_toArray, List.set_cons_zero, List.set_cons_succ]
        refine Take.takeD (i := 22) (v := .string (s.extract t (t + k))) (some 55) rfl rfl (by kernel_rfl) (by kernel_rfl) (by kernel_rfl) (fun _ _ _ h => h) (Or.inl ⟨by rfl, fun w9 hw9 => by (have u0 := hw9.l0; have u1 := hw9.l1; have u2 := hw9.l2; have u3 := hw9.l3; have u4 := hw9.l4; have u5 := hw9.l5; have u6 := hw9.src; have u7 := hw9.n0; have u8 := hw9.n1; go_simp; first | done | rfl | exact hwr | (rw [if_pos (by omega), if_pos (by omega)]) | (simp [logC, u0, u1, u2, u3, u4, u5, u6, u7, u8]; done) | (simp [logC, u0, u1, u2, u3, u4, u5, u6, u7, u8]; omega))⟩) hS ?_
        try simp only [Act.put, List.setIfInBounds_toArray, List.set_cons_zero, List.set_cons_succ]
        refine Take.takeD (i := 23) (v := .iface 9 (.string (s.extract t (t + k)))) (some 56) rfl rfl (by kernel_rfl) (by kernel_rfl) (by kernel_rfl) (fun _ _ _ h => h) (Or.inl ⟨by rfl, fun w9 hw9 => by (have u0 := hw9.l0; have u1 := hw9.l1; have u2 := hw9.l2; have u3 := hw9.l3; have u4 := hw9.l4; have u5 := hw9.l5; have u6 := hw9.src; have u7 := hw9.n0; have u8 := hw9.n1; go_simp; first | done | rfl | exact hwr | (rw [if_pos (by omega), if_pos (by omega)]) | (simp [logC, u0, u1, u2, u3, u4, u5, u6, u7, u8]; done) | (simp [logC, u0, u1, u2, u3, u4, u5, u6, u7, u8]; omega))⟩) hS ?_
        try simp only [Act.put, List.setIfInBounds_toArray, List.set_cons_zero, List.set_cons_succ]
        clear hS
        refine wpAnyH_ready (rs := [24]) (by kernel_rfl) (by decide) ?_
        refine AllReadyH.cons rfl (fun K' hK => ?_) AllReadyH.nil
        rw [if_pos (by kernel_rfl)]
        go_wp2_with fail
        obtain ⟨q0, q1⟩ := two_blocks wc #[.int .i32 (t : Nat), .int .i32 (k : Nat)] #[.iface 9 (.string (s.extract t (t + k)))] 31 20
        have bD : Below wc.heap.size wc ((wc.alloc (.cells #[.int .i32 (t : Nat), .int .i32 (k : Nat)] 31)).alloc (.cells #[.iface 9 (.string (s.extract t (t + k)))] 20)).drew := (((Below.refl _ _).alloc (Nat.le_refl _) _).alloc (by simp) _).drew
        have hc1 := cell_of_row _ _ 0 _ _ _ q1
        have hS1 : S4 P K M H G wc.heap.size s t k ((wc.alloc (.cells #[.int .i32 (t : Nat), .int .i32 (k : Nat)] 31)).alloc (.cells #[.iface 9 (.string (s.extract t (t + k)))] 20)).drew := S4.of (hTk.out.of (bD.block _ lP)) hPs.out q0
        replace hc1 := Lib.hid hc1
        replace hS1 := Lib.hid hS1
        replace bD := Lib.hid bD
        replace q0 := Lib.hid q0
        clear q1
        generalize ((wc.alloc (.cells #[.int .i32 (t : Nat), .int .i32 (k : Nat)] 31)).alloc (.cells #[.iface 9 (.string (s.extract t (t + k)))] 20)).drew = wd at q0 bD hS1 hc1 ⊢
        refine hK.out _ _ hS1.out (fun _ => ?_)
        clear hK
        obtain ⟨x, hx⟩ := spr3 (F := I) (w := wd) (by rw [bD.out.tape, bC.out.tape]; exact hI.out) (wc.heap.size + 1) (s.extract t (t + k)) hc1.out
        unfold fm3 at hx
        have hTkd := hTk.out.of (bD.out.block _ lP)
        have hLd := hL.out.below bD.out
        have hEd : ErrB E d0 d1 (t : Nat) (k : Nat) s0 s1 wd := (bD.out.block _ lE).trans hE.out
        have hwN := lt_of_blk q0.out
        have bDr : Below B w wd.drew := (bC.out.trans (bD.out.mono (Nat.le_trans hBP (Nat.le_of_lt lP)))).drew
        have hMd := hM.out.mono (w1 := wd.drew) (fun q k hq => hq.below (bD.out.drew))
        have cA := Lib.hid (addErr (B := B) (K := K) (M := M) (H := H) (G := G) P F0 s x o ls le ln he t k wd.drew hs (by omega) (by omega) (by omega) hBP (tabs2 hT.out ((bC.out.mono hB2).trans (bD.out.drew.mono (by omega)))) (hTkd.of rfl) (hst.out (by simp)) (hLd.below (Below.refl _ _).drew) (by unfold lenOf; split <;> simp))
        have hm := Lib.hid (fun (y : Ending) (w2 : World) (hh : MoreL B P K M H G (lenOf d1).length v xs F0 s x o t k wd.drew y w2) =>
          LS.more (w0 := w) (hLd.below (Below.refl _ _).drew) (l := lenOf d1) rfl hMd (hTkd.of rfl) (E := E) (d0 := d0) (d1 := d1) (a0 := (t : Nat)) (a1 := (k : Nat)) (s0 := s0) (s1 := s1) hEd bDr hh false (fun e => by cases e))
        have hS2 := Lib.hid (fun (y : Ending) (w2 : World) (hh : MoreL B P K M H G (lenOf d1).length v xs F0 s x o t k wd.drew y w2) =>
          S4.more hh (hLd.below (Below.refl _ _).drew) (hTkd.of rfl) hPs.out (q0.out : wd.drew.heap[wc.heap.size]? = _))
        replace hwN := Lib.hid hwN
        clear hTkd hLd hEd bDr hMd hL hM hTk hst hE bC hls
        refine wpAnyH_ready (rs := [25]) (by kernel_rfl) (by decide) ?_
        refine AllReadyH.cons rfl (fun K' hK => ?_) AllReadyH.nil
        rw [if_pos (by kernel_rfl)]
        go_wp2_with fail
        refine hK.out _ _ (hS1.out.below (Below.refl _ _).drew) (fun _ => ?_)
        clear hK
        refine wpAnyH_ready (rs := [26]) (by kernel_rfl) (by decide) ?_
        refine AllReadyH.cons rfl (fun K' hK => ?_) AllReadyH.nil
        rw [if_pos (by kernel_rfl)]
        go_wp2_with fail
        go_at_call 23
        refine cA.out.mono ?_
        intro y w2 hh
        obtain ⟨rfl, hls⟩ := hm.out y w2 hh
        have hS3 := hS2.out _ w2 hh
        replace hls := Lib.hid hls
        clear hh cA hm hS2
        refine hK.out _ _ hS3 (fun _ => ?_)
        clear hK
        refine wpAnyH_done (by kernel_rfl) ?_ _
        go_wp2_with fail
        go_meet
        rw [hlen.out]
        exact hls.out
      · have hlen : lenOf a1 = [] := by unfold lenOf; rw [if_neg hpos]
        have hfin : LS B P K M H G E F0 s (lenOf d1 ++ lenOf a1) d0 d1 a0 a1 s0 s1 false w wc := by
          rw [hlen, List.append_nil]
          obtain ⟨v, xs, e, o, ls, le, ln, he, g1, g2, g3, _⟩ := hls.out.ex
          exact ⟨⟨v, xs, e, o, ls, le, ln, he, g1, g2, g3, fun e => by cases e⟩, hls.out.err, hls.out.bel⟩
        replace hfin := Lib.hid hfin
        clear hlen
        go_wp2_with fail
        go_meet
        exact hfin.out
    · clear hls hL hM hTk hst hE bC e2 e3 lP
      have hls := Lib.hid hcut
      obtain ⟨v, xs, e, o, ls, le, ln, he, hL, hM, hTk, _⟩ := hcut.ex
      have hE : ErrB E d0 d1 a0 a1 s0 s1 wc := hcut.err
      have lE := lt_of_blk hE
      have lP := hTk.lt
      have e4 : wc.cell? ⟨E, 4, none⟩ = some (.int .i32 s0) := cell_of_row _ _ 4 _ _ _ hE
      have e5 : wc.cell? ⟨E, 5, none⟩ = some (.int .i32 s1) := cell_of_row _ _ 5 _ _ _ hE
      have cM := Lib.hid (mark P s0 s1 wc (hPs.out.ft ▸ hTk.far (k := 23) (by omega) (by omega)))
      have hBw := Lib.hid (Nat.le_trans hBP (Nat.le_of_lt lP))
      clear hcut hL hM hTk hE
      by_cases hpos : 0 < s1
      · go_wp2_with fail
        go_at_call 25
        refine cM.out.mono ?_
        rintro y w2 ⟨rfl, hb⟩
        have hfin := Lib.hid (hls.out.below hb hBw.out)
        clear hb cM
        go_wp2_with fail
        go_end0
        exact ⟨rfl, hfin.out⟩
      · go_wp2_with fail
        go_end0
        exact ⟨rfl, hls.out⟩
end Go.Proofs.YtcijcifhdakhoaaFmt.Ex
