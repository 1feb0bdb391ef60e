/-
  The walk of FnLogExprErrorsCaseTable: it returns true for every text and all ranges. Condition: utf8's two tables laid; the stopped Sprintf answered.
-/
import Derived.Test.YtcijcifhdakhoaaFmtEx11
namespace Go.Proofs.YtcijcifhdakhoaaFmt.fnLogExprErrorsCaseTable
open Go.RowKit Go.Lib Go.Proofs.YtcijcifhdakhoaaFmt.Ints Go.Proofs.YtcijcifhdakhoaaFmt.Lg Go.Proofs.YtcijcifhdakhoaaFmt.U8 Go.Proofs.YtcijcifhdakhoaaFmt.Ex
open Go.Extern.Stop Go.Stop Go.Extern

theorem fin_below {l : List Nat} {v : Value} {w w1 : World} (h : Fin l v w) (hb : Below w.heap.size w w1) : Fin l v w1 := by
  rcases h with h | ⟨k, g, c, q, e, ev, ⟨⟨cs, hg, h3, h6⟩, hq⟩⟩ | ⟨k0, k1, g, c, N, q0, q1, x0, x1, e, ev, h2⟩
  · exact .inl h
  · exact .inr (.inl ⟨k, g, c, q, e, ev, ⟨⟨cs, (hb.block _ (lt_of_blk hg)).trans hg, h3, h6⟩, hq.below hb⟩⟩)
  · exact .inr (.inr ⟨k0, k1, g, c, N, q0, q1, x0, x1, e, ev, h2.below hb⟩)
/-- The wanted lengths so far, in a row of two places; the errors are as they were. -/
structure Wt (g : Nat) (ws l : List Nat) (v : Value) (w0 w : World) : Prop where
  own : w.ownsRow w0.heap.size 3 1 (.slice (some ⟨g, 0, none⟩) ws.length 2) ws.length (ws.map fun k : Nat => Value.int .i64 k)
  hF : Fin l v w
  bel : Below w0.heap.size w0 w
  lg : w0.heap.size ≤ g
theorem wt0 {l : List Nat} {v : Value} {w : World} (h : Fin l v w) : Wt w.heap.size [] l v w (w.alloc (.cells #[.int .i64 0, .int .i64 0] 3)) :=
  ⟨⟨rfl, .inr ⟨w.heap.size, 2, #[.int .i64 0, .int .i64 0], rfl, Nat.le_refl _, heap_alloc_new _ _, by simp, by decide, rfl, rfl⟩⟩, fin_below h ((Below.refl _ _).alloc (Nat.le_refl _) _), (Below.refl _ _).alloc (Nat.le_refl _) _, Nat.le_refl _⟩
theorem Wt.grow {g k : Nat} {ws l : List Nat} {v : Value} {w0 w w' : World} (h : Wt g ws l v w0 w) (hl : Fin l v w0) (o : Obj)
    (ho : w'.ownsRow w0.heap.size 3 1 (.slice (some ⟨g, 0, none⟩) (ws.length + 1) 2) (ws.length + 1) ((ws.map fun k : Nat => Value.int .i64 k) ++ [.int .i64 (k : Nat)])) (hg : (w.alloc o).grownBy w' (some g)) : Wt g (ws ++ [k]) l v w0 w' := by
  have hs := h.bel.size
  have b : Below w0.heap.size w0 w' := (h.bel.alloc hs o).grown hg (by simp; omega) (fun k' hk => by cases hk; exact h.lg)
  exact ⟨by simpa using ho, fin_below hl b, b, h.lg⟩
theorem Wt.cells {g : Nat} {ws l : List Nat} {v : Value} {w0 w : World} (h : Wt g ws l v w0 w) : ∀ (i k : Nat), ws[i]? = some k → w.cell? ⟨g, i, none⟩ = some (.int .i64 (k : Nat)) := fun i k hi => by
  obtain ⟨hx, h0 | ⟨g', cap, cur, e, hB, hg, hc, hm, hs, ht⟩⟩ := h.own
  · cases h0.1
  cases e
  have hlt : i < ws.length := (List.getElem?_eq_some_iff.1 hi).1
  rw [cell_of_row _ _ i _ _ _ hg, take_get ht (by omega), List.getElem?_map, hi]
  rfl
theorem infoI : (Tryf.prog.info? 3).map (fun i => (i.zero, i.size, i.bytes)) = some (some (.int .i64 0), 1, 8) := by kernel_rfl
def True_ (w : World) (e : Ending) (w' : World) : Prop := e = .returned (.bool true) ∧ Below w.heap.size w w'
theorem below3 {w u v x : World} (h1 : Below w.heap.size w u) (h2 : Below u.heap.size u v) (h3 : Below v.heap.size v x) : Below u.heap.size u x ∧ Below w.heap.size w x :=
  ⟨h2.trans (h3.mono h2.size), h1.trans ((h2.trans (h3.mono h2.size)).mono h1.size)⟩
set_option maxRecDepth 100000 in
set_option maxHeartbeats 4000000 in
theorem core {I : Interp} (s : ByteArray) (hs : s.size ≤ 1048576) (d0 d1 a0 a1 s0 s1 : Int) (hd1 : d1 < 2147483648) (ha1 : a1 < 2147483648) (hd0 : d0 < 2147483648) (ha0 : a0 < 2147483648) (w : World) (hT : Utf8Tabs 0 1 w) (hI : I.answers w.tape) :
    Calls Tryf.prog 3 #[.string s, .int .i32 d0, .int .i32 d1, .int .i32 a0, .int .i32 a1, .int .i32 s0, .int .i32 s1] w (True_ w) := by
  have hB2 : 2 ≤ w.heap.size := lt_of_cell (hT.2 0 (by omega)).1
  have cb := Ex.bytes s (by omega) d0 d1 a0 a1 s0 s1 w
  rw [decide_eq_true hs] at cb
  have hsn : ¬ (1048576 : Int) < (s.size : Int) := by omega
  obtain ⟨i0, hi, hz0, hz1, hz2⟩ := info_parts infoI
  have hk02 := mk02
  replace cb := Lib.hid cb
  replace hT := Lib.hid hT
  replace hI := Lib.hid hI
  replace hi := Lib.hid hi
  replace hz1 := Lib.hid hz1
  replace hB2 := Lib.hid hB2
  clear hz0 hz2
  have hsh := Lib.hid hs
  clear hs
  by_cases p1 : 0 < d1
  · have cf1 := spanFits d0 d1 s.size hd0 p1 hd1 (by omega) w
    by_cases f1 : 0 ≤ d0 ∧ d0 + d1 ≤ (s.size : Int)
    · rw [decide_eq_true f1] at cf1
      replace cf1 := Lib.hid cf1
      have hd : Fits s d0 d1 := fun _ => f1
      clear f1
      obtain ⟨k, rfl⟩ := Int.eq_ofNat_of_zero_le (by omega : 0 ≤ d1)
      by_cases p2 : 0 < a1
      · have cf2 := spanFits a0 a1 s.size ha0 p2 ha1 (by omega) w
        by_cases f2 : 0 ≤ a0 ∧ a0 + a1 ≤ (s.size : Int)
        · rw [decide_eq_true f2] at cf2
          replace cf2 := Lib.hid cf2
          have ha : Fits s a0 a1 := fun _ => f2
          clear f2
          obtain ⟨j, rfl⟩ := Int.eq_ofNat_of_zero_le (by omega : 0 ≤ a1)
          have hlens : lenOf (k : Int) ++ lenOf (j : Int) = [k, j] := by unfold lenOf; rw [if_pos p1, if_pos p2]; simp
          replace hlens := Lib.hid hlens
          have hwk : IntKind.i64.wrap (k : Int) = (k : Int) := U8.wraps_i64 _ (by omega) (by omega)
          have hwj : IntKind.i64.wrap (j : Int) = (j : Int) := U8.wraps_i64 _ (by omega) (by omega)
          replace hd := Lib.hid hd
          replace ha := Lib.hid ha
          clear hd1 ha1 hd0 ha0
          go_enter Tryf.func3, Tryf.ntmps3
          go_wp2_with fail
          go_at_call 4
          refine cb.out.mono ?_
          rintro y w' ⟨rfl, hw⟩
          subst w'
          go_wp2_with fail
          go_at_call 5
          refine cf1.out.mono ?_
          rintro y w' ⟨rfl, hw⟩
          subst w'
          go_wp2_with fail
          go_at_call 5
          refine cf2.out.mono ?_
          rintro y w' ⟨rfl, hw⟩
          subst w'
          go_wp2_with fail
          go_at_call 6
          refine (newParser s w).mono ?_
          rintro y u1 ⟨P, K, M, H, G, F0, rfl, hP, hTk, hPs, hL, b1⟩
          replace hP := Lib.hid hP
          replace hTk := Lib.hid hTk
          replace hPs := Lib.hid hPs
          replace hL := Lib.hid hL
          replace b1 := Lib.hid b1
          go_wp2_with fail
          go_at_call 8
          refine (rng _ _ _).mono ?_
          rintro y u2 ⟨rfl, b2⟩
          replace b2 := Lib.hid b2
          go_wp2_with fail
          go_at_call 8
          refine (rng _ _ _).mono ?_
          rintro y u3 ⟨rfl, b3⟩
          have b13 := Lib.hid (b2.out.trans (b3.mono b2.out.size))
          clear b2 b3
          go_wp2_with fail
          go_at_call 8
          refine (rng _ _ _).mono ?_
          rintro y u4 ⟨rfl, b4⟩
          have b14 := Lib.hid (b13.out.trans (b4.mono b13.out.size))
          clear b13 b4
          go_wp2_with fail
          go_at_call 7
          refine (newErrs _ _ _ _ _ _ _).mono ?_
          rintro y u5 ⟨E, rfl, hE, b5⟩
          have b15 := b14.out.trans (b5.mono b14.out.size)
          have bw5 := b1.out.trans (b15.mono b1.out.size)
          have cL := zzLog P E u5 (logErrs (I := I) w.heap.size P K M H G E F0 s d0 (k : Nat) a0 (j : Nat) s0 s1 u5 (by rw [bw5.tape]; exact hI.out) hsh.out hB2.out hP.out (Utf8Tabs_below hT.out bw5) hPs.out (hTk.out.of (b15.block _ hTk.out.lt)) (hL.out.below b15) hE hd.out ha.out)
          replace cL := Lib.hid cL
          replace bw5 := Lib.hid bw5
          clear hE b5 b14 b15 hTk hL b1 hT hd ha
          unfold pt at cL
          go_wp2_with fail
          go_at_call 9
          refine cL.out.mono ?_
          rintro y u6 ⟨rfl, hLS⟩
          obtain ⟨v, xs, e, o, ls, le, ln, he, hLg, hM, hTk6, _⟩ := hLS.ex
          have bw6 := Lib.hid (bw5.out.trans hLS.bel)
          rw [hlens.out] at hLg hM
          have cD := Lib.hid (zzDone u6 hLg rfl hM (by simp) (hPs.out.l3 ▸ hTk6.far (k := 54) (by omega) (by omega)))
          clear hLS hLg hM hTk6 bw5 cL hPs
          unfold pt at cD
          go_wp2_with fail
          go_at_call 10
          refine cD.out.mono ?_
          rintro y u7 ⟨rfl, hF, b7⟩
          have bw7 := Lib.hid (bw6.out.trans b7)
          have hW := Lib.hid (wt0 hF)
          replace hF := Lib.hid hF
          clear cD bw6 b7
          have hn1 := Lib.hid (arr_new (u7.alloc (.cells #[.int .i64 0, .int .i64 0] 3)) #[.int .i64 (k : Nat)] 3 (u7.heap.size + 1) (by simp))
          go_wp2_with (first | (at_builtin; refine wpList_append_own_spare _ rfl (.tmp 71) (.tmp 74) _ rfl u7.heap.size 3 i0 1 Tryf.underlying36 hi.out hz1.out u7.heap.size 0 2 [] rfl (hW.out.own.alloc _) ⟨u7.heap.size + 1, 0, none⟩ 1 1 [.int .i64 (k : Nat)] rfl rfl hn1.out (by simp [Value.oneCell']) (by omega) ?_; intro u8 ho hg; have hW1 := Lib.hid (hW.out.grow (k := k) hF.out _ ho hg); clear ho hg hW hn1; have hn2 := Lib.hid (arr_new u8 #[.int .i64 (j : Nat)] 3 u8.heap.size rfl)) | (at_builtin; refine wpList_append_own_spare _ rfl (.tmp 78) (.tmp 81) _ rfl u7.heap.size 3 i0 1 Tryf.underlying36 hi.out hz1.out u7.heap.size 1 2 [.int .i64 (k : Nat)] rfl (hW1.out.own.alloc _) ⟨u8.heap.size, 0, none⟩ 1 1 [.int .i64 (j : Nat)] rfl rfl hn2.out (by simp [Value.oneCell']) (by omega) ?_; intro u9 ho hg; have hW2 := Lib.hid (hW1.out.grow (k := j) hF.out _ ho hg); clear ho hg hW1 hn2))
          go_at_call 11
          refine (errs (c2 := 2) hW2.out.hF hW2.out.cells).mono ?_
          rintro y u10 ⟨rfl, b10⟩
          have bfin := Lib.hid (bw7.out.trans (hW2.out.bel.mono bw7.out.size |>.trans (b10.mono (Nat.le_trans bw7.out.size hW2.out.bel.size))))
          clear b10 hW2 hF
          go_wp2_with fail
          go_ret
          exact ⟨rfl, bfin.out⟩
        · rw [decide_eq_false f2] at cf2
          replace cf2 := Lib.hid cf2
          clear f2 hd
          clear hd1 ha1 hd0 ha0
          go_enter Tryf.func3, Tryf.ntmps3
          go_wp2_with fail
          go_at_call 4
          refine cb.out.mono ?_
          rintro y w' ⟨rfl, hw⟩
          subst w'
          go_wp2_with fail
          go_at_call 5
          refine cf1.out.mono ?_
          rintro y w' ⟨rfl, hw⟩
          subst w'
          go_wp2_with fail
          go_at_call 5
          refine cf2.out.mono ?_
          rintro y w' ⟨rfl, hw⟩
          subst w'
          go_wp2_with fail
          go_ret
          exact ⟨rfl, Below.refl _ _⟩
      · have ha : Fits s a0 a1 := fun h => absurd h p2
        have hlens : lenOf (k : Int) ++ lenOf a1 = [k] := by unfold lenOf; rw [if_pos p1, if_neg p2]; simp
        replace hlens := Lib.hid hlens
        have hwk : IntKind.i64.wrap (k : Int) = (k : Int) := U8.wraps_i64 _ (by omega) (by omega)
        replace hd := Lib.hid hd
        replace ha := Lib.hid ha
        clear hd1 ha1 hd0 ha0
        go_enter Tryf.func3, Tryf.ntmps3
        go_wp2_with fail
        go_at_call 4
        refine cb.out.mono ?_
        rintro y w' ⟨rfl, hw⟩
        subst w'
        go_wp2_with fail
        go_at_call 5
        refine cf1.out.mono ?_
        rintro y w' ⟨rfl, hw⟩
        subst w'
        go_wp2_with fail
        go_at_call 6
        refine (newParser s w).mono ?_
        rintro y u1 ⟨P, K, M, H, G, F0, rfl, hP, hTk, hPs, hL, b1⟩
        replace hP := Lib.hid hP
        replace hTk := Lib.hid hTk
        replace hPs := Lib.hid hPs
        replace hL := Lib.hid hL
        replace b1 := Lib.hid b1
        go_wp2_with fail
        go_at_call 8
        refine (rng _ _ _).mono ?_
        rintro y u2 ⟨rfl, b2⟩
        replace b2 := Lib.hid b2
        go_wp2_with fail
        go_at_call 8
        refine (rng _ _ _).mono ?_
        rintro y u3 ⟨rfl, b3⟩
        have b13 := Lib.hid (b2.out.trans (b3.mono b2.out.size))
        clear b2 b3
        go_wp2_with fail
        go_at_call 8
        refine (rng _ _ _).mono ?_
        rintro y u4 ⟨rfl, b4⟩
        have b14 := Lib.hid (b13.out.trans (b4.mono b13.out.size))
        clear b13 b4
        go_wp2_with fail
        go_at_call 7
        refine (newErrs _ _ _ _ _ _ _).mono ?_
        rintro y u5 ⟨E, rfl, hE, b5⟩
        have b15 := b14.out.trans (b5.mono b14.out.size)
        have bw5 := b1.out.trans (b15.mono b1.out.size)
        have cL := zzLog P E u5 (logErrs (I := I) w.heap.size P K M H G E F0 s d0 (k : Nat) a0 a1 s0 s1 u5 (by rw [bw5.tape]; exact hI.out) hsh.out hB2.out hP.out (Utf8Tabs_below hT.out bw5) hPs.out (hTk.out.of (b15.block _ hTk.out.lt)) (hL.out.below b15) hE hd.out ha.out)
        replace cL := Lib.hid cL
        replace bw5 := Lib.hid bw5
        clear hE b5 b14 b15 hTk hL b1 hT hd ha
        unfold pt at cL
        go_wp2_with fail
        go_at_call 9
        refine cL.out.mono ?_
        rintro y u6 ⟨rfl, hLS⟩
        obtain ⟨v, xs, e, o, ls, le, ln, he, hLg, hM, hTk6, _⟩ := hLS.ex
        have bw6 := Lib.hid (bw5.out.trans hLS.bel)
        rw [hlens.out] at hLg hM
        have cD := Lib.hid (zzDone u6 hLg rfl hM (by simp) (hPs.out.l3 ▸ hTk6.far (k := 54) (by omega) (by omega)))
        clear hLS hLg hM hTk6 bw5 cL hPs
        unfold pt at cD
        go_wp2_with fail
        go_at_call 10
        refine cD.out.mono ?_
        rintro y u7 ⟨rfl, hF, b7⟩
        have bw7 := Lib.hid (bw6.out.trans b7)
        have hW := Lib.hid (wt0 hF)
        replace hF := Lib.hid hF
        clear cD bw6 b7
        have hn1 := Lib.hid (arr_new (u7.alloc (.cells #[.int .i64 0, .int .i64 0] 3)) #[.int .i64 (k : Nat)] 3 (u7.heap.size + 1) (by simp))
        go_wp2_with (at_builtin; refine wpList_append_own_spare _ rfl (.tmp 71) (.tmp 74) _ rfl u7.heap.size 3 i0 1 Tryf.underlying36 hi.out hz1.out u7.heap.size 0 2 [] rfl (hW.out.own.alloc _) ⟨u7.heap.size + 1, 0, none⟩ 1 1 [.int .i64 (k : Nat)] rfl rfl hn1.out (by simp [Value.oneCell']) (by omega) ?_; intro u8 ho hg; have hW2 := Lib.hid (hW.out.grow (k := k) hF.out _ ho hg); clear ho hg hW hn1)
        go_at_call 11
        refine (errs (c2 := 2) hW2.out.hF hW2.out.cells).mono ?_
        rintro y u10 ⟨rfl, b10⟩
        have bfin := Lib.hid (bw7.out.trans (hW2.out.bel.mono bw7.out.size |>.trans (b10.mono (Nat.le_trans bw7.out.size hW2.out.bel.size))))
        clear b10 hW2 hF
        go_wp2_with fail
        go_ret
        exact ⟨rfl, bfin.out⟩
    · rw [decide_eq_false f1] at cf1
      replace cf1 := Lib.hid cf1
      clear f1
      clear hd1 ha1 hd0 ha0
      go_enter Tryf.func3, Tryf.ntmps3
      go_wp2_with fail
      go_at_call 4
      refine cb.out.mono ?_
      rintro y w' ⟨rfl, hw⟩
      subst w'
      go_wp2_with fail
      go_at_call 5
      refine cf1.out.mono ?_
      rintro y w' ⟨rfl, hw⟩
      subst w'
      go_wp2_with fail
      go_ret
      exact ⟨rfl, Below.refl _ _⟩
  · have hd : Fits s d0 d1 := fun h => absurd h p1
    by_cases p2 : 0 < a1
    · have cf2 := spanFits a0 a1 s.size ha0 p2 ha1 (by omega) w
      by_cases f2 : 0 ≤ a0 ∧ a0 + a1 ≤ (s.size : Int)
      · rw [decide_eq_true f2] at cf2
        replace cf2 := Lib.hid cf2
        have ha : Fits s a0 a1 := fun _ => f2
        clear f2
        obtain ⟨j, rfl⟩ := Int.eq_ofNat_of_zero_le (by omega : 0 ≤ a1)
        have hlens : lenOf d1 ++ lenOf (j : Int) = [j] := by unfold lenOf; rw [if_neg p1, if_pos p2]; simp
        replace hlens := Lib.hid hlens
        have hwj : IntKind.i64.wrap (j : Int) = (j : Int) := U8.wraps_i64 _ (by omega) (by omega)
        replace hd := Lib.hid hd
        replace ha := Lib.hid ha
        clear hd1 ha1 hd0 ha0
        go_enter Tryf.func3, Tryf.ntmps3
        go_wp2_with fail
        go_at_call 4
        refine cb.out.mono ?_
        rintro y w' ⟨rfl, hw⟩
        subst w'
        go_wp2_with fail
        go_at_call 5
        refine cf2.out.mono ?_
        rintro y w' ⟨rfl, hw⟩
        subst w'
        go_wp2_with fail
        go_at_call 6
        refine (newParser s w).mono ?_
        rintro y u1 ⟨P, K, M, H, G, F0, rfl, hP, hTk, hPs, hL, b1⟩
        replace hP := Lib.hid hP
        replace hTk := Lib.hid hTk
        replace hPs := Lib.hid hPs
        replace hL := Lib.hid hL
        replace b1 := Lib.hid b1
        go_wp2_with fail
        go_at_call 8
        refine (rng _ _ _).mono ?_
        rintro y u2 ⟨rfl, b2⟩
        replace b2 := Lib.hid b2
        go_wp2_with fail
        go_at_call 8
        refine (rng _ _ _).mono ?_
        rintro y u3 ⟨rfl, b3⟩
        have b13 := Lib.hid (b2.out.trans (b3.mono b2.out.size))
        clear b2 b3
        go_wp2_with fail
        go_at_call 8
        refine (rng _ _ _).mono ?_
        rintro y u4 ⟨rfl, b4⟩
        have b14 := Lib.hid (b13.out.trans (b4.mono b13.out.size))
        clear b13 b4
        go_wp2_with fail
        go_at_call 7
        refine (newErrs _ _ _ _ _ _ _).mono ?_
        rintro y u5 ⟨E, rfl, hE, b5⟩
        have b15 := b14.out.trans (b5.mono b14.out.size)
        have bw5 := b1.out.trans (b15.mono b1.out.size)
        have cL := zzLog P E u5 (logErrs (I := I) w.heap.size P K M H G E F0 s d0 d1 a0 (j : Nat) s0 s1 u5 (by rw [bw5.tape]; exact hI.out) hsh.out hB2.out hP.out (Utf8Tabs_below hT.out bw5) hPs.out (hTk.out.of (b15.block _ hTk.out.lt)) (hL.out.below b15) hE hd.out ha.out)
        replace cL := Lib.hid cL
        replace bw5 := Lib.hid bw5
        clear hE b5 b14 b15 hTk hL b1 hT hd ha
        unfold pt at cL
        go_wp2_with fail
        go_at_call 9
        refine cL.out.mono ?_
        rintro y u6 ⟨rfl, hLS⟩
        obtain ⟨v, xs, e, o, ls, le, ln, he, hLg, hM, hTk6, _⟩ := hLS.ex
        have bw6 := Lib.hid (bw5.out.trans hLS.bel)
        rw [hlens.out] at hLg hM
        have cD := Lib.hid (zzDone u6 hLg rfl hM (by simp) (hPs.out.l3 ▸ hTk6.far (k := 54) (by omega) (by omega)))
        clear hLS hLg hM hTk6 bw5 cL hPs
        unfold pt at cD
        go_wp2_with fail
        go_at_call 10
        refine cD.out.mono ?_
        rintro y u7 ⟨rfl, hF, b7⟩
        have bw7 := Lib.hid (bw6.out.trans b7)
        have hW := Lib.hid (wt0 hF)
        replace hF := Lib.hid hF
        clear cD bw6 b7
        have hn1 := Lib.hid (arr_new (u7.alloc (.cells #[.int .i64 0, .int .i64 0] 3)) #[.int .i64 (j : Nat)] 3 (u7.heap.size + 1) (by simp))
        go_wp2_with (at_builtin; refine wpList_append_own_spare _ rfl (.tmp 78) (.tmp 81) _ rfl u7.heap.size 3 i0 1 Tryf.underlying36 hi.out hz1.out u7.heap.size 0 2 [] rfl (hW.out.own.alloc _) ⟨u7.heap.size + 1, 0, none⟩ 1 1 [.int .i64 (j : Nat)] rfl rfl hn1.out (by simp [Value.oneCell']) (by omega) ?_; intro u8 ho hg; have hW2 := Lib.hid (hW.out.grow (k := j) hF.out _ ho hg); clear ho hg hW hn1)
        go_at_call 11
        refine (errs (c2 := 2) hW2.out.hF hW2.out.cells).mono ?_
        rintro y u10 ⟨rfl, b10⟩
        have bfin := Lib.hid (bw7.out.trans (hW2.out.bel.mono bw7.out.size |>.trans (b10.mono (Nat.le_trans bw7.out.size hW2.out.bel.size))))
        clear b10 hW2 hF
        go_wp2_with fail
        go_ret
        exact ⟨rfl, bfin.out⟩
      · rw [decide_eq_false f2] at cf2
        replace cf2 := Lib.hid cf2
        clear f2 hd
        clear hd1 ha1 hd0 ha0
        go_enter Tryf.func3, Tryf.ntmps3
        go_wp2_with fail
        go_at_call 4
        refine cb.out.mono ?_
        rintro y w' ⟨rfl, hw⟩
        subst w'
        go_wp2_with fail
        go_at_call 5
        refine cf2.out.mono ?_
        rintro y w' ⟨rfl, hw⟩
        subst w'
        go_wp2_with fail
        go_ret
        exact ⟨rfl, Below.refl _ _⟩
    · have ha : Fits s a0 a1 := fun h => absurd h p2
      have hlens : lenOf d1 ++ lenOf a1 = [] := by unfold lenOf; rw [if_neg p1, if_neg p2]; simp
      replace hlens := Lib.hid hlens
      replace hd := Lib.hid hd
      replace ha := Lib.hid ha
      clear hd1 ha1 hd0 ha0
      go_enter Tryf.func3, Tryf.ntmps3
      go_wp2_with fail
      go_at_call 4
      refine cb.out.mono ?_
      rintro y w' ⟨rfl, hw⟩
      subst w'
      go_wp2_with fail
      go_at_call 6
      refine (newParser s w).mono ?_
      rintro y u1 ⟨P, K, M, H, G, F0, rfl, hP, hTk, hPs, hL, b1⟩
      replace hP := Lib.hid hP
      replace hTk := Lib.hid hTk
      replace hPs := Lib.hid hPs
      replace hL := Lib.hid hL
      replace b1 := Lib.hid b1
      go_wp2_with fail
      go_at_call 8
      refine (rng _ _ _).mono ?_
      rintro y u2 ⟨rfl, b2⟩
      replace b2 := Lib.hid b2
      go_wp2_with fail
      go_at_call 8
      refine (rng _ _ _).mono ?_
      rintro y u3 ⟨rfl, b3⟩
      have b13 := Lib.hid (b2.out.trans (b3.mono b2.out.size))
      clear b2 b3
      go_wp2_with fail
      go_at_call 8
      refine (rng _ _ _).mono ?_
      rintro y u4 ⟨rfl, b4⟩
      have b14 := Lib.hid (b13.out.trans (b4.mono b13.out.size))
      clear b13 b4
      go_wp2_with fail
      go_at_call 7
      refine (newErrs _ _ _ _ _ _ _).mono ?_
      rintro y u5 ⟨E, rfl, hE, b5⟩
      have b15 := b14.out.trans (b5.mono b14.out.size)
      have bw5 := b1.out.trans (b15.mono b1.out.size)
      have cL := zzLog P E u5 (logErrs (I := I) w.heap.size P K M H G E F0 s d0 d1 a0 a1 s0 s1 u5 (by rw [bw5.tape]; exact hI.out) hsh.out hB2.out hP.out (Utf8Tabs_below hT.out bw5) hPs.out (hTk.out.of (b15.block _ hTk.out.lt)) (hL.out.below b15) hE hd.out ha.out)
      replace cL := Lib.hid cL
      replace bw5 := Lib.hid bw5
      clear hE b5 b14 b15 hTk hL b1 hT hd ha
      unfold pt at cL
      go_wp2_with fail
      go_at_call 9
      refine cL.out.mono ?_
      rintro y u6 ⟨rfl, hLS⟩
      obtain ⟨v, xs, e, o, ls, le, ln, he, hLg, hM, hTk6, _⟩ := hLS.ex
      have bw6 := Lib.hid (bw5.out.trans hLS.bel)
      rw [hlens.out] at hLg hM
      have cD := Lib.hid (zzDone u6 hLg rfl hM (by simp) (hPs.out.l3 ▸ hTk6.far (k := 54) (by omega) (by omega)))
      clear hLS hLg hM hTk6 bw5 cL hPs
      unfold pt at cD
      go_wp2_with fail
      go_at_call 10
      refine cD.out.mono ?_
      rintro y u7 ⟨rfl, hF, b7⟩
      have bw7 := Lib.hid (bw6.out.trans b7)
      have hW := Lib.hid (wt0 hF)
      replace hF := Lib.hid hF
      clear cD bw6 b7
      go_wp2_with fail
      go_at_call 11
      refine (errs (c2 := 2) hW.out.hF hW.out.cells).mono ?_
      rintro y u10 ⟨rfl, b10⟩
      have bfin := Lib.hid (bw7.out.trans (hW.out.bel.mono bw7.out.size |>.trans (b10.mono (Nat.le_trans bw7.out.size hW.out.bel.size))))
      clear b10 hW hF
      go_wp2_with fail
      go_ret
      exact ⟨rfl, bfin.out⟩
theorem big (s : ByteArray) (hs : ¬ s.size ≤ 1048576) (hs2 : s.size ≤ 9223372036854775807) (d0 d1 a0 a1 s0 s1 : Int) (w : World) :
    Calls Tryf.prog 3 #[.string s, .int .i32 d0, .int .i32 d1, .int .i32 a0, .int .i32 a1, .int .i32 s0, .int .i32 s1] w (True_ w) := by
  have cb := Ex.bytes s hs2 d0 d1 a0 a1 s0 s1 w
  rw [decide_eq_false hs] at cb
  replace cb := Lib.hid cb
  clear hs
  go_enter Tryf.func3, Tryf.ntmps3
  go_wp2_with (go_at_call 4; refine cb.out.mono ?_; rintro y w' ⟨rfl, rfl⟩)
  go_ret
  exact ⟨rfl, Below.refl _ _⟩
theorem walk {I : Interp} (a0 : ByteArray) (w0 : a0.size ≤ 9223372036854775807) (a1 : Int) (w1 : (Lit.int .i32 a1).wf = true) (a2 : Int) (w2 : (Lit.int .i32 a2).wf = true) (a3 : Int) (w3 : (Lit.int .i32 a3).wf = true) (a4 : Int) (w4 : (Lit.int .i32 a4).wf = true) (a5 : Int) (_w5 : (Lit.int .i32 a5).wf = true) (a6 : Int) (_w6 : (Lit.int .i32 a6).wf = true) (W : World) (hT : Utf8Tabs 0 1 W) (hI : I.answers W.tape) :
    Calls Tryf.prog 3 #[.string a0, .int .i32 a1, .int .i32 a2, .int .i32 a3, .int .i32 a4, .int .i32 a5, .int .i32 a6] W (True_ W) := by
  by_cases h : a0.size ≤ 1048576
  · exact core a0 h a1 a2 a3 a4 a5 a6 (i32_wf w2).2 (i32_wf w4).2 (i32_wf w1).2 (i32_wf w3).2 W hT hI
  · exact big a0 h w0 a1 a2 a3 a4 a5 a6 W
end Go.Proofs.YtcijcifhdakhoaaFmt.fnLogExprErrorsCaseTable
