/-
  LineColumnTracker.scanTo: forward it keeps the line's end on the decoder's chain; back it only keeps start <= offset <= end. Condition: at most 2^20 bytes, utf8's two tables laid.
-/
import Derived.Test.YtcijcifhdakhoaaFmtTk
import Derived.Test.YtcijcifhdakhoaaFmtShelfEx
import Derived.LoopN
import Derived.Deep.LoopGhost
import Derived.Deep.CutRange
import Derived.Deep.CutBlock
import Derived.WalkMore
import Derived.Shelf.Unicode.DecodeSlow
namespace Go.Proofs.YtcijcifhdakhoaaFmt.Ex
open Go.RowKit Go.Lib Go.Proofs.YtcijcifhdakhoaaFmt.Ints Go.Proofs.YtcijcifhdakhoaaFmt.U8 Go.Proofs.YtcijcifhdakhoaaFmt.Pct

structure St (s : ByteArray) (o ls le : Nat) (he : Bool) : Prop where
  ho : o ≤ s.size
  hl : ls ≤ o
  hn : nlE s ls
  he : he = true → le = fst s o
def ScanP (P : Nat) (F0 : Nat → Value) (s : ByteArray) (o0 t : Nat) (w : World) (y : Ending) (w' : World) : Prop :=
  y = .returned (.tuple #[]) ∧ ∃ (o ls le : Nat) (ln : Int) (hs he : Bool), Tk P F0 s o ls le ln hs he w' ∧ Op2 P w w' ∧ o ≤ s.size ∧ (hs = true → ls ≤ o) ∧ (he = true → o ≤ le ∧ le ≤ s.size) ∧ (o0 ≤ t → hs = true ∧ nlE s ls ∧ (he = true → le = fst s o))
theorem St.scanP {P : Nat} {F0 : Nat → Value} {s : ByteArray} {o0 t o ls le : Nat} {ln : Int} {he : Bool} {w w' : World} (h : St s o ls le he) (hT : Tk P F0 s o ls le ln true he w') (hO : Op2 P w w') : ScanP P F0 s o0 t w (.returned (.tuple #[])) w' :=
  ⟨rfl, o, ls, le, ln, true, he, hT, hO, h.ho, fun _ => h.hl, fun e => by rw [h.he e]; exact ⟨fst_ge s _ o (Nat.le_refl _), fst_le s _ o (Nat.le_refl _) h.ho⟩, fun _ => ⟨rfl, h.hn, h.he⟩⟩
/-- The state inside the forward scan: the local place is i. -/
def Fw (P : Nat) (F0 : Nat → Value) (s : ByteArray) (o i : Nat) (w wr : World) : Prop :=
  ∃ (ls le : Nat) (ln : Int) (he : Bool), Tk P F0 s o ls le ln true he wr ∧ Op2 P w wr ∧ St s i ls le he
/-- The state inside the backward scan. -/
def Bw (P : Nat) (F0 : Nat → Value) (s : ByteArray) (o i : Nat) (w wr : World) : Prop :=
  ∃ (ls le : Nat) (ln : Int) (hs he : Bool), Tk P F0 s o ls le ln hs he wr ∧ Op2 P w wr ∧ i ≤ s.size ∧ (hs = true → ls ≤ i ∧ nlE s ls) ∧ (he = true → i ≤ le ∧ le ≤ s.size)
theorem dec_go (s : ByteArray) (i : Nat) (h : i < s.size) : decodeGo (s.extract i s.size) = Utf8.decode s i := by
  have e : (s.extract i s.size).size = s.size - i := by simp
  rw [decodeGo, if_neg (by omega), sub_dec]
section
variable {P : Nat} {F0 : Nat → Value} {s : ByteArray} {o i k ls le : Nat} {ln : Int} {he hs : Bool} {w w1 : World}
theorem fw_nl (hTk : Tk P F0 s o ls le ln true he w1) (hO : Op2 P w w1) (hw : i + k ≤ s.size) (hn : nlE s (i + k)) (v : Int) (hv : v = ((i + k : Nat) : Int)) :
    Fw P F0 s o (i + k) w (((w1.setCell ⟨P, 74, none⟩ (.bool true)).setCell ⟨P, 75, none⟩ (.bool false)).setCell ⟨P, 72, none⟩ (.int .i32 v)) := by
  subst hv
  exact ⟨_, _, _, _, ((hTk.setHs true).setHe false).setS (i + k), ((hO.set _ _).set _ _).set _ _, ⟨hw, Nat.le_refl _, hn, fun e => by cases e⟩⟩
theorem fw_nl2 (hTk : Tk P F0 s o ls le ln true he w1) (hO : Op2 P w w1) (hw : i + k ≤ s.size) (hn : nlE s (i + k)) (v : Int) (hv : v = ((i + k : Nat) : Int)) (x : Int) :
    Fw P F0 s o (i + k) w ((((w1.setCell ⟨P, 74, none⟩ (.bool true)).setCell ⟨P, 75, none⟩ (.bool false)).setCell ⟨P, 72, none⟩ (.int .i32 v)).setCell ⟨P, 71, none⟩ (.int .i32 x)) := by
  subst hv
  exact ⟨_, _, _, _, (((hTk.setHs true).setHe false).setS (i + k)).setN x, (((hO.set _ _).set _ _).set _ _).set _ _, ⟨hw, Nat.le_refl _, hn, fun e => by cases e⟩⟩
theorem bw_nl (hTk : Tk P F0 s o ls le ln hs he w1) (hO : Op2 P w w1) (hw : i ≤ s.size) (v : Int) (hv : v = (i : Nat)) :
    Bw P F0 s o i w (((w1.setCell ⟨P, 74, none⟩ (.bool false)).setCell ⟨P, 75, none⟩ (.bool true)).setCell ⟨P, 73, none⟩ (.int .i32 v)) := by
  subst hv
  exact ⟨_, _, _, _, _, ((hTk.setHs false).setHe true).setE i, ((hO.set _ _).set _ _).set _ _, hw, (fun e => by cases e), fun _ => ⟨Nat.le_refl _, hw⟩⟩
theorem bw_nl2 (hTk : Tk P F0 s o ls le ln hs he w1) (hO : Op2 P w w1) (hw : i ≤ s.size) (v : Int) (hv : v = (i : Nat)) (x : Int) :
    Bw P F0 s o i w ((((w1.setCell ⟨P, 74, none⟩ (.bool false)).setCell ⟨P, 75, none⟩ (.bool true)).setCell ⟨P, 73, none⟩ (.int .i32 v)).setCell ⟨P, 71, none⟩ (.int .i32 x)) := by
  subst hv
  exact ⟨_, _, _, _, _, (((hTk.setHs false).setHe true).setE i).setN x, (((hO.set _ _).set _ _).set _ _).set _ _, hw, (fun e => by cases e), fun _ => ⟨Nat.le_refl _, hw⟩⟩
end
set_option maxRecDepth 100000 in
set_option maxHeartbeats 4000000 in
theorem scanF (P : Nat) (F0 : Nat → Value) (s : ByteArray) (o ls le : Nat) (ln : Int) (he : Bool) (t : Nat) (w : World) (hs : s.size ≤ 1048576) (ht : t ≤ s.size) (hot : o < t) (hP : 2 ≤ P) (hT : Utf8Tabs 0 1 w) (h : Tk P F0 s o ls le ln true he w) (st : St s o ls le he) :
    Calls Tryf.prog 58 #[.pointer (some ⟨P, 67, none⟩), .int .i32 (t : Nat)] w (ScanP P F0 s o t w) := by
  have lP0 := h.lt
  have a0 := h.c67
  have a1 := h.c70
  have i0 : (o : Int) < (t : Int) := by omega
  replace hT := Lib.hid hT
  have h0 := Lib.hid h
  replace st := Lib.hid st
  go_enter Tryf.func58, Tryf.ntmps58
  go_wp2_with fail
  go_loopg [5] (s.size + 1 - o) (fun g iv wr => ∃ i : Nat, g = s.size + 1 - i ∧ i < t ∧ iv = .int .i32 (i : Nat) ∧ Hid (Fw P F0 s o i w wr))
  case atStart => exact ⟨o, rfl, hot, rfl, Lib.hid ⟨ls, le, ln, he, h0.out, Op2.refl _ _, st.out⟩⟩
  case round =>
    clear st h a0 a1 i0
    obtain ⟨i, rfl, hit, rfl, hfw⟩ := hrel
    obtain ⟨ls, le, ln, he, hTk, hO, hSt⟩ := hfw.out
    have hi : i < s.size := by omega
    have hTr := tabs_op hT.out hO.bel (by omega) (by omega)
    have cD := Lib.hid (Tryf.utf8_DecodeRuneInString (s.extract i s.size) wr hTr)
    rw [dec_go s i hi] at cD
    have hw1 := wpos s i hi
    have hw2 := wle s i hi
    have q1 := fst_step s i hi
    have q2 : nlE s i → True := fun _ => trivial
    have q3 : isNl (Utf8.decode s i).1 = true → nlE s (i + (Utf8.decode s i).2) := fun e => .inr ⟨i, hi, e, rfl⟩
    generalize Utf8.decode s i = D at *
    obtain ⟨r, k⟩ := D
    dsimp only at hw1 hw2 q1 q3 cD
    replace hTk := Lib.hid hTk
    replace hO := Lib.hid hO
    replace hSt := Lib.hid hSt
    replace q1 := Lib.hid q1
    replace q3 := Lib.hid q3
    clear q2 hTr hfw
    go_wp2_with fail
    go_at_call 60
    refine cD.out.mono ?_
    rintro y w1 ⟨rfl, hb⟩
    replace hTk := Lib.hid (hTk.out.of (hb.block _ hTk.out.lt))
    replace hO := Lib.hid (hO.out.next (Nat.le_of_lt lP0) hb)
    clear cD hb
    have k1 : (k : Int) ≤ 1048576 := by omega
    go_upto_block 2 with fail
    go_cut [] from 33 to 86 (fun wx => Fw P F0 s o (i + k) w wx)
    · have lP := hTk.out.lt
      have z71 := hTk.out.frozen 71
      have z72 := hTk.out.frozen 72
      have z74 := hTk.out.frozen 74
      have z75 := hTk.out.frozen 75
      have c71 := hTk.out.c71
      have c72 := hTk.out.c72
      have c74 := hTk.out.c74
      have c75 := hTk.out.c75
      by_cases e10 : r = 10
      · subst e10
        have hn := Lib.hid (q3.out (by decide))
        by_cases i00 : i = 0
        · have j0 : ((i : Int) + (k : Int) == (k : Int)) = true := by simp; omega
          replace i00 := Lib.hid i00
          go_wp2_with fail
          go_meet
          exact fw_nl2 hTk.out hO.out hw2 hn.out _ (by simp) _
        · have j0 : ((i : Int) + (k : Int) == (k : Int)) = false := by simp; omega
          have hpr : i - 1 < s.size := by omega
          have e0 := bt_eq s (i - 1) hpr
          by_cases b13 : bt s (i - 1) = 13
          · rw [b13] at e0
            go_wp2_with fail
            go_meet
            exact fw_nl hTk.out hO.out hw2 hn.out _ (by simp)
          · have t13 : ((bt s (i - 1) : Int) != 13) = true := by simp; omega
            go_wp2_with fail
            go_meet
            exact fw_nl2 hTk.out hO.out hw2 hn.out _ (by simp) _
      by_cases e13 : r = 13
      · subst e13
        have hn := Lib.hid (q3.out (by decide))
        clear e10
        go_wp2_with fail
        go_meet
        exact fw_nl2 hTk.out hO.out hw2 hn.out _ (by simp) _
      by_cases e8232 : r = 8232
      · subst e8232
        have hn := Lib.hid (q3.out (by decide))
        clear e10 e13
        go_wp2_with fail
        go_meet
        exact fw_nl2 hTk.out hO.out hw2 hn.out _ (by simp) _
      by_cases e8233 : r = 8233
      · subst e8233
        have hn := Lib.hid (q3.out (by decide))
        clear e10 e13 e8232
        go_wp2_with fail
        go_meet
        exact fw_nl2 hTk.out hO.out hw2 hn.out _ (by simp) _
      have hnl : isNl r = false := by
        cases hq : isNl r with
        | false => rfl
        | true => rw [isNl_iff] at hq; omega
      have hq1 := Lib.hid (q1.out hnl)
      have t10 : ((r : Int) == 10) = false := by simp; omega
      have t13 : ((r : Int) == 13) = false := by simp; omega
      have t8232 : ((r : Int) == 8232) = false := by simp; omega
      have t8233 : ((r : Int) == 8233) = false := by simp; omega
      clear e10 e13 e8232 e8233 hnl
      go_wp2_with fail
      go_meet
      exact ⟨ls, le, ln, he, hTk.out, hO.out, ⟨hw2, Nat.le_trans hSt.out.hl (Nat.le_add_right _ _), hSt.out.hn, fun e => (hSt.out.he e).trans hq1.out⟩⟩
    · clear hTk hO hSt q1 q3
      obtain ⟨ls, le, ln, he, hTk, hO, hSt⟩ := hcut
      have lP := hTk.lt
      have z70 := hTk.frozen 70
      have c70 := hTk.c70
      replace hTk := Lib.hid hTk
      replace hO := Lib.hid hO
      replace hSt := Lib.hid hSt
      by_cases hge : t ≤ i + k
      · have g0 : (t : Int) ≤ (i : Int) + (k : Int) := by omega
        go_wp2_with fail
        try simp only [Exit.noGoto_ret, Exit.inBlock, Exit.then]
        go_end0
        have e : (i : Int) + (k : Int) = ((i + k : Nat) : Int) := by simp
        rw [e]
        exact hSt.out.scanP (hTk.out.setO (i + k)) (hO.out.set _ _)
      · have g0 : ¬ (t : Int) ≤ (i : Int) + (k : Int) := by omega
        go_wp2_with fail
        go_roundg (s.size + 1 - (i + k))
        case measure => omega
        case rel => exact ⟨i + k, rfl, by omega, by go_num, Lib.hid ⟨ls, le, ln, he, hTk.out, hO.out, hSt.out⟩⟩
set_option maxRecDepth 100000 in
set_option maxHeartbeats 4000000 in
theorem scanB (P : Nat) (F0 : Nat → Value) (s : ByteArray) (o ls le : Nat) (ln : Int) (he : Bool) (t : Nat) (w : World) (hs : s.size ≤ 1048576) (hot : t < o) (hP : 2 ≤ P) (hT : Utf8Tabs 0 1 w) (h : Tk P F0 s o ls le ln true he w) (st : St s o ls le he) :
    Calls Tryf.prog 58 #[.pointer (some ⟨P, 67, none⟩), .int .i32 (t : Nat)] w (ScanP P F0 s o t w) := by
  have lP0 := h.lt
  have a0 := h.c67
  have a1 := h.c70
  have i0 : ¬ (o : Int) < (t : Int) := by omega
  have i1 : (t : Int) < (o : Int) := by omega
  have ho := st.ho
  have hb0 : Bw P F0 s o o w w := ⟨ls, le, ln, true, he, h, Op2.refl _ _, ho, fun _ => ⟨st.hl, st.hn⟩, fun e => by rw [st.he e]; exact ⟨fst_ge s _ o (Nat.le_refl _), fst_le s _ o (Nat.le_refl _) ho⟩⟩
  replace hb0 := Lib.hid hb0
  replace hT := Lib.hid hT
  clear st h
  go_enter Tryf.func58, Tryf.ntmps58
  go_wp2_with fail
  go_loopg [5] o (fun g iv wr => ∃ i : Nat, g = i ∧ t < i ∧ iv = .int .i32 (i : Nat) ∧ Hid (Bw P F0 s o i w wr))
  case atStart => exact ⟨o, rfl, hot, rfl, hb0⟩
  case round =>
    clear hb0 a0 a1 i0 i1
    obtain ⟨i, hgi, hit, rfl, hbw⟩ := hrel
    obtain ⟨ls, le, ln, hs1, he, hTk, hO, hi, hl, hq⟩ := hbw.out
    have hTr := tabs_op hT.out hO.bel (by omega) (by omega)
    have hTsz : (s.extract 0 i).size = i := by simp; omega
    have cD := Lib.hid (Tryf.utf8_DecodeLastRuneInString (s.extract 0 i) wr (by omega) hTr)
    obtain ⟨hw1, hw2⟩ := last_rng (s.extract 0 i) (by omega)
    have q1 : isNl (decodeLastL (s.extract 0 i).data.toList).1 = false → hs1 = true → ls ≤ i - (decodeLastL (s.extract 0 i).data.toList).2 := fun e e2 => back s i ls (by omega) hi (hl e2).1 (hl e2).2 e
    rw [hTsz] at hw2
    generalize decodeLastL (s.extract 0 i).data.toList = D at *
    obtain ⟨r, k⟩ := D
    dsimp only at hw1 hw2 q1 cD
    obtain ⟨j, rfl⟩ : ∃ j, i = j + k := ⟨i - k, by omega⟩
    rw [Nat.add_sub_cancel] at q1
    replace hTk := Lib.hid hTk
    replace hO := Lib.hid hO
    replace hl := Lib.hid hl
    replace hq := Lib.hid hq
    replace q1 := Lib.hid q1
    clear hTr hbw
    have hTsz := Lib.hid hTsz
    go_wp2_with fail
    go_at_call 59
    refine cD.out.mono ?_
    rintro y w1 ⟨rfl, hb⟩
    replace hTk := Lib.hid (hTk.out.of (hb.block _ hTk.out.lt))
    replace hO := Lib.hid (hO.out.next (Nat.le_of_lt lP0) hb)
    clear cD hb
    go_upto_block 5 with fail
    go_cut [] from 109 to 157 (fun wx => Bw P F0 s o j w wx)
    · have lP := hTk.out.lt
      have z71 := hTk.out.frozen 71
      have z73 := hTk.out.frozen 73
      have z74 := hTk.out.frozen 74
      have z75 := hTk.out.frozen 75
      have c71 := hTk.out.c71
      have c73 := hTk.out.c73
      have c74 := hTk.out.c74
      have c75 := hTk.out.c75
      have hj : j ≤ s.size := by omega
      by_cases e10 : r = 10
      · subst e10
        by_cases i00 : j = 0
        · subst i00
          go_wp2_with fail
          go_meet
          exact bw_nl2 hTk.out hO.out hj _ (by simp) _
        · have j0 : ((j : Int) == 0) = false := by simp; omega
          have hpr : j - 1 < s.size := by omega
          have e0 := bt_eq s (j - 1) hpr
          by_cases b13 : bt s (j - 1) = 13
          · rw [b13] at e0
            go_wp2_with fail
            go_meet
            exact bw_nl hTk.out hO.out hj _ (by simp)
          · have t13 : ((bt s (j - 1) : Int) != 13) = true := by simp; omega
            go_wp2_with fail
            go_meet
            exact bw_nl2 hTk.out hO.out hj _ (by simp) _
      by_cases e13 : r = 13
      · subst e13
        clear e10
        go_wp2_with fail
        go_meet
        exact bw_nl2 hTk.out hO.out hj _ (by simp) _
      by_cases e8232 : r = 8232
      · subst e8232
        clear e10 e13
        go_wp2_with fail
        go_meet
        exact bw_nl2 hTk.out hO.out hj _ (by simp) _
      by_cases e8233 : r = 8233
      · subst e8233
        clear e10 e13 e8232
        go_wp2_with fail
        go_meet
        exact bw_nl2 hTk.out hO.out hj _ (by simp) _
      have hnl : isNl r = false := by
        cases hq : isNl r with
        | false => rfl
        | true => rw [isNl_iff] at hq; omega
      have hq1 := Lib.hid (q1.out hnl)
      have t10 : ((r : Int) == 10) = false := by simp; omega
      have t13 : ((r : Int) == 13) = false := by simp; omega
      have t8232 : ((r : Int) == 8232) = false := by simp; omega
      have t8233 : ((r : Int) == 8233) = false := by simp; omega
      clear e10 e13 e8232 e8233 hnl
      go_wp2_with fail
      go_meet
      exact ⟨ls, le, ln, hs1, he, hTk.out, hO.out, hj, fun e => ⟨hq1.out e, (hl.out e).2⟩, fun e => ⟨Nat.le_trans (Nat.le_add_right _ _) (hq.out e).1, (hq.out e).2⟩⟩
    · clear hTk hO hl hq q1
      obtain ⟨ls, le, ln, hs1, he, hTk, hO, hj, hl, hq⟩ := hcut
      have lP := hTk.lt
      have z70 := hTk.frozen 70
      have c70 := hTk.c70
      replace hTk := Lib.hid hTk
      replace hO := Lib.hid hO
      replace hl := Lib.hid hl
      replace hq := Lib.hid hq
      by_cases hge : j ≤ t
      · have g0 : (j : Int) ≤ (t : Int) := by omega
        go_wp2_with fail
        try simp only [Exit.noGoto_ret, Exit.inBlock, Exit.then]
        go_end0
        exact ⟨rfl, j, ls, le, ln, hs1, he, hTk.out.setO j, hO.out.set _ _, hj, fun e => (hl.out e).1, hq.out, fun e => absurd e (by omega)⟩
      · have g0 : ¬ (j : Int) ≤ (t : Int) := by omega
        go_wp2_with fail
        go_roundg j
        case measure => omega
        case rel => exact ⟨j, rfl, by omega, rfl, Lib.hid ⟨ls, le, ln, hs1, he, hTk.out, hO.out, hj, hl.out, hq.out⟩⟩
theorem scanE (P : Nat) (F0 : Nat → Value) (s : ByteArray) (o ls le : Nat) (ln : Int) (he : Bool) (t : Nat) (w : World) (hot : t = o) (h : Tk P F0 s o ls le ln true he w) (st : St s o ls le he) :
    Calls Tryf.prog 58 #[.pointer (some ⟨P, 67, none⟩), .int .i32 (t : Nat)] w (ScanP P F0 s o t w) := by
  subst hot
  have lP0 := h.lt
  have a0 := h.c67
  have a1 := h.c70
  have hfin := Lib.hid (st.scanP (o0 := t) (t := t) h (Op2.refl _ _))
  clear st h
  go_enter Tryf.func58, Tryf.ntmps58
  go_wp2_with fail
  go_end0
  exact hfin.out
theorem scanTo (P : Nat) (F0 : Nat → Value) (s : ByteArray) (o ls le : Nat) (ln : Int) (he : Bool) (t : Nat) (w : World) (hs : s.size ≤ 1048576) (ht : t ≤ s.size) (hP : 2 ≤ P) (hT : Utf8Tabs 0 1 w) (h : Tk P F0 s o ls le ln true he w) (st : St s o ls le he) :
    Calls Tryf.prog 58 #[.pointer (some ⟨P, 67, none⟩), .int .i32 (t : Nat)] w (ScanP P F0 s o t w) := by
  rcases Nat.lt_trichotomy o t with h1 | h1 | h1
  · exact scanF P F0 s o ls le ln he t w hs ht h1 hP hT h st
  · exact scanE P F0 s o ls le ln he t w h1.symm h st
  · exact scanB P F0 s o ls le ln he t w hs h1 hP hT h st
end Go.Proofs.YtcijcifhdakhoaaFmt.Ex
