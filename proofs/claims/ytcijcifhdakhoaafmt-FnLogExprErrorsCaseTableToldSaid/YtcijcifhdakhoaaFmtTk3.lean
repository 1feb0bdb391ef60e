/-
  LineColumnTracker.computeLineAndColumn: the line's start and end lie in the text, in order. Condition: at most 2^20 bytes, utf8's two tables laid.
-/
import Derived.Test.YtcijcifhdakhoaaFmtTk2
import Derived.BigQuiet
import Derived.Deep.QuietTactic
namespace Go.Proofs.YtcijcifhdakhoaaFmt.Ex
open Go.RowKit Go.Lib Go.Proofs.YtcijcifhdakhoaaFmt.Ints Go.Proofs.YtcijcifhdakhoaaFmt.U8 Go.Proofs.YtcijcifhdakhoaaFmt.Pct

def CompP (P : Nat) (F0 : Nat → Value) (s : ByteArray) (o0 t : Nat) (w : World) (y : Ending) (w' : World) : Prop :=
  ∃ (a c : Int) (ls le : Nat), y = .returned (.tuple #[.int .i64 a, .int .i64 c, .int .i64 (ls : Nat), .int .i64 (le : Nat)]) ∧ ls ≤ le ∧ le ≤ s.size ∧
    ∃ (o : Nat) (ln : Int), Tk P F0 s o ls le ln true true w' ∧ Op2 P w w' ∧ (o0 ≤ t → St s o ls le true)
/-- Behind the search for the line's start. -/
def C1 (P : Nat) (F0 : Nat → Value) (s : ByteArray) (o0 t : Nat) (w wx : World) : Prop :=
  ∃ (o ls le : Nat) (ln : Int) (he : Bool), Tk P F0 s o ls le ln true he wx ∧ Op2 P w wx ∧ o ≤ s.size ∧ ls ≤ o ∧ (he = true → o ≤ le ∧ le ≤ s.size) ∧ (o0 ≤ t → nlE s ls ∧ (he = true → le = fst s o))
def C2 (P : Nat) (F0 : Nat → Value) (s : ByteArray) (o0 t : Nat) (w wx : World) : Prop :=
  ∃ (o ls le : Nat) (ln : Int), Tk P F0 s o ls le ln true true wx ∧ Op2 P w wx ∧ ls ≤ o ∧ o ≤ le ∧ le ≤ s.size ∧ (o0 ≤ t → St s o ls le true)
set_option maxRecDepth 100000 in
set_option maxHeartbeats 4000000 in
theorem comp (P : Nat) (F0 : Nat → Value) (s : ByteArray) (o ls le : Nat) (ln : Int) (he : Bool) (t : Nat) (w : World) (hs : s.size ≤ 1048576) (ht : t ≤ s.size) (hP : 2 ≤ P) (hT : Utf8Tabs 0 1 w) (h : Tk P F0 s o ls le ln true he w) (st : St s o ls le he) :
    Calls Tryf.prog 56 #[.pointer (some ⟨P, 67, none⟩), .int .i64 (t : Nat)] w (CompP P F0 s o t w) := by
  have lP0 := h.lt
  have cS := Lib.hid (scanTo P F0 s o ls le ln he t w hs ht hP hT h st)
  replace hT := Lib.hid hT
  clear h st
  generalize o = o0 at *
  go_enter Tryf.func56, Tryf.ntmps56
  go_wp2_with fail
  go_at_call 58
  refine cS.out.mono ?_
  rintro y w1 ⟨rfl, o, ls, le, ln, hs1, he, hTk, hO, ho, hl, hq, hst⟩
  clear cS
  have lP := hTk.lt
  have c74 := hTk.c74
  have c67 := hTk.c67
  have c70 := hTk.c70
  have c72 := hTk.c72
  have z74 := hTk.frozen 74
  have z72 := hTk.frozen 72
  replace hTk := Lib.hid hTk
  replace hO := Lib.hid hO
  replace hl := Lib.hid hl
  replace hq := Lib.hid hq
  replace hst := Lib.hid hst
  go_upto_if 25 with fail
  go_cut [] from 26 to 63 (fun wx => C1 P F0 s o0 t w wx)
  · cases hs1 with
    | true =>
      go_wp2_with fail
      go_meet
      exact ⟨o, ls, le, ln, he, hTk.out, hO.out, ho, hl.out (by simp), hq.out, fun e => ⟨(hst.out e).2.1, (hst.out e).2.2⟩⟩
    | false =>
      have hne : Hid (¬ o0 ≤ t) := Lib.hid (fun e => by have := (hst.out e).1; cases this)
      clear hl hst
      go_wp2_with fail
      go_loopg [9] o (fun g iv wr => ∃ i : Nat, g = i ∧ i ≤ o ∧ iv = .int .i32 (i : Nat) ∧ Hid (Tk P F0 s o ls le ln false he wr ∧ Op2 P w wr))
      case atStart => exact ⟨o, rfl, Nat.le_refl _, rfl, Lib.hid ⟨hTk.out, hO.out⟩⟩
      case round =>
        clear hTk hO lP c74 c67 c70 c72 z74 z72
        obtain ⟨i, hgi, hio, rfl, hW⟩ := hrel
        obtain ⟨hTk, hO⟩ := hW.out
        have lP := hTk.lt
        have hend : ∀ (wx : World), Tk P F0 s o ls le ln false he wx → Op2 P w wx → ∀ v : Int, v = (i : Nat) → C1 P F0 s o0 t w ((wx.setCell ⟨P, 74, none⟩ (.bool true)).setCell ⟨P, 72, none⟩ (.int .i32 v)) := by
          intro wx g1 g2 v hv
          subst hv
          exact ⟨o, i, le, ln, he, (g1.setHs true).setS i, (g2.set _ _).set _ _, ho, hio, hq.out, fun e => absurd e hne.out⟩
        replace hend := Lib.hid hend
        by_cases hi0 : i = 0
        · have t0 : ¬ (0 : Int) < (i : Int) := by omega
          have c74 := hTk.c74
          have c72 := hTk.c72
          have z74 := hTk.frozen 74
          have z72 := hTk.frozen 72
          replace hTk := Lib.hid hTk
          replace hO := Lib.hid hO
          replace hi0 := Lib.hid hi0
          go_wp2_with fail
          go_meet
          exact hend.out wr hTk.out hO.out _ (by first | rfl | (rw [hi0.out]; rfl))
        · have t0 : (0 : Int) < (i : Int) := by omega
          have hTr := tabs_op hT.out hO.bel (by omega) (by omega)
          have hTsz : (s.extract 0 i).size = i := by simp; omega
          have cD := Lib.hid (Tryf.utf8_DecodeLastRuneInString (s.extract 0 i) wr (by omega) hTr)
          obtain ⟨hw1, hw2⟩ := last_rng (s.extract 0 i) (by omega)
          rw [hTsz] at hw2
          generalize decodeLastL (s.extract 0 i).data.toList = D at *
          obtain ⟨r, k⟩ := D
          dsimp only at hw1 hw2 cD
          replace hTk := Lib.hid hTk
          replace hO := Lib.hid hO
          replace hTsz := Lib.hid hTsz
          clear hTr hW
          go_wp2_with fail
          go_at_call 59
          refine cD.out.mono ?_
          rintro y w2 ⟨rfl, hb⟩
          have hTk2 := hTk.out.of (hb.block _ hTk.out.lt)
          have hO2 := Lib.hid (hO.out.next (Nat.le_of_lt lP0) hb)
          have lP2 := hTk2.lt
          have c74 := hTk2.c74
          have c72 := hTk2.c72
          have z74 := hTk2.frozen 74
          have z72 := hTk2.frozen 72
          replace hTk2 := Lib.hid hTk2
          clear cD hb hTk hO
          by_cases e10 : r = 10
          · subst e10
            go_wp2_with fail
            go_meet
            exact hend.out w2 hTk2.out hO2.out _ rfl
          by_cases e13 : r = 13
          · subst e13
            clear e10
            go_wp2_with fail
            go_meet
            exact hend.out w2 hTk2.out hO2.out _ rfl
          by_cases e8232 : r = 8232
          · subst e8232
            clear e10 e13
            go_wp2_with fail
            go_meet
            exact hend.out w2 hTk2.out hO2.out _ rfl
          by_cases e8233 : r = 8233
          · subst e8233
            clear e10 e13 e8232
            go_wp2_with fail
            go_meet
            exact hend.out w2 hTk2.out hO2.out _ rfl
          have t10 : ((r : Int) == 10) = false := by simp; omega
          have t13 : ((r : Int) == 13) = false := by simp; omega
          have t8232 : ((r : Int) == 8232) = false := by simp; omega
          have t8233 : ((r : Int) == 8233) = false := by simp; omega
          clear e10 e13 e8232 e8233 hend
          go_wp2_with fail
          go_roundg (i - k)
          case measure => omega
          case rel => exact ⟨i - k, rfl, by omega, by go_num, Lib.hid ⟨hTk2.out, hO2.out⟩⟩
  · clear hTk hO hl hq hst lP c74 c67 c70 c72 z74 z72
    obtain ⟨o, ls, le, ln, he, hTk, hO, ho, hl, hq, hst⟩ := hcut
    have lP := hTk.lt
    have c75 := hTk.c75
    have c67 := hTk.c67
    have c70 := hTk.c70
    have c73 := hTk.c73
    have z75 := hTk.frozen 75
    have z73 := hTk.frozen 73
    replace hTk := Lib.hid hTk
    replace hO := Lib.hid hO
    replace hq := Lib.hid hq
    replace hst := Lib.hid hst
    go_upto_if 72 with fail
    go_cut [] from 73 to 118 (fun wx => C2 P F0 s o0 t w wx)
    · cases he with
      | true =>
        go_wp2_with fail
        go_meet
        exact ⟨o, ls, le, ln, hTk.out, hO.out, hl, (hq.out (by simp)).1, (hq.out (by simp)).2, fun e => ⟨ho, hl, (hst.out e).1, fun _ => (hst.out e).2 (by simp)⟩⟩
      | false =>
        have hend : ∀ (wx : World), Tk P F0 s o ls le ln true false wx → Op2 P w wx → ∀ v : Int, v = (fst s o : Nat) → C2 P F0 s o0 t w ((wx.setCell ⟨P, 75, none⟩ (.bool true)).setCell ⟨P, 73, none⟩ (.int .i32 v)) := by
          intro wx g1 g2 v hv
          subst hv
          exact ⟨o, ls, fst s o, ln, (g1.setHe true).setE (fst s o), (g2.set _ _).set _ _, hl, fst_ge s _ o (Nat.le_refl _), fst_le s _ o (Nat.le_refl _) ho, fun e => ⟨ho, hl, (hst.out e).1, fun _ => rfl⟩⟩
        replace hend := Lib.hid hend
        go_wp2_with fail
        go_loopg [13] (s.size - o) (fun g iv wr => ∃ i : Nat, g = s.size - i ∧ i ≤ s.size ∧ iv = .int .i32 (i : Nat) ∧ Hid (fst s i = fst s o) ∧ Hid (Tk P F0 s o ls le ln true false wr ∧ Op2 P w wr))
        case atStart => exact ⟨o, rfl, ho, rfl, Lib.hid rfl, Lib.hid ⟨hTk.out, hO.out⟩⟩
        case round =>
          clear hTk hO lP c75 c67 c70 c73 z75 z73 hq hst
          obtain ⟨i, hgi, hio, rfl, hfi, hW⟩ := hrel
          obtain ⟨hTk, hO⟩ := hW.out
          have lP := hTk.lt
          by_cases hi0 : i < s.size
          · have t0 : (i : Int) < (s.size : Int) := by omega
            have hTr := tabs_op hT.out hO.bel (by omega) (by omega)
            have cD := Lib.hid (Tryf.utf8_DecodeRuneInString (s.extract i s.size) wr hTr)
            rw [dec_go s i hi0] at cD
            have hw1 := wpos s i hi0
            have hw2 := wle s i hi0
            have q1 := fst_step s i hi0
            have q2 := fst_here s i hi0
            generalize Utf8.decode s i = D at *
            obtain ⟨r, k⟩ := D
            dsimp only at hw1 hw2 q1 q2 cD
            replace hTk := Lib.hid hTk
            replace hO := Lib.hid hO
            replace q1 := Lib.hid q1
            replace q2 := Lib.hid q2
            clear hTr hW
            go_wp2_with fail
            go_at_call 60
            refine cD.out.mono ?_
            rintro y w2 ⟨rfl, hb⟩
            have hTk2 := hTk.out.of (hb.block _ hTk.out.lt)
            have hO2 := Lib.hid (hO.out.next (Nat.le_of_lt lP0) hb)
            have lP2 := hTk2.lt
            have c75 := hTk2.c75
            have c73 := hTk2.c73
            have z75 := hTk2.frozen 75
            have z73 := hTk2.frozen 73
            replace hTk2 := Lib.hid hTk2
            clear cD hb hTk hO
            by_cases e10 : r = 10
            · subst e10
              have hii := Lib.hid ((q2.out (by decide)).symm.trans hfi.out)
              go_wp2_with fail
              go_meet
              exact hend.out w2 hTk2.out hO2.out _ (by rw [← hii.out])
            by_cases e13 : r = 13
            · subst e13
              clear e10
              have hii := Lib.hid ((q2.out (by decide)).symm.trans hfi.out)
              go_wp2_with fail
              go_meet
              exact hend.out w2 hTk2.out hO2.out _ (by rw [← hii.out])
            by_cases e8232 : r = 8232
            · subst e8232
              clear e10 e13
              have hii := Lib.hid ((q2.out (by decide)).symm.trans hfi.out)
              go_wp2_with fail
              go_meet
              exact hend.out w2 hTk2.out hO2.out _ (by rw [← hii.out])
            by_cases e8233 : r = 8233
            · subst e8233
              clear e10 e13 e8232
              have hii := Lib.hid ((q2.out (by decide)).symm.trans hfi.out)
              go_wp2_with fail
              go_meet
              exact hend.out w2 hTk2.out hO2.out _ (by rw [← hii.out])
            have hnl : isNl r = false := by
              cases hq : isNl r with
              | false => rfl
              | true => rw [isNl_iff] at hq; omega
            have hq1 := Lib.hid ((q1.out hnl).symm.trans hfi.out)
            have t10 : ((r : Int) == 10) = false := by simp; omega
            have t13 : ((r : Int) == 13) = false := by simp; omega
            have t8232 : ((r : Int) == 8232) = false := by simp; omega
            have t8233 : ((r : Int) == 8233) = false := by simp; omega
            clear e10 e13 e8232 e8233 hend hnl
            go_wp2_with fail
            go_roundg (s.size - (i + k))
            case measure => omega
            case rel => exact ⟨i + k, rfl, hw2, by go_num, hq1, Lib.hid ⟨hTk2.out, hO2.out⟩⟩
          · have t0 : ¬ (i : Int) < (s.size : Int) := by omega
            have hii := Lib.hid ((fst_end s i hi0).symm.trans hfi.out)
            have c75 := hTk.c75
            have c73 := hTk.c73
            have z75 := hTk.frozen 75
            have z73 := hTk.frozen 73
            replace hTk := Lib.hid hTk
            replace hO := Lib.hid hO
            go_wp2_with fail
            go_meet
            exact hend.out wr hTk.out hO.out _ (by rw [← hii.out])
    · clear hTk hO hq hst lP c75 c67 c70 c73 z75 z73
      obtain ⟨o, ls, le, ln, hTk, hO, hl1, hl2, hl3, hst⟩ := hcut
      have lP := hTk.lt
      have c71 := hTk.c71
      have c72 := hTk.c72
      have c73 := hTk.c73
      replace hTk := Lib.hid hTk
      replace hO := Lib.hid hO
      replace hst := Lib.hid hst
      go_upto_region 21 with fail
      go_quiet (fail)
      go_wp2_with fail
      refine bodyPost_ret (v := .tuple #[.int .i64 (wrap64 ln), .int .i64 ((t : Int) - (ls : Int)), .int .i64 (ls : Nat), .int .i64 (le : Nat)]) (by simp [results, Tryf.results56, go_sem]) rfl ?_
      exact ⟨_, _, ls, le, rfl, Nat.le_trans hl1 hl2, hl3, o, ln, hTk.out.of rfl, hO.out.trans ⟨⟨rfl, rfl, rfl, Nat.le_refl _, fun _ _ => rfl⟩, fun _ _ _ => rfl⟩, hst.out⟩
end Go.Proofs.YtcijcifhdakhoaaFmt.Ex
