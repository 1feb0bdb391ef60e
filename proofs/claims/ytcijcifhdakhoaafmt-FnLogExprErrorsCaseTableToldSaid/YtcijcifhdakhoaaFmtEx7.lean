/-
  A deferred log's Done at no more than two located errors. Condition: as said.
-/
import Derived.Test.YtcijcifhdakhoaaFmtEx6
namespace Go.Proofs.YtcijcifhdakhoaaFmt.Ex
open Go.RowKit Go.MuLone Go.Lib Go.Proofs.YtcijcifhdakhoaaFmt.Ints Go.Proofs.YtcijcifhdakhoaaFmt.Lg Go.Proofs.YtcijcifhdakhoaaFmt.Mu

structure One (g q k : Nat) (w : World) : Prop where
  row : ∃ c, w.heap[g]? = some (.cells c 175 (0, 0)) ∧ c[3]? = some (.pointer (some ⟨q, 0, none⟩)) ∧ c[6]? = some (.int .u8 0)
  h0 : IsLoc q k w
/-- What Done hands back: the errors, in some order. -/
def Fin (l : List Nat) (v : Value) (w : World) : Prop :=
  (l = [] ∧ ∃ o c, v = .slice o 0 c) ∨ (∃ k g c q, l = [k] ∧ v = .slice (some ⟨g, 0, none⟩) 1 c ∧ One g q k w) ∨
  (∃ k0 k1 g c N q0 q1 x0 x1, (l = [k0, k1] ∨ l = [k1, k0]) ∧ v = .slice (some ⟨g, 0, none⟩) 2 c ∧ Two g N q0 k0 q1 k1 x0 x1 w)
theorem isLoc_far {q k M j : Nat} {u : Value} {c : Array Value} {fr : Nat × Nat} {w : World} (h : IsLoc q k w) (hM : w.heap[M]? = some (.cells c 185 fr)) : IsLoc q k (w.setCell ⟨M, j, none⟩ u) := by
  obtain ⟨x, a, b, hq⟩ := h
  exact ⟨x, a, b, (Go.Deep.blk_setCell_other _ _ _ _ (ne_of_ty hq hM (by decide))).trans hq⟩
theorem Fin.far {l : List Nat} {v u : Value} {M j : Nat} {c : Array Value} {fr : Nat × Nat} {w : World} (h : Fin l v w) (hM : w.heap[M]? = some (.cells c 185 fr)) : Fin l v (w.setCell ⟨M, j, none⟩ u) := by
  rcases h with h | ⟨k, g, c', q, e, ev, ⟨⟨cs, hg, h3, h6⟩, hq⟩⟩ | ⟨k0, k1, g, c', N, q0, q1, x0, x1, e, ev, h2⟩
  · exact .inl h
  · exact .inr (.inl ⟨k, g, c', q, e, ev, ⟨⟨cs, (Go.Deep.blk_setCell_other _ _ _ _ (ne_of_ty hg hM (by decide))).trans hg, h3, h6⟩, isLoc_far hq hM⟩⟩)
  · obtain ⟨F, ⟨cs, hg, hr⟩, hN, hF⟩ := h2.row
    exact .inr (.inr ⟨k0, k1, g, c', N, q0, q1, x0, x1, e, ev, ⟨⟨F, ⟨cs, (Go.Deep.blk_setCell_other _ _ _ _ (ne_of_ty hg hM (by decide))).trans hg, hr⟩, hN, hF⟩, isLoc_far h2.h0 hM, isLoc_far h2.h1 hM⟩⟩)
theorem take_get {cur : Array Value} {n i : Nat} {xs : List Value} (h : cur.toList.take n = xs) (hi : i < n) : cur[i]? = xs[i]? := by
  rw [← h, List.getElem?_take, if_pos hi, Array.getElem?_toList]
/-- Sorting the log's messages. -/
def AtS (B M G : Nat) (l : List Nat) (v : Value) (w : World) (y : Ending) (w' : World) : Prop := y = .returned (.tuple #[]) ∧ Fin l v w' ∧ Below B w w' ∧ w'.heap[M]? = w.heap[M]? ∧ w'.heap[G]? = w.heap[G]?
theorem stableAll {B M G n : Nat} {v : Value} {xs : List Value} {l : List Nat} {cM cG : Array Value} {fM fG : Nat × Nat} (w : World) (h : w.ownsRow B 175 8 v n xs) (hn : n = l.length) (hM : Msgs w l xs) (hl : l.length ≤ 2)
    (bM : w.heap[M]? = some (.cells cM 185 fM)) (bG : w.heap[G]? = some (.cells cG 179 fG)) :
    Calls Tryf.prog 22 #[.iface 179 v] w (AtS B M G l v w) := by
  match l, hn, hM, hl with
  | [], hn, _, _ =>
    subst hn
    obtain ⟨o, c, rfl⟩ := slice_form h
    refine (Stab (Q := fun w y w' => w' = w) o c 0 (by omega) w (sort1 _ 0 (by omega) w)).mono ?_
    rintro y w' ⟨rfl, rfl⟩
    exact ⟨rfl, .inl ⟨rfl, o, c, rfl⟩, Below.refl _ _, rfl, rfl⟩
  | [k], hn, hM, _ =>
    subst hn
    obtain ⟨q, x, ys, e, hq, hy⟩ := hM
    have hy : ys = [] := hy
    subst hy
    obtain ⟨hx, h0 | ⟨g, cap, cur, rfl, hB, hg, hc, hm, hs, ht⟩⟩ := h
    · exact absurd h0.2 (by simp)
    refine (Stab (Q := fun w y w' => w' = w) (some ⟨g, 0, none⟩) cap 1 (by omega) w (sort1 _ 1 (by omega) w)).mono ?_
    rintro y w' ⟨rfl, rfl⟩
    refine ⟨rfl, .inr (.inl ⟨k, g, cap, q, rfl, rfl, ⟨cur, hg, ?_, ?_⟩, hq⟩), Below.refl _ _, rfl, rfl⟩
    · rw [take_get ht (by simp), e]; rfl
    · rw [take_get ht (by simp), e]; rfl
  | [k0, k1], hn, hM, _ =>
    subst hn
    obtain ⟨q0, x0, ys, e, hq0, q1, x1, zs, e1, hq1, hz⟩ := hM
    have hz : zs = [] := hz
    subst hz
    obtain ⟨hx, h0 | ⟨g, cap, cur, rfl, hB, hg, hc, hm, hs, ht⟩⟩ := h
    · exact absurd h0.2 (by simp)
    have ht : cur.toList.take 16 = xs := ht
    have hc : 2 ≤ cap := hc
    have h2 : Two g cur.size q0 k0 q1 k1 x0 x1 w := ⟨⟨fun i => (cur[i]?).getD undef, ⟨cur, hg, rfl, fun i hi => by simp [hi]⟩, by omega, fun i hi => by
      show (cur[i]?).getD undef = two q0 x0 q1 x1 i
      rw [take_get ht hi, e, e1, List.append_nil]
      rfl⟩, hq0, hq1⟩
    refine (Stab (Q := fun w y w' => Srt B g cur.size q0 k0 q1 k1 x0 x1 w y w') (some ⟨g, 0, none⟩) cap 2 (by omega) w ((sort2 B g cur.size q0 k0 q1 k1 cap x0 x1 w h2 hB).mono (fun y w' hh => ⟨hh.1, hh⟩))).mono ?_
    rintro y w' ⟨rfl, _, hT, hK⟩
    have nM := ne_of_ty bM hg (by decide)
    have nG := ne_of_ty bG hg (by decide)
    refine ⟨rfl, ?_, hK.bel, hK.blk _ (lt_of_blk bM) nM, hK.blk _ (lt_of_blk bG) nG⟩
    rcases hT with hT | hT
    · exact .inr (.inr ⟨k0, k1, g, cap, cur.size, q0, q1, x0, x1, .inl rfl, rfl, hT⟩)
    · exact .inr (.inr ⟨k1, k0, g, cap, cur.size, q1, q0, x1, x0, .inr rfl, rfl, hT⟩)
  | _ :: _ :: _ :: _, _, _, hl => exact absurd hl (by simp)
def DoneP (B : Nat) (l : List Nat) (v : Value) (w : World) (y : Ending) (w' : World) : Prop := y = .returned v ∧ Fin l v w' ∧ Below B w w'
theorem done {B K M H G n : Nat} {e : Bool} {v : Value} {xs : List Value} {l : List Nat} (w : World) (h : Lg B K M H G e n v xs w) (hn : n = l.length) (hM : Msgs w l xs) (hl : l.length ≤ 2) :
    Calls Tryf.prog 21 #[pt M, pt G] w (DoneP B l v w) := by
  have h1 := h.cM
  have f1 := h.zM
  have md := h.md
  have cS := Lib.hid (stableAll (w.setCell ⟨M, 0, none⟩ (.int .i32 1)) md.own hn (Msgs.mono (fun q k hq => isLoc_far hq h.bM) hM) hl md.bM md.bG)
  have bM := Lib.hid md.bM
  have bG := Lib.hid md.bG
  have hB := Lib.hid h.hM
  have bel := Lib.hid md.bel
  have h2 : (w.setCell ⟨M, 0, none⟩ (.int .i32 1)).cell? ⟨G, 0, none⟩ = some v := cell_of_row _ _ 0 _ _ _ md.bG
  clear h md hn hM hl
  unfold pt
  go_enter_defers Tryf.func21, Tryf.ntmps21
  go_wp2_with (go_at_call 17; refine (lock_free muLib ⟨M, 0, none⟩ _ h1 f1).mono ?_; rintro e w' ⟨rfl, rfl⟩)
  refine cS.out.mono ?_
  rintro y w2 ⟨rfl, hF, hb, kM, kG⟩
  have bM2 := kM.trans bM.out
  have bG2 := kG.trans bG.out
  have m2 : w2.cell? ⟨M, 0, none⟩ = some (.int .i32 1) := cell_of_row _ _ 0 _ _ _ bM2
  have z2 : w2.frozen? ⟨M, 0, none⟩ = false := frozen_of_row _ _ 0 _ _ bM2
  have g2 : w2.cell? ⟨G, 0, none⟩ = some v := cell_of_row _ _ 0 _ _ _ bG2
  have hfin : DoneP B l v w (.returned v) (w2.setCell ⟨M, 0, none⟩ (.int .i32 0)) := ⟨rfl, hF.far bM2, (bel.out.trans hb).setCell hB.out _⟩
  replace hfin := Lib.hid hfin
  clear bM2 bG2 kM kG hF hb cS bM bG bel h2
  go_wp2_with fail
  refine leaves_cons (f := 18) (args := #[.pointer (some ⟨M, 0, none⟩)]) (by simp) (by simp [go_sem]) ?_
  refine (unlock_deferred muLib ⟨M, 0, none⟩ .returning _ m2 z2).mono ?_
  rintro e u' w'' ⟨rfl, rfl, rfl⟩
  exact ⟨_, results_tmp rfl _ _ _, rfl, hfin.out.2⟩
theorem zzDone {B P K M H G n : Nat} {e : Bool} {v : Value} {xs : List Value} {l : List Nat} (w : World) (h : Lg B K M H G e n v xs w) (hn : n = l.length) (hM : Msgs w l xs) (hl : l.length ≤ 2) (hP : w.cell? ⟨P, 54, none⟩ = some (fDone M G)) :
    Calls Tryf.prog 10 #[pt P] w (DoneP B l v w) := by
  have cD := Lib.hid (done w h hn hM hl)
  clear h hM
  unfold fDone at hP
  unfold pt at *
  go_enter Tryf.func10, Tryf.ntmps10
  go_wp2_with fail
  refine cD.out.mono ?_
  rintro y w2 ⟨rfl, hF, hb⟩
  replace hF := Lib.hid hF
  replace hb := Lib.hid hb
  clear cD
  go_wp2_with fail
  go_ret
  exact ⟨rfl, hF.out, hb.out⟩
end Go.Proofs.YtcijcifhdakhoaaFmt.Ex
