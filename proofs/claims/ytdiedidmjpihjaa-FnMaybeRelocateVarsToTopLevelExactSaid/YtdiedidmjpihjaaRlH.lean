/-
  The exports around maybeRelocateVarsToTopLevel; the counts and the recorded list read back; the parser that is made. Condition: lengths.
-/
import Derived.Test.YtdiedidmjpihjaaRlG
namespace Go.Proofs.Ytdiedidmjpihjaa.Rl
open Go.RowKit Go.ChangeShapes Go.WideShapes Go.ChangeAt Go.Proofs.Ytdiedidmjpihjaa.Ints

def Wr (B P g n : Nat) (r : Nat → Nat) (lc : Nat → Int) (c : Nat → Bool) (m d : Int) (ln : Nat) (fn : Nat → Bool) (w : World) (e : Ending) (w' : World) : Prop :=
  ∃ (a : Value) (l : Int) (ok : Bool), e = .returned (.tuple #[.agg #[a, .int .i32 l], .bool ok]) ∧ Ko B P g w w' ∧ ((ok = false ∧ ¬ Okay m d ln fn ∧ a = .nilIface ∧ l = 0 ∧ ∃ F v, Pa B P g n F (cnt r 0) v 0 [] w') ∨
    (ok = true ∧ Okay m d ln fn ∧ St c lc n a l ∧ ∃ F v, Pa B P g n F (cnt r n) v n (vars lc r n) w'))
theorem reloc_wr {B P g n : Nat} {r : Nat → Nat} {lc : Nat → Int} {c : Nat → Bool} {m d : Int} {ln : Nat} {fn : Nat → Bool} {F : Nat → Value} {v : Value} {w w' : World} {e : Ending} (hp : Pa B P g n F (cnt r 0) v 0 [] w) (h : Reloc B P g n r lc c m d ln fn w e w') : Wr B P g n r lc c m d ln fn w e w' := by
  have hB : B ≤ w.heap.size := Nat.le_trans hp.bp (Nat.le_of_lt hp.lts.1)
  rcases h with ⟨hn, he, hb⟩ | ⟨ho, hP, hk, hs⟩
  · exact ⟨_, _, _, he, Ko.of_below hb hB, .inl ⟨rfl, hn, rfl, rfl, F, v, hp.below hb⟩⟩
  · rcases hs with ⟨hf, he⟩ | ⟨i, t, p, hf, he⟩
    · exact ⟨_, _, _, he, hk, .inr ⟨rfl, ho, .inl ⟨hf, rfl, rfl⟩, hP⟩⟩
    · exact ⟨_, _, _, he, hk, .inr ⟨rfl, ho, .inr ⟨i, t, p, hf, rfl, rfl⟩, hP⟩⟩
theorem wr_set {B P g n : Nat} {r : Nat → Nat} {lc : Nat → Int} {c : Nat → Bool} {m d : Int} {ln : Nat} {fn : Nat → Bool} {w w1 w' : World} {e : Ending} {N : Nat} {x y : Value} (hB : B ≤ w.heap.size) (h1 : Below w.heap.size w w1) (hN : w.heap.size ≤ N) (hb : w1.heap[N]? = some (.cells #[x, y] 35 (0, 0))) (hP : P < w.heap.size) (hg : g < w.heap.size)
    (h : Wr B P g n r lc c m d ln fn w1 e w') : ∃ (a : Value) (l : Int) (ok : Bool), e = .returned (.tuple #[.agg #[a, .int .i32 l], .bool ok]) ∧ (a = .nilIface ∨ ∃ t p, a = .iface t p) ∧ w'.heap[N]? = some (.cells #[x, y] 35 (0, 0)) ∧
      ((w'.setCell ⟨N, 0, none⟩ a).setCell ⟨N, 1, none⟩ (.int .i32 l)).heap[N]? = some (.cells #[a, .int .i32 l] 35 (0, 0)) ∧
      Wr B P g n r lc c m d ln fn w (.returned (.tuple #[.agg #[a, .int .i32 l], .bool ok])) ((w'.setCell ⟨N, 0, none⟩ a).setCell ⟨N, 1, none⟩ (.int .i32 l)) := by
  obtain ⟨a, l, ok, he, hk, hs⟩ := h
  have hb' := (hk.kp _ _ _ _ hb (by decide) (by omega) (by omega)).trans hb
  have hN1 : (w'.setCell ⟨N, 0, none⟩ a).heap[N]? = some (.cells #[a, y] 35 (0, 0)) := heap_setCell_same w' _ 0 _ _ a hb'
  have hp : ∀ {F : Nat → Value} {U : Nat → Nat} {v : Value} {k : Nat} {xs : List Value}, Pa B P g n F U v k xs w' → Pa B P g n F U v k xs ((w'.setCell ⟨N, 0, none⟩ a).setCell ⟨N, 1, none⟩ (.int .i32 l)) := fun hp =>
    (hp.setOther (j := 0) (a := a) hb' (by decide) (by decide) (by decide)).setOther (j := 1) (a := .int .i32 l) hN1 (by decide) (by decide) (by decide)
  have k1 : Ko B P g w w' := (Ko.of_below h1 hB).trans hk
  have hkp : ∀ (q : Nat) (cur : Array Value) (ty : TypeId) (fr : Nat × Nat), w.heap[q]? = some (.cells cur ty fr) → ty ≠ 47 → q ≠ P → q ≠ g → ((w'.setCell ⟨N, 0, none⟩ a).setCell ⟨N, 1, none⟩ (.int .i32 l)).heap[q]? = w.heap[q]? := by
    intro q cur ty fr hq h3 h4 h5
    have lq := (Array.getElem?_eq_some_iff.1 hq).1
    rw [Go.Deep.blk_setCell_other _ _ _ _ (show q ≠ N by omega), Go.Deep.blk_setCell_other _ _ _ _ (show q ≠ N by omega)]
    exact k1.kp q cur ty fr hq h3 h4 h5
  have k2 : Ko B P g w ((w'.setCell ⟨N, 0, none⟩ a).setCell ⟨N, 1, none⟩ (.int .i32 l)) :=
    ⟨(k1.bel.setCell (p := ⟨N, 0, none⟩) (by show B ≤ N; omega) a).setCell (p := ⟨N, 1, none⟩) (by show B ≤ N; omega) _, hkp⟩
  have ha : a = .nilIface ∨ ∃ t p, a = .iface t p := by
    rcases hs with ⟨_, _, h3, _⟩ | ⟨_, _, h3, _⟩
    · exact .inl h3
    · rcases h3 with ⟨_, h3, _⟩ | ⟨_, t, p, _, h3, _⟩
      · exact .inl h3
      · exact .inr ⟨t, p, h3⟩
  refine ⟨a, l, ok, he, ha, hb', two_set0 hb', a, l, ok, rfl, k2, ?_⟩
  rcases hs with ⟨h1, h2, h3, h4, F, v, h5⟩ | ⟨h1, h2, h3, F, v, h5⟩
  · exact .inl ⟨h1, h2, h3, h4, F, v, hp h5⟩
  · exact .inr ⟨h1, h2, h3, F, v, hp h5⟩
section
set_option maxRecDepth 100000
set_option maxHeartbeats 4000000
variable (B P g n D ln : Nat) (b r S : Nat → Nat) (lc : Nat → Int) (vl fn c : Nat → Bool) (m d : Int) (F : Nat → Value) (v : Value) (w : World) (h : Pa B P g n F (cnt r 0) v 0 [] w) (hH : Hd P (S ln) (S 0) m d w) (hC : Sch S fn ln w) (hD : Ds D n b r lc vl w)
    (hn : n ≤ 65536) (hr : ∀ i, i < n → r i < n) (hm : m = 0 ∨ m = 1 ∨ m = 2)
include h hH hC hD hn hr hm
theorem forIn (hc : ∀ i, i < n → c i = true) :
    Calls Try.prog 6 #[.pointer (some ⟨P, 0, none⟩), .slice (some ⟨D, 0, none⟩) n n] w (Wr B P g n r lc c m d ln fn w) := by
  have hBw : B ≤ w.heap.size := Nat.le_trans h.bp (Nat.le_of_lt h.lts.1)
  have b1 : Below w.heap.size w (w.alloc (.cells #[.nilIface, .int .i32 0] 35)) := (Below.refl _ _).alloc (Nat.le_refl _) _
  have hD1 : Ds D n b r lc vl (w.alloc (.cells #[.nilIface, .int .i32 0] 35)) := hD.keep (Ko.of_below (B := B) (P := P) (g := g) b1 hBw) h
  have cR := Lib.hid (reloc B P g n D ln b r S lc vl fn c m d 1 F v _ (h.below b1) (hH.below b1) (hC.below b1) hD1 hn hr hm (.inr rfl) (fun i hi => by rw [hc i hi]; simp))
  have hN := Lib.hid (heap_alloc_new w (.cells #[.nilIface, .int .i32 0] 35))
  have hpa := Lib.hid (h.below b1)
  have lts := h.lts
  replace h := Lib.hid h
  replace hD1 := Lib.hid hD1
  replace b1 := Lib.hid b1
  replace hH := Lib.hid hH
  replace hC := Lib.hid hC
  replace hD := Lib.hid hD
  replace lts := Lib.hid lts
  replace hm := Lib.hid hm
  go_enter Try.func6, Try.ntmps6
  go_wp2_with fail
  go_at_call 13
  refine cR.out.mono ?_
  rintro e w1 hW
  obtain ⟨a, l, ok, rfl, ha, h1, h2, h3⟩ := wr_set hBw b1.out (Nat.le_refl _) hN.out lts.out.1 lts.out.2.1 (reloc_wr hpa.out hW)
  have y4 : w1.cell? ⟨w.heap.size, 0, none⟩ = some .nilIface := cell_of_row _ _ 0 _ _ _ h1
  have y5 : w1.cell? ⟨w.heap.size, 1, none⟩ = some (.int .i32 0) := cell_of_row _ _ 1 _ _ _ h1
  have y6 : w1.frozen? ⟨w.heap.size, 0, none⟩ = false := frozen_of_row _ _ 0 _ _ h1
  have y7 : w1.frozen? ⟨w.heap.size, 1, none⟩ = false := frozen_of_row _ _ 1 _ _ h1
  replace h1 := Lib.hid h1
  replace h2 := Lib.hid h2
  replace h3 := Lib.hid h3
  clear hW
  rcases ha with rfl | ⟨t, p, rfl⟩
  · go_wp2_with fail
    exact bodyPost_ret (v := .tuple #[.agg #[.nilIface, .int .i32 l], .bool ok]) (res2 rfl _ _ w.heap.size 35 #[.nilIface, .int .i32 l] (0, 0) _ (.bool ok) (by kernel_rfl) (by kernel_rfl) h2.out Try.underlying35 rfl (by kernel_rfl)) rfl h3.out
  · go_wp2_with fail
    exact bodyPost_ret (v := .tuple #[.agg #[.iface t p, .int .i32 l], .bool ok]) (res2 rfl _ _ w.heap.size 35 #[.iface t p, .int .i32 l] (0, 0) _ (.bool ok) (by kernel_rfl) (by kernel_rfl) h2.out Try.underlying35 rfl (by kernel_rfl)) rfl h3.out
theorem normal (hc : ∀ i, i < n → c i = vl i) :
    Calls Try.prog 7 #[.pointer (some ⟨P, 0, none⟩), .slice (some ⟨D, 0, none⟩) n n] w (Wr B P g n r lc c m d ln fn w) := by
  have hBw : B ≤ w.heap.size := Nat.le_trans h.bp (Nat.le_of_lt h.lts.1)
  have b1 : Below w.heap.size w (w.alloc (.cells #[.nilIface, .int .i32 0] 35)) := (Below.refl _ _).alloc (Nat.le_refl _) _
  have hD1 : Ds D n b r lc vl (w.alloc (.cells #[.nilIface, .int .i32 0] 35)) := hD.keep (Ko.of_below (B := B) (P := P) (g := g) b1 hBw) h
  have cR := Lib.hid (reloc B P g n D ln b r S lc vl fn c m d 0 F v _ (h.below b1) (hH.below b1) (hC.below b1) hD1 hn hr hm (.inl rfl) (fun i hi => by rw [hc i hi]; simp))
  have hN := Lib.hid (heap_alloc_new w (.cells #[.nilIface, .int .i32 0] 35))
  have hpa := Lib.hid (h.below b1)
  have lts := h.lts
  replace h := Lib.hid h
  replace hD1 := Lib.hid hD1
  replace b1 := Lib.hid b1
  replace hH := Lib.hid hH
  replace hC := Lib.hid hC
  replace hD := Lib.hid hD
  replace lts := Lib.hid lts
  replace hm := Lib.hid hm
  go_enter Try.func7, Try.ntmps7
  go_wp2_with fail
  go_at_call 13
  refine cR.out.mono ?_
  rintro e w1 hW
  obtain ⟨a, l, ok, rfl, ha, h1, h2, h3⟩ := wr_set hBw b1.out (Nat.le_refl _) hN.out lts.out.1 lts.out.2.1 (reloc_wr hpa.out hW)
  have y4 : w1.cell? ⟨w.heap.size, 0, none⟩ = some .nilIface := cell_of_row _ _ 0 _ _ _ h1
  have y5 : w1.cell? ⟨w.heap.size, 1, none⟩ = some (.int .i32 0) := cell_of_row _ _ 1 _ _ _ h1
  have y6 : w1.frozen? ⟨w.heap.size, 0, none⟩ = false := frozen_of_row _ _ 0 _ _ h1
  have y7 : w1.frozen? ⟨w.heap.size, 1, none⟩ = false := frozen_of_row _ _ 1 _ _ h1
  replace h1 := Lib.hid h1
  replace h2 := Lib.hid h2
  replace h3 := Lib.hid h3
  clear hW
  rcases ha with rfl | ⟨t, p, rfl⟩
  · go_wp2_with fail
    exact bodyPost_ret (v := .tuple #[.agg #[.nilIface, .int .i32 l], .bool ok]) (res2 rfl _ _ w.heap.size 35 #[.nilIface, .int .i32 l] (0, 0) _ (.bool ok) (by kernel_rfl) (by kernel_rfl) h2.out Try.underlying35 rfl (by kernel_rfl)) rfl h3.out
  · go_wp2_with fail
    exact bodyPost_ret (v := .tuple #[.agg #[.iface t p, .int .i32 l], .bool ok]) (res2 rfl _ _ w.heap.size 35 #[.iface t p, .int .i32 l] (0, 0) _ (.bool ok) (by kernel_rfl) (by kernel_rfl) h2.out Try.underlying35 rfl (by kernel_rfl)) rfl h3.out
end
theorem varsOf (B P g n : Nat) (F : Nat → Value) (U : Nat → Nat) (v : Value) (k : Nat) (xs : List Value) (w : World) (h : Pa B P g n F U v k xs w) :
    Calls Try.prog 8 #[.pointer (some ⟨P, 0, none⟩)] w fun e w' => e = .returned v ∧ w' = w := by
  have c1 : w.cell? ⟨P, 196, none⟩ = some v := h.f196 ▸ h.row.cell (i := 196) (by omega)
  replace h := Lib.hid h
  go_enter Try.func8, Try.ntmps8
  go_wp2_with fail
  go_ret
  exact ⟨rfl, rfl⟩
theorem useOf (B P g n : Nat) (F : Nat → Value) (U : Nat → Nat) (v : Value) (k : Nat) (xs : List Value) (j : Nat) (w : World) (h : Pa B P g n F U v k xs w) (hj : j < n) (hn : n ≤ 65536) :
    Calls Try.prog 9 #[.pointer (some ⟨P, 0, none⟩), .int .i64 j] w fun e w' => e = .returned (.int .u32 (U j : Nat)) ∧ w' = w := by
  have c1 : w.cell? ⟨P, 106, none⟩ = some (.slice (some ⟨g, 0, none⟩) n n) := h.f106 ▸ h.row.cell (i := 106) (by omega)
  obtain ⟨G, hG, hs⟩ := h.sym
  have c2 : w.cell? ⟨g, j * 10 + 4, none⟩ = some (.int .u32 (U j : Nat)) := hs j hj ▸ hG.cell (i := j * 10 + 4) (by omega)
  clear hs hG
  replace h := Lib.hid h
  go_enter Try.func9, Try.ntmps9
  go_wp2_with fail
  go_ret
  exact ⟨rfl, rfl⟩
end Go.Proofs.Ytdiedidmjpihjaa.Rl
