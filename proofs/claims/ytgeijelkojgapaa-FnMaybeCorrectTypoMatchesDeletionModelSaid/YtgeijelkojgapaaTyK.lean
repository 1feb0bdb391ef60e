/-
  MakeTypoDetector: the map says for every key the last long word that loses one rune to become it. Condition: long words are valid; lengths.
-/
import Derived.Test.YtgeijelkojgapaaTyM
import Derived.Deep.RegionHeld3
import Derived.StillTailTactics
import Derived.Maps.Own
import Derived.Maps.OwnSet
import Derived.Maps.Views
import Derived.Maps.StringElems
import Derived.Lib.OthersKept
import Derived.StringKeys
namespace Go.Proofs.Ytgeijelkojgapaa.Ty
open Go.RowKit Go.Lib Go.Maps Go.ChangeShapes Go.WideShapes Go.ChangeAt Go.Proofs.Ytgeijelkojgapaa.U8 Go.Proofs.Ytgeijelkojgapaa.Pct Go.Proofs.Ytgeijelkojgapaa.By Go.Proofs.Ytgeijelkojgapaa.Ints

abbrev Key (k : ByteArray) : Lit := .string k.data.toList
theorem key_inj {a b : ByteArray} (h : Key a = Key b) : a = b := by
  injection h with h
  exact ByteArray.ext (Array.toList_inj.1 h)
/-- The datum reads as the function L. -/
def Reads (D : DataW Unit) (L : ByteArray → Option ByteArray) : Prop := ∀ k, has D (Key k) = (L k).isSome ∧ ∀ v, L k = some v → ∀ z, D.atKey (Key k) z = .lit (.string v.data.toList)
open Classical in
noncomputable def upd (L : ByteArray → Option ByteArray) (k v : ByteArray) : ByteArray → Option ByteArray := fun x => if x = k then some v else L x
theorem reads_put {D : DataW Unit} {L : ByteArray → Option ByteArray} (h : Reads D L) (hD : IsMap D) (k v : ByteArray) : Reads (D.put (Key k) (.lit (.string v.data.toList))) (upd L k v) := by
  intro x
  unfold upd
  by_cases hx : x = k
  · subst hx
    rw [if_pos rfl]
    refine ⟨by rw [has_put_same hD (show WideAt.IsKeyLit (Key x) from trivial)]; rfl, fun v' hv z => ?_⟩
    rw [atKey_put_same hD (show WideAt.IsKeyLit (Key x) from trivial)]
    injection hv with hv
    rw [hv]
  · rw [if_neg hx]
    have hne : Key x ≠ Key k := fun e => hx (key_inj e)
    refine ⟨by rw [has_put_other hne]; exact (h x).1, fun v' hv z => ?_⟩
    rw [atKey_put_other hne]
    exact (h x).2 v' hv z
open Classical in
/-- The map in the middle of word s: the keys of its runes that start below p are s's. -/
noncomputable def mid (L : ByteArray → Option ByteArray) (s : ByteArray) (p : Nat) : ByteArray → Option ByteArray := fun k => if ∃ i, Start s i ∧ i < p ∧ del s i = k then some s else L k
theorem mid_zero (L : ByteArray → Option ByteArray) (s : ByteArray) : mid L s 0 = L := by
  funext k
  unfold mid
  rw [if_neg]
  rintro ⟨i, _, h, _⟩
  omega
theorem mid_next (L : ByteArray → Option ByteArray) {s : ByteArray} (hv : Valid s) {p : Nat} (hp : Start s p) : upd (mid L s p) (del s p) s = mid L s (p + wd s p) := by
  have hw := wd_pos s p hp.1
  funext k
  unfold upd mid
  by_cases hk : k = del s p
  · rw [if_pos hk, if_pos ⟨p, hp, by omega, hk.symm⟩]
  · rw [if_neg hk]
    by_cases h : ∃ i, Start s i ∧ i < p ∧ del s i = k
    · obtain ⟨i, h1, h2, h3⟩ := h
      rw [if_pos ⟨i, h1, h2, h3⟩, if_pos ⟨i, h1, by omega, h3⟩]
    · rw [if_neg h, if_neg]
      rintro ⟨i, h1, h2, h3⟩
      rcases Nat.lt_or_ge i p with g | g
      · exact h ⟨i, h1, g, h3⟩
      · rcases Nat.eq_or_lt_of_le g with g2 | g2
        · exact hk (by rw [← h3, g2])
        · have a := (good_shape hp.1 (hv p hp)).2.2.1 i g2 h2
          have b := start_byte hv h1
          omega
theorem mid_end (f : Nat → ByteArray) (j : Nat) (h3 : 3 < (f j).size) {p : Nat} (hp : (f j).size ≤ p) : mid (lk f j) (f j) p = lk f (j + 1) := by
  funext k
  rw [lk]
  unfold mid
  by_cases h : Loses (f j) k
  · obtain ⟨i, h1, h2⟩ := h
    rw [if_pos ⟨i, h1, by have := h1.1; omega, h2⟩, if_pos ⟨h3, i, h1, h2⟩]
  · rw [if_neg, if_neg (fun hh => h hh.2)]
    rintro ⟨i, h1, _, h2⟩
    exact h ⟨i, h1, h2⟩
theorem lk_short (f : Nat → ByteArray) (j : Nat) (h3 : ¬ 3 < (f j).size) : lk f j = lk f (j + 1) := by
  funext k
  rw [lk, if_neg (fun hh => h3 hh.1)]
/-- The detector's world. -/
structure Det (B R2 R3 M : Nat) (L : ByteArray → Option ByteArray) (c : Nat) (w wr : World) : Prop where
  below : Below B w wr
  b2 : B ≤ R2
  b3 : B ≤ R3
  bm : B ≤ M
  n23 : R2 ≠ R3
  r2 : wr.heap[R2]? = some (.cells #[.map none] 36 (0, 0))
  r3 : wr.heap[R3]? = some (.cells #[.map (some M)] 36 (0, 0))
  own : ∃ D, wr.ownsMap Try.prog 9 (plainElem Try.prog 9) M c D ∧ Reads D L
theorem own_block {w : World} {P : Program} {k : TypeId} {R : Value → Option (DataW Unit × List MemPlace)} {b n : Nat} {D : DataW Unit} (h : w.ownsMap P k R b n D) : ∃ es c, w.heap[b]? = some (.map es c) := by
  obtain ⟨es, c, hb, _⟩ := h
  exact ⟨es, c, hb⟩
/-- What leaves the map's block and the two boxes alone. -/
theorem Det.keep {B R2 R3 M c : Nat} {L : ByteArray → Option ByteArray} {w wr w' : World} (h : Det B R2 R3 M L c w wr) (hs : wr.heap.size ≤ w'.heap.size) (ho : w'.os = wr.os) (ht : w'.tape = wr.tape) (hou : w'.output = wr.output)
    (hk : ∀ j, j < wr.heap.size → (∀ s p, wr.heap[j]? ≠ some (.stringIter s p)) → w'.heap[j]? = wr.heap[j]?) (hlow : ∀ j, j < B → w'.heap[j]? = wr.heap[j]?) : Det B R2 R3 M L c w w' := by
  have lt : ∀ {b : Nat} {o : Obj}, wr.heap[b]? = some o → b < wr.heap.size := fun e => (Array.getElem?_eq_some_iff.1 e).1
  obtain ⟨D, hD, hr⟩ := h.own
  obtain ⟨es, cc, hb, rest⟩ := hD
  refine ⟨⟨ho.trans h.below.os, ht.trans h.below.tape, hou.trans h.below.output, Nat.le_trans h.below.size hs, fun j hj => (hlow j hj).trans (h.below.block j hj)⟩, h.b2, h.b3, h.bm, h.n23, ?_, ?_, D, ⟨es, cc, ?_, rest⟩, hr⟩
  · exact (hk R2 (lt h.r2) (fun s p e => by rw [h.r2] at e; cases e)).trans h.r2
  · exact (hk R3 (lt h.r3) (fun s p e => by rw [h.r3] at e; cases e)).trans h.r3
  · exact (hk M (lt hb) (fun s p e => by rw [hb] at e; cases e)).trans hb
theorem Det.iter {B R2 R3 M c I : Nat} {L : ByteArray → Option ByteArray} {w wr : World} (h : Det B R2 R3 M L c w wr) {s : ByteArray} {p : Nat} (hI : wr.heap[I]? = some (.stringIter s p)) (hBI : B ≤ I) (p' : Nat) : Det B R2 R3 M L c w (wr.iterAt I s p') :=
  h.keep (by rw [iterAt_size]; exact Nat.le_refl _) rfl rfl rfl (fun j _ hn => iterAt_other _ _ _ _ _ (fun e => by subst e; exact hn s p hI)) (fun j hj => iterAt_other _ _ _ _ _ (by omega))
theorem Det.alloc {B R2 R3 M c : Nat} {L : ByteArray → Option ByteArray} {w wr : World} (h : Det B R2 R3 M L c w wr) (hB : B ≤ wr.heap.size) (o : Obj) : Det B R2 R3 M L c w (wr.alloc o) :=
  h.keep (by simp) rfl rfl rfl (fun j hj _ => Below.heap_alloc _ _ _ hj) (fun j hj => Below.heap_alloc _ _ _ (by omega))
theorem Det.drew {B R2 R3 M c : Nat} {L : ByteArray → Option ByteArray} {w wr : World} (h : Det B R2 R3 M L c w wr) : Det B R2 R3 M L c w wr.drew :=
  ⟨h.below.drew, h.b2, h.b3, h.bm, h.n23, h.r2, h.r3, h.own⟩
theorem Det.apart {B R2 R3 M c : Nat} {L : ByteArray → Option ByteArray} {w wr : World} (h : Det B R2 R3 M L c w wr) : R2 ≠ M ∧ R3 ≠ M := by
  obtain ⟨D, hD, _⟩ := h.own
  obtain ⟨es, cc, hb⟩ := own_block hD
  refine ⟨fun e => ?_, fun e => ?_⟩
  · have := h.r2; rw [e, hb] at this; cases this
  · have := h.r3; rw [e, hb] at this; cases this
theorem Det.put {B R2 R3 M c : Nat} {L : ByteArray → Option ByteArray} {w wr w' : World} (h : Det B R2 R3 M L c w wr) {D : DataW Unit} (hD : wr.ownsMap Try.prog 9 (plainElem Try.prog 9) M c D) (hr : Reads D L) (k v : ByteArray)
    (h' : w'.ownsMap Try.prog 9 (plainElem Try.prog 9) M (c + 1) (D.put (Key k) (.lit (.string v.data.toList)))) (hg : wr.grownBy w' (some M)) : Det B R2 R3 M (upd L k v) (c + 1) w w' := by
  have lt : ∀ {b : Nat} {o : Obj}, wr.heap[b]? = some o → b < wr.heap.size := fun e => (Array.getElem?_eq_some_iff.1 e).1
  obtain ⟨n2, n3⟩ := h.apart
  exact ⟨h.below.grown hg (Nat.le_trans h.bm (Nat.le_of_lt hD.lt)) (fun j e => by cases e; exact h.bm), h.b2, h.b3, h.bm, h.n23, (hg.block _ (lt h.r2) (fun e => n2 (by injection e))).trans h.r2, (hg.block _ (lt h.r3) (fun e => n3 (by injection e))).trans h.r3, _, h', reads_put hr hD.isMap k v⟩
theorem key_of (s : ByteArray) (hs : s.size ≤ maxLen) : keyOf Try.prog 9 (.string s) = some (Key s) := by
  exact WideMaps.keyOf_string_mk Try.underlying9 hs
/-- The store at the operation. -/
theorem step_put {ops : Array Oper} {o : Oper} {a : Act} {w : World} {K : Act → World → Prop} {Q : Exit → Act → World → Prop} {E : Prop} (hg : o.guard = none) (m x v : Operand) (t : TypeId) (hop : o.op = .mapUpdate t m x v)
    (k e : TypeId) (K' : Keyed Try.prog k) (ht : Try.prog.underlying t = some (.map k e)) (R : Value → Option (DataW Unit × List MemPlace)) (b n : Nat) (D : DataW Unit)
    (hm : a.eval m = .map (some b)) (hown : w.ownsMap Try.prog k R b n D) (hn : n < maxLen) (key val : Value) (kl : Lit) (hx : a.eval x = key) (hv : a.eval v = val) (hkey : keyOf Try.prog k key = some kl)
    (d : DataW Unit) (ps : List MemPlace) (hval : R val = some (d, ps))
    (hK : ∀ w', w'.ownsMap Try.prog k R b (n + 1) (D.put kl d) → w.grownBy w' (some b) → K (a.put o.dst undef) w') :
    if Region.wanted o (yielded ops a.tmps) = true then Oper.wp Try.prog o a w K Q else E := by
  rw [if_pos (by simp [Region.wanted, hg])]
  obtain ⟨w', hrun, r1, r2⟩ := hown.update K' ht hn hkey hval
  unfold Oper.wp
  simp [execOp, hop, hm, hx, hv, hrun, Result.andThen]
  exact hK w' r1 r2
theorem det0 (f : Nat → ByteArray) (w : World) : Det w.heap.size w.heap.size (w.heap.size + 1 + 1) (w.heap.size + 1) (lk f 0) 0 w (((w.alloc (.cells #[.map none] 36)).alloc (.map #[] 0)).alloc (.cells #[.map (some (w.heap.size + 1))] 36)) := by
  have hsz : (w.alloc (.cells #[.map none] 36)).heap.size = w.heap.size + 1 := by simp
  have hsz2 : ((w.alloc (.cells #[.map none] 36)).alloc (.map #[] 0)).heap.size = w.heap.size + 1 + 1 := by simp
  refine ⟨(((Below.refl _ _).alloc (Nat.le_refl _) _).alloc (by omega) _).alloc (by omega) _, Nat.le_refl _, by omega, by omega, by omega, ?_, ?_, .map [], ?_, ?_⟩
  · rw [Below.heap_alloc _ _ _ (by omega), Below.heap_alloc _ _ _ (by omega)]
    exact heap_alloc_new _ _
  · have := heap_alloc_new ((w.alloc (.cells #[.map none] 36)).alloc (.map #[] 0)) (.cells #[.map (some (w.heap.size + 1))] 36)
    rw [hsz2] at this
    exact this
  · have := (World.ownsMap_made (w.alloc (.cells #[.map none] 36)) Try.prog 9 (plainElem (H := Unit) Try.prog 9)).alloc (.cells #[.map (some (w.heap.size + 1))] 36)
    rw [hsz] at this
    exact this
  · intro k
    exact ⟨rfl, fun v h => by cases h⟩
def lim (j p : Nat) : Nat := j * 1048576 + p
theorem lim_up {j p c : Nat} (h : c ≤ lim j p) (hp : p ≤ 1048576) : c ≤ lim (j + 1) 0 := by
  unfold lim at *
  rw [Nat.succ_mul, Nat.add_zero]
  exact Nat.le_trans h (Nat.add_le_add_left hp _)
theorem lim_in {j p c W : Nat} (h : c ≤ lim j p) (hW : 1 ≤ W) : c + 1 ≤ lim j (p + W) := by unfold lim at *; omega
theorem lim_max {j p c n : Nat} (h : c ≤ lim j p) (hp : p ≤ 1048576) (hj : j ≤ n) (hn : n ≤ 65536) : c < maxLen := by
  have h1 : c ≤ lim 65536 1048576 := Nat.le_trans h (Nat.add_le_add (Nat.mul_le_mul_right _ (Nat.le_trans hj hn)) hp)
  exact Nat.lt_of_le_of_lt h1 (by decide +kernel)
theorem setR2 {B R2 R3 M c : Nat} {L : ByteArray → Option ByteArray} {w wr : World} (h : Det B R2 R3 M L c w wr) (v : Value) : (∃ D, (wr.setCell ⟨R2, 0, none⟩ v).ownsMap Try.prog 9 (plainElem Try.prog 9) M c D ∧ Reads D L) ∧ Below B w (wr.setCell ⟨R2, 0, none⟩ v) ∧ (wr.setCell ⟨R2, 0, none⟩ v).heap[R2]? = some (.cells #[v] 36 (0, 0)) := by
  obtain ⟨D, hD, hr⟩ := h.own
  exact ⟨⟨D, hD.setCell (a := ⟨R2, 0, none⟩) (fun e => h.apart.1 e.symm) v, hr⟩, h.below.setCell (p := ⟨R2, 0, none⟩) h.b2 v, heap_setCell_same wr R2 0 _ _ v h.r2⟩
def Made (f : Nat → ByteArray) (n : Nat) (w : World) (e : Ending) (w' : World) : Prop := ∃ M D c, e = .returned (.agg #[.map (some M)]) ∧ w'.ownsMap Try.prog 9 (plainElem Try.prog 9) M c D ∧ Reads D (lk f n) ∧ w.heap.size ≤ M ∧ Below w.heap.size w w'
set_option maxRecDepth 100000 in
set_option maxHeartbeats 8000000 in
theorem make (o : Option Addr) (n cap : Nat) (f : Nat → ByteArray) (w : World) (hn : n ≤ 65536) (hI : StrsAt w o n f) (hs : ∀ i, i < n → (f i).size ≤ 1048576) (hv : ∀ i, i < n → 3 < (f i).size → Valid (f i)) :
    Calls Try.prog 16 #[.slice o n cap] w (Made f n w) := by
  have hmm := @run_makeMap Try.prog
  replace hI := Lib.hid hI
  replace hs := Lib.hid hs
  replace hv := Lib.hid hv
  go_enter Try.func16, Try.ntmps16
  go_wp2_with fail
  go_loopg [12] n (fun gk k wr => ∃ j c : Nat, j ≤ n ∧ gk = n - j ∧ k = .int .i64 j ∧ c ≤ lim j 0 ∧ Det w.heap.size w.heap.size (w.heap.size + 1 + 1) (w.heap.size + 1) (lk f j) c w wr)
  case atStart => exact ⟨0, 0, Nat.zero_le _, rfl, rfl, Nat.zero_le _, det0 f w⟩
  case round =>
    obtain ⟨j, c, hj, rfl, rfl, hc, hD⟩ := hrel
    have hb1 := hD.below.size
    have hr3 : wr.heap[w.heap.size + 1 + 1]? = some (.cells #[.map (some (w.heap.size + 1))] 36 (0, 0)) := hD.r3
    have c3 : wr.cell? ⟨w.heap.size + 1 + 1, 0, none⟩ = some (.map (some (w.heap.size + 1))) := cell_of_row _ _ 0 _ _ _ hr3
    have lt3 : w.heap.size + 1 + 1 < wr.heap.size := (Array.getElem?_eq_some_iff.1 hr3).1
    rcases Nat.lt_or_ge j n with hlt | hge
    · have hlen : ¬ n = 0 := by omega
      rcases hI.out.below hD.below with h0 | ⟨bb, off, rfl, hbb, hcl⟩
      · omega
      · have g2 := hcl j hlt
        have hsz := hs.out j hlt
        replace hD := Lib.hid hD
        clear hcl hr3
        by_cases p3 : 3 < (f j).size
        · generalize hse : f j = s at *
          have hvs : Valid s := hse ▸ hv.out j hlt (by rw [hse]; exact p3)
          have hit0 : (wr.iter s 0).heap[wr.heap.size]? = some (.stringIter s 0) := World.iter_heap _ _ _
          have hD0 : Det w.heap.size w.heap.size (w.heap.size + 1 + 1) (w.heap.size + 1) (mid (lk f j) s 0) c w (wr.iter s 0) := by
            rw [mid_zero]
            exact hD.out.alloc hb1 _
          have hE := fun (p : Nat) (hp : s.size ≤ p) => hse ▸ mid_end f j (by rw [hse]; exact p3) (p := p) (by rw [hse]; exact hp)
          have hsz0 : wr.heap.size < (wr.iter s 0).heap.size := (Array.getElem?_eq_some_iff.1 hit0).1
          replace hse := Lib.hid hse
          replace hit0 := Lib.hid hit0
          replace hD0 := Lib.hid hD0
          replace hE := Lib.hid hE
          replace hvs := Lib.hid hvs
          replace hsz0 := Lib.hid hsz0
          go_upto_region 7 with fail
          generalize hI0 : wr.heap.size = I at *
          generalize hB0 : w.heap.size = B at *
          replace hI0 := Lib.hid hI0
          generalize wr.iter s 0 = wi at *
          go_loopg [] s.size (fun gk wv => ∃ p c' : Nat, p ≤ s.size ∧ gk = s.size - p ∧ c' ≤ lim j p ∧ (p < s.size → Start s p) ∧ wv.heap[I]? = some (.stringIter s p) ∧ Det B B (B + 1 + 1) (B + 1) (mid (lk f j) s p) c' w wv)
          case atStart => exact ⟨0, c, Nat.zero_le _, rfl, hc, fun h => start_zero h, hit0.out, hD0.out⟩
          case round =>
            obtain ⟨p, c', hp, rfl, hc', hst, hit, hDv⟩ := hrel
            clear hit0 hD0
            by_cases hlp : p < s.size
            · have hS0 := hst hlp
              have hnx := fun ty => run_next_any_at (P := Try.prog) wr I s p ty hit hlp
              have hD2 := hDv.iter hit (by omega) (p + wd s p)
              have hit2 := iterAt_heap wr I s p (p + wd s p) hit
              obtain ⟨g1, _, _, g4⟩ := good_shape hlp (hvs.out p hS0)
              obtain ⟨q1, q2, q3⟩ := rl_good (hvs.out p hS0)
              have hwp := wd_pos s p hlp
              have hnxt := fun hh => start_next hS0 hh
              have hdd : s.extract 0 p ++ s.extract (p + wd s p) s.size = del s p := rfl
              have hmn := mid_next (lk f j) hvs.out hS0
              have hdl := del_le s p g1
              obtain ⟨W, hW⟩ : ∃ W, wd s p = W := ⟨_, rfl⟩
              have hW2 : (Utf8.decode s p).2 = W := hW
              obtain ⟨r, hr⟩ : ∃ r, (Utf8.decode s p).1 = r := ⟨_, rfl⟩
              rw [hW] at hD2 hit2 g1 hwp hnxt hdd hmn q1
              rw [hr] at q1 q2 q3
              rw [hW2, hr] at hnx
              have cR := fun w9 => runeLen r q2 q3 w9
              rw [q1] at cR
              generalize wr.iterAt I s (p + W) = w2 at *
              have wq1 : IntKind.i64.wrap ((p : Int) + (W : Int)) = (p : Int) + (W : Int) := wraps_i64 _ (by omega) (by omega)
              have l1 : (p : Int) + (W : Int) ≤ (s.size : Int) := by omega
              have l0 : (p : Int) < (s.size : Int) := by omega
              have c3 : w2.drew.cell? ⟨B + 1 + 1, 0, none⟩ = some (.map (some (B + 1))) := cell_of_row _ _ 0 _ _ _ hD2.r3
              have hD3 := hD2.drew
              obtain ⟨D, hown, hrd⟩ := hD3.own
              replace hD2 := Lib.hid hD2
              replace hit2 := Lib.hid hit2
              replace hD3 := Lib.hid hD3
              replace hnxt := Lib.hid hnxt
              replace hdd := Lib.hid hdd
              replace hmn := Lib.hid hmn
              replace hdl := Lib.hid hdl
              replace hown := Lib.hid hown
              replace hrd := Lib.hid hrd
              replace c3 := Lib.hid c3
              clear hst hit hDv hS0 g4 hW hW2 hr q1 q2 q3
              go_upto_region 9 with fail
              refine wp_region_held_drew (S := fun w' => w'.cell? ⟨B + 1 + 1, 0, none⟩ = some (.map (some (B + 1)))) (by kernel_rfl) c3.out (fun hS => ?_)
              refine Take.takeD (i := 0) (v := ?_) (some 25) rfl rfl (by kernel_rfl) (by kernel_rfl) (by kernel_rfl) (fun _ _ _ h => h) (Or.inl ⟨by rfl, ?_⟩) hS ?_
              rotate_left 1
              · intro w9 _; go_simp; try with_reducible rfl
              try simp only [Act.put, List.setIfInBounds_toArray, List.set_cons_zero, List.set_cons_succ]
              refine Take.takeD (i := 1) (v := .map (some (B + 1))) (some 26) rfl rfl (by kernel_rfl) (by kernel_rfl) (by kernel_rfl) (fun _ _ _ h => h) (Or.inl ⟨by rfl, fun w9 hw9 => by (go_simp; (first | done | rfl | (simp [hw9]; done)))⟩) hS ?_
              try simp only [Act.put, List.setIfInBounds_toArray, List.set_cons_zero, List.set_cons_succ]
              refine Take.takeD (i := 2) (v := ?_) (some 27) rfl rfl (by kernel_rfl) (by kernel_rfl) (by kernel_rfl) (fun _ _ _ h => h) (Or.inl ⟨by rfl, ?_⟩) hS ?_
              rotate_left 1
              · intro w9 _; go_simp; try with_reducible rfl
              try simp only [Act.put, List.setIfInBounds_toArray, List.set_cons_zero, List.set_cons_succ]
              refine Take.takeD (i := 3) (v := ?_) (some 28) rfl rfl (by kernel_rfl) (by kernel_rfl) (by kernel_rfl) (fun _ _ _ h => h) (Or.inl ⟨by rfl, ?_⟩) hS ?_
              rotate_left 1
              · intro w9 _; go_simp; try with_reducible rfl
              try simp only [Act.put, List.setIfInBounds_toArray, List.set_cons_zero, List.set_cons_succ]
              refine Take.takeD (i := 4) (v := .string (s.extract 0 p)) (some 29) rfl rfl (by kernel_rfl) (by kernel_rfl) (by kernel_rfl) (fun _ _ _ h => h) (Or.inl ⟨by rfl, fun w9 hw9 => by (go_simp; first | done | omega | exact wq1 | rfl | (simp; done) | (simp; omega) | (intro hneg; exfalso; omega) | trace_state)⟩) hS ?_
              try simp only [Act.put, List.setIfInBounds_toArray, List.set_cons_zero, List.set_cons_succ]
              refine Take.takeD (i := 5) (v := ?_) (some 30) rfl rfl (by kernel_rfl) (by kernel_rfl) (by kernel_rfl) (fun _ _ _ h => h) (Or.inl ⟨by rfl, ?_⟩) hS ?_
              rotate_left 1
              · intro w9 _; go_simp; try with_reducible rfl
              try simp only [Act.put, List.setIfInBounds_toArray, List.set_cons_zero, List.set_cons_succ]
              refine Take.takeD (i := 6) (v := ?_) (some 31) rfl rfl (by kernel_rfl) (by kernel_rfl) (by kernel_rfl) (fun _ _ _ h => h) (Or.inl ⟨by rfl, ?_⟩) hS ?_
              rotate_left 1
              · intro w9 _; go_simp; try with_reducible rfl
              try simp only [Act.put, List.setIfInBounds_toArray, List.set_cons_zero, List.set_cons_succ]
              refine Take.takeD (i := 7) (v := ?_) (some 32) rfl rfl (by kernel_rfl) (by kernel_rfl) (by kernel_rfl) (fun _ _ _ h => h) (Or.inl ⟨by rfl, ?_⟩) hS ?_
              rotate_left 1
              · intro w9 _; go_simp; try with_reducible rfl
              try simp only [Act.put, List.setIfInBounds_toArray, List.set_cons_zero, List.set_cons_succ]
              refine Take.take_callD (i := 8) (v := .int .i64 (W : Nat)) (some 33) rfl rfl (by kernel_rfl) (by kernel_rfl) (by kernel_rfl) (fun _ _ _ h => h) ⟨by rfl, fun w9 _ => ⟨24, #[.int .i32 r], by (go_simp; try rfl), cR w9⟩⟩ hS ?_
              try simp only [Act.put, List.setIfInBounds_toArray, List.set_cons_zero, List.set_cons_succ]
              refine Take.takeD (i := 9) (v := .int .i64 ((p : Int) + (W : Int))) (some 34) rfl rfl (by kernel_rfl) (by kernel_rfl) (by kernel_rfl) (fun _ _ _ h => h) (Or.inl ⟨by rfl, fun w9 hw9 => by (go_simp; first | done | omega | exact wq1 | rfl | (simp; done) | (simp; omega) | (intro hneg; exfalso; omega) | trace_state)⟩) hS ?_
              try simp only [Act.put, List.setIfInBounds_toArray, List.set_cons_zero, List.set_cons_succ]
              refine Take.takeD (i := 10) (v := .string (s.extract (p + W) s.size)) (some 35) rfl rfl (by kernel_rfl) (by kernel_rfl) (by kernel_rfl) (fun _ _ _ h => h) (Or.inl ⟨by rfl, fun w9 hw9 => by (go_simp; first | done | omega | exact wq1 | rfl | (simp; done) | (simp; omega) | (intro hneg; exfalso; omega) | trace_state)⟩) hS ?_
              try simp only [Act.put, List.setIfInBounds_toArray, List.set_cons_zero, List.set_cons_succ]
              refine Take.takeD (i := 11) (v := .string (s.extract 0 p ++ s.extract (p + W) s.size)) (some 36) rfl rfl (by kernel_rfl) (by kernel_rfl) (by kernel_rfl) (fun _ _ _ h => h) (Or.inl ⟨by rfl, fun w9 hw9 => by (go_simp; first | done | omega | exact wq1 | rfl | (simp; done) | (simp; omega) | (intro hneg; exfalso; omega) | trace_state)⟩) hS ?_
              try simp only [Act.put, List.setIfInBounds_toArray, List.set_cons_zero, List.set_cons_succ]
              refine Take.takeD (i := 12) (v := ?_) (some 37) rfl rfl (by kernel_rfl) (by kernel_rfl) (by kernel_rfl) (fun _ _ _ h => h) (Or.inl ⟨by rfl, ?_⟩) hS ?_
              rotate_left 1
              · intro w9 _; go_simp; try with_reducible rfl
              try simp only [Act.put, List.setIfInBounds_toArray, List.set_cons_zero, List.set_cons_succ]
              refine wpAnyH_ready (rs := [13]) (by kernel_rfl) (by decide) ?_
              refine AllReadyH.cons rfl (fun K' hK => ?_) AllReadyH.nil
              rw [hdd.out]
              have hK2 := hK.out
              replace hK := Lib.hid hK
              replace hS := Lib.hid hS
              refine step_put rfl _ _ _ _ rfl 9 9 (string_keyed Try.underlying9) Try.underlying34 (plainElem Try.prog 9) (B + 1) c' D rfl hown.out (lim_max hc' (by omega) (Nat.le_of_lt hlt) hn) (.string (del s p)) (.string s) (Key (del s p)) rfl rfl (key_of _ (by unfold maxLen; have := hdl.out; omega)) _ [] (plainElem_string Try.underlying9 (by unfold maxLen; omega)) ?_
              intro w3 hown3 hg3
              have hD4 := hD3.out.put hown.out hrd.out (del s p) s hown3 hg3
              rw [hmn.out] at hD4
              have hit4 : w3.heap[I]? = some (.stringIter s (p + W)) := (hg3.block I (Array.getElem?_eq_some_iff.1 hit2.out).1 (fun e => by cases e; omega)).trans hit2.out
              refine hK2 _ _ (cell_of_row _ _ 0 _ _ _ hD4.r3) (fun _ => ?_)
              clear hK hK2 hS hown hrd hD3 hD2 hit2 hown3 hg3 c3 hmn hdd
              replace hD4 := Lib.hid hD4
              replace hit4 := Lib.hid hit4
              refine wpAnyH_done (by kernel_rfl) ?_ _
              go_wp2_with fail
              go_roundg (s.size - (p + W))
              case measure => omega
              case rel => exact ⟨p + W, c' + 1, g1, rfl, lim_in hc' hwp, fun hh => hnxt.out hh, hit4.out, hD4.out⟩
            · have hnx := fun ty => run_next_end_at (P := Try.prog) wr I s p ty hit hlp
              have hE2 := hE.out p (by omega)
              rw [hE2] at hDv
              have hc2 := lim_up hc' (by omega)
              replace hDv := Lib.hid hDv
              clear hst hit hE2
              go_wp2_with fail
              go_roundg (n - (j + 1))
              case measure => omega
              case rel => exact ⟨j + 1, c', by omega, rfl, rfl, hc2, by have hB := hB0; subst hB; exact hDv.out⟩
        · have hk := Lib.hid (lk_short f j p3)
          go_wp2_with fail
          go_roundg (n - (j + 1))
          case measure => omega
          case rel => exact ⟨j + 1, c, by omega, rfl, rfl, lim_up hc (by omega), by rw [← hk.out]; exact hD.out⟩
    · have hjn : n = j := by omega
      subst hjn
      have hr2 : wr.heap[w.heap.size]? = some (.cells #[.map none] 36 (0, 0)) := hD.r2
      have c2 : wr.cell? ⟨w.heap.size, 0, none⟩ = some (.map none) := cell_of_row _ _ 0 _ _ _ hr2
      have lt2 : w.heap.size < wr.heap.size := by omega
      have fz2 : wr.frozen? ⟨w.heap.size, 0, none⟩ = false := frozen_of_row _ _ 0 _ _ hr2
      have hfin := setR2 hD (.map (some (w.heap.size + 1)))
      replace hfin := Lib.hid hfin
      replace hD := Lib.hid hD
      go_wp2_with fail
      obtain ⟨⟨D, hown, hrd⟩, hbel, hblk⟩ := hfin.out
      exact bodyPost_ret (v := .agg #[.map (some (w.heap.size + 1))]) (results_cell_row rfl _ _ w.heap.size 36 #[.map (some (w.heap.size + 1))] (0, 0) _ (by kernel_rfl) hblk (by rw [Try.underlying36]) rfl (by kernel_rfl)) rfl ⟨_, D, c, rfl, hown, hrd, by omega, hbel⟩
end Go.Proofs.Ytgeijelkojgapaa.Ty
