/-
  The parser's two own lists of symbols and counts; newSymbol. Condition: at most 65536 symbols.
-/
import Derived.Test.YtacekiapcipidaaDoorRowsI
import Derived.Test.YtacekiapcipidaaDoorBuild2
import Derived.Lib.Hide
import Derived.Laws.Cover3
import Derived.WalkSpells
import Derived.RegionTactic
import Derived.ChangeAlike
import Derived.Deep.QuietTactic
import Derived.BigQuiet
import Derived.BigRegion
import Derived.Deep.RegionHeld3
import Derived.Deep.RegionLaw
import Derived.StillTailTactics
import Derived.Laws.MakeOwn
import Derived.IntWalk
namespace Go.Proofs.YtacekiapcipidaaDoor.Sym
open Go.RowKit Go.ChangeShapes Go.WideShapes Go.ChangeAt Go.Proofs.YtacekiapcipidaaDoor.Ints

def symC (k : Int) (nm : ByteArray) : Array Value := #[.pointer none, .string nm, .int .u32 4294967295, .int .u32 4294967295, .int .u32 0, .int .u32 0, .int .u32 0, .int .u16 0, .int .u8 k, .int .u8 0]
def syms (K : Nat → Int) (M : Nat → ByteArray) : Nat → List Value
  | 0 => []
  | n + 1 => syms K M n ++ (symC (K n) (M n)).toList
def zeros : Nat → List Value
  | 0 => []
  | n + 1 => zeros n ++ [.int .u32 0]
theorem own_keep {w w' : World} {B e size k : Nat} {v : Value} {xs : List Value} (h : w.ownsRow B e size v k xs) (hk : ∀ (g : Nat) (cur : Array Value), w.heap[g]? = some (.cells cur e (0, 0)) → w'.heap[g]? = w.heap[g]?) : w'.ownsRow B e size v k xs := by
  rcases h.2 with h0 | ⟨g, cap, cur, e1, e2, e3, r⟩
  · exact ⟨h.1, .inl h0⟩
  · exact ⟨h.1, .inr ⟨g, cap, cur, e1, e2, (hk g cur e3).trans e3, r⟩⟩
theorem cells_ne {w : World} {a b : Nat} {cur cur' : Array Value} {s t : TypeId} {fr fr' : Nat × Nat} (h : w.heap[a]? = some (.cells cur s fr)) (k : w.heap[b]? = some (.cells cur' t fr')) (hst : s ≠ t) : a ≠ b := by
  rintro rfl
  rw [h] at k
  injection k with k
  injection k with _ k
  exact hst k
theorem own_block {w : World} {B e size k g : Nat} {v : Value} {xs : List Value} (h : w.ownsRow B e size v k xs) (hg : v.ownBlock = some g) : ∃ cur, w.heap[g]? = some (.cells cur e (0, 0)) := by
  rcases h.2 with ⟨h0, _⟩ | ⟨g', cap, cur, e1, e2, e3, r⟩
  · rw [h0] at hg; cases hg
  · rw [e1] at hg; cases hg; exact ⟨cur, e3⟩
theorem slice_form {w : World} {B e n k : Nat} {v : Value} {xs : List Value} (h : w.ownsRow B e n v k xs) : ∃ a c, v = .slice a k c := by
  rcases h.2 with ⟨e, h0⟩ | ⟨g, cap, cur, e, _⟩
  · exact ⟨none, 0, by rw [e, h0]⟩
  · exact ⟨_, _, e⟩
theorem step_append_own {P : Program} {ops : Array Oper} {o : Oper} {a : Act} {w : World} {K : Act → World → Prop} {Q : Exit → Act → World → Prop} {E : Prop} (hg : o.guard = none) (s x : Operand) (t : TypeId)
    (ho : o.op = .call { callee := .builtin .append, args := #[s, x], argTypes := #[t, t] })
    (base : Nat) (e : TypeId) (i : TypeInfo) (z : Value) (size bytes : Nat) (ht : P.underlying t = some (.slice e)) (hi : P.info? e = some i) (hz : i.zero = some z)
    (hsize : i.size = size) (hby : i.bytes = bytes) (hzs : z.cells.size = size) (hsz : 0 < size)
    (v : Value) (n : Nat) (xs : List Value) (hs : a.eval s = v) (hown : w.ownsRow base e size v n xs)
    (ad : Addr) (m c : Nat) (news : List Value) (hx : a.eval x = .slice (some ad) m c) (hl : news.length = m * size) (hnews : ∀ j u, news[j]? = some u → w.cell? (ad.add j) = some u) (h1 : ∀ u ∈ news, u.oneCell' = true)
    (h63 : n + m ≤ maxLen) (hbytes : (n + m) * bytes ≤ 140737488355328) (hbase : base ≤ w.heap.size)
    (h : ∀ v' w', w'.ownsRow base e size v' (n + m) (xs ++ news) → w.grownBy w' v.ownBlock → (v' = .slice none 0 0 ↔ v = .slice none 0 0 ∧ m = 0) → K (a.put o.dst v') w') :
    if Region.wanted o (yielded ops a.tmps) = true then Oper.wp P o a w K Q else E := by
  have hw : Region.wanted o (yielded ops a.tmps) = true := by simp [Region.wanted, hg]
  rw [if_pos hw]
  exact wp_append_own w s x t ho base e i z size bytes ht hi hz hsize hby hzs hsz v n xs hs hown ad m c news hx hl hnews h1 h63 hbytes hbase h

/-- The parser's row and its two own lists. -/
structure Core (B : Nat) (w : World) (P : Nat) (F : Nat → Value) (v u : Value) (n m : Nat) (xs ys : List Value) : Prop where
  row : w.rowIs P 176 353 F
  o1 : w.ownsRow B 203 10 v n xs
  o2 : w.ownsRow B 51 1 u m ys
section
variable {B P m n : Nat} {w w1 : World} {F : Nat → Value} {v u : Value} {xs ys : List Value}
theorem Core.keepBut (h : Core B w P F v u n m xs ys) (hk : ∀ b, b ≠ P → b < w.heap.size → w1.heap[b]? = w.heap[b]?) {f' : Nat → Value} (hr : w1.rowIs P 176 353 f') : Core B w1 P f' v u n m xs ys := by
  obtain ⟨c, hc, _⟩ := h.row
  have lt : ∀ (g : Nat) (o : Obj), w.heap[g]? = some o → g < w.heap.size := fun g o hg => (Array.getElem?_eq_some_iff.1 hg).1
  exact ⟨hr, own_keep h.o1 (fun g cur hg => hk g (cells_ne hg hc (by decide)) (lt _ _ hg)), own_keep h.o2 (fun g cur hg => hk g (cells_ne hg hc (by decide)) (lt _ _ hg))⟩
theorem Core.set (h : Core B w P F v u n m xs ys) (j : Nat) (x : Value) : Core B (w.setCell ⟨P, j, none⟩ x) P (fun k => if k = j then x else F k) v u n m xs ys :=
  h.keepBut (fun b hb _ => Go.Deep.blk_setCell_other _ _ _ _ hb) (h.row.set j x)
theorem Core.below (h : Core B w P F v u n m xs ys) (hb : Below w.heap.size w w1) : Core B w1 P F v u n m xs ys :=
  h.keepBut (fun b _ hl => hb.block b hl) (h.row.of_block (hb.block _ h.row.lt))
theorem Core.grow1 (h : Core B w P F v u n m xs ys) {v' : Value} {n' : Nat} {xs' : List Value} (ho : w1.ownsRow B 203 10 v' n' xs') (hg : w.grownBy w1 v.ownBlock) : Core B w1 P F v' u n' m xs' ys := by
  obtain ⟨c, hc, hr⟩ := h.row
  have ne : ∀ (g : Nat) (cur : Array Value) (t : TypeId) (fr : Nat × Nat), w.heap[g]? = some (.cells cur t fr) → t ≠ 203 → w1.heap[g]? = w.heap[g]? := fun g cur t fr h1 ht =>
    hg.block g (Array.getElem?_eq_some_iff.1 h1).1 (fun e => by
      obtain ⟨cur', h2⟩ := own_block h.o1 e.symm
      exact cells_ne h1 h2 ht rfl)
  exact ⟨⟨c, (ne _ _ _ _ hc (by decide)).trans hc, hr⟩, ho, own_keep h.o2 (fun g cur h1 => ne _ _ _ _ h1 (by decide))⟩
theorem Core.grow2 (h : Core B w P F v u n m xs ys) {u' : Value} {m' : Nat} {ys' : List Value} (ho : w1.ownsRow B 51 1 u' m' ys') (hg : w.grownBy w1 u.ownBlock) : Core B w1 P F v u' n m' xs ys' := by
  obtain ⟨c, hc, hr⟩ := h.row
  have ne : ∀ (g : Nat) (cur : Array Value) (t : TypeId) (fr : Nat × Nat), w.heap[g]? = some (.cells cur t fr) → t ≠ 51 → w1.heap[g]? = w.heap[g]? := fun g cur t fr h1 ht =>
    hg.block g (Array.getElem?_eq_some_iff.1 h1).1 (fun e => by
      obtain ⟨cur', h2⟩ := own_block h.o2 e.symm
      exact cells_ne h1 h2 ht rfl)
  exact ⟨⟨c, (ne _ _ _ _ hc (by decide)).trans hc, hr⟩, own_keep h.o1 (fun g cur h1 => ne _ _ _ _ h1 (by decide)), ho⟩
end
/-- Blocks of other types than the lists', and other than P, are as they were; maps, too. -/
structure BK (B P : Nat) (w w' : World) : Prop where
  bel : Below B w w'
  kp : ∀ (b : Nat) (cur : Array Value) (t : TypeId) (fr : Nat × Nat), w.heap[b]? = some (.cells cur t fr) → t ≠ 203 → t ≠ 51 → b ≠ P → w'.heap[b]? = w.heap[b]?
  km : ∀ (b : Nat) (es : Array MapEntry) (c : Nat), w.heap[b]? = some (.map es c) → b ≠ P → w'.heap[b]? = w.heap[b]?
section
variable {B P : Nat} {w w1 w2 : World}
theorem BK.refl (B P : Nat) (w : World) : BK B P w w := ⟨Below.refl _ _, fun _ _ _ _ _ _ _ _ => rfl, fun _ _ _ _ _ => rfl⟩
theorem BK.trans (h : BK B P w w1) (k : BK B P w1 w2) : BK B P w w2 :=
  ⟨h.bel.trans k.bel, fun b cur t fr hb h1 h2 hj => (k.kp b cur t fr ((h.kp b cur t fr hb h1 h2 hj).trans hb) h1 h2 hj).trans (h.kp b cur t fr hb h1 h2 hj), fun b es c hb hj => (k.km b es c ((h.km b es c hb hj).trans hb) hj).trans (h.km b es c hb hj)⟩
theorem BK.drew (h : BK B P w w1) : BK B P w w1.drew := ⟨h.bel.drew, h.kp, h.km⟩
theorem BK.alloc (h : BK B P w w1) (hB : B ≤ w1.heap.size) (o : Obj) : BK B P w (w1.alloc o) :=
  ⟨h.bel.alloc hB o, fun b cur t fr hb h1 h2 hj => (Go.Deep.blk_alloc_lt w1 o b (Array.getElem?_eq_some_iff.1 ((h.kp b cur t fr hb h1 h2 hj).trans hb)).1).trans (h.kp b cur t fr hb h1 h2 hj),
    fun b es c hb hj => (Go.Deep.blk_alloc_lt w1 o b (Array.getElem?_eq_some_iff.1 ((h.km b es c hb hj).trans hb)).1).trans (h.km b es c hb hj)⟩
theorem BK.setP (h : BK B P w w1) (hP : B ≤ P) (j : Nat) (v : Value) : BK B P w (w1.setCell ⟨P, j, none⟩ v) :=
  ⟨h.bel.setCell (p := ⟨P, j, none⟩) hP v, fun b cur t fr hb h1 h2 hj => (Go.Deep.blk_setCell_other _ _ _ _ hj).trans (h.kp b cur t fr hb h1 h2 hj), fun b es c hb hj => (Go.Deep.blk_setCell_other _ _ _ _ hj).trans (h.km b es c hb hj)⟩
theorem BK.grown {v : Value} {ty size n : Nat} {xs : List Value} (h : BK B P w w1) (hg : w1.grownBy w2 v.ownBlock) (hB : B ≤ w1.heap.size) (ho : w1.ownsRow B ty size v n xs) (hty : ty = 203 ∨ ty = 51) : BK B P w w2 :=
  ⟨h.bel.grown hg hB (fun k hk => (ho.lt k hk).1), fun b cur t fr hb h1 h2 hj => by
    have e := h.kp b cur t fr hb h1 h2 hj
    have hb1 := e.trans hb
    exact (hg.block b (Array.getElem?_eq_some_iff.1 hb1).1 (fun e2 => by
      obtain ⟨cur', h2'⟩ := own_block ho e2.symm
      rcases hty with rfl | rfl
      · exact cells_ne hb1 h2' h1 rfl
      · exact cells_ne hb1 h2' h2 rfl)).trans e, fun b es c hb hj => by
    have e := h.km b es c hb hj
    have hb1 := e.trans hb
    exact (hg.block b (Array.getElem?_eq_some_iff.1 hb1).1 (fun e2 => by
      obtain ⟨cur', h2'⟩ := own_block ho e2.symm
      rw [h2'] at hb1
      cases hb1)).trans e⟩
end
theorem row_kp {w w' : World} {B P R k : Nat} {t : TypeId} {f : Nat → Value} (h : w.rowIs R t k f) (hb : BK B P w w') (h1 : t ≠ 203) (h2 : t ≠ 51) (hR : R ≠ P) : w'.rowIs R t k f := by
  obtain ⟨c, hc, r⟩ := h
  exact ⟨c, (hb.kp R c t _ hc h1 h2 hR).trans hc, r⟩
theorem infoSy : (Tryd.prog.info? 203).map (fun i => (i.zero, i.size, i.bytes)) = some (some (.agg #[.pointer none, .string ByteArray.empty, .int .u32 0, .int .u32 0, .int .u32 0, .int .u32 0, .int .u32 0, .int .u16 0, .int .u8 0, .int .u8 0]), 10, 48) := by kernel_rfl
theorem info32 : (Tryd.prog.info? 51).map (fun i => (i.zero, i.size, i.bytes)) = some (some (.int .u32 0), 1, 4) := by kernel_rfl
theorem info_parts {x : Option TypeInfo} {z : Value} {s b : Nat} (h : x.map (fun i => (i.zero, i.size, i.bytes)) = some (some z, s, b)) : ∃ i, x = some i ∧ i.zero = some z ∧ i.size = s ∧ i.bytes = b := by
  cases x with
  | none => cases h
  | some i => simp at h; exact ⟨i, rfl, h.1, h.2.1, h.2.2⟩
theorem arr_new (wr : World) (cs : Array Value) (T : TypeId) (N : Nat) (hN : N = wr.heap.size) : ∀ j x, cs.toList[j]? = some x → (wr.alloc (.cells cs T)).cell? ((⟨N, 0, none⟩ : Addr).add j) = some x := fun j x hx => by
  subst hN
  rw [add_plain, Nat.zero_add, World.cell?_alloc_mark]
  simpa using hx

def NewS (B P n m : Nat) (src k : Int) (tp : Bool) (nm : ByteArray) (F : Nat → Value) (xs ys : List Value) (u : Value) (w : World) (e : Ending) (w' : World) : Prop :=
  e = .returned (.agg #[.int .u32 src, .int .u32 n]) ∧ BK B P w w' ∧ ∃ F' v' u', Core B w' P F' v' u' (n + 1) (cond tp (m + 1) m) (xs ++ (symC k nm).toList) (cond tp (ys ++ [.int .u32 0]) ys) ∧ F' 106 = v' ∧ F' 108 = u' ∧ ∀ i, i ≠ 106 → i ≠ 108 → F' i = F i
theorem Core.setOther {B P R n m k i : Nat} {w : World} {F f : Nat → Value} {v u x : Value} {xs ys : List Value} (h : Core B w P F v u n m xs ys) (hR : w.rowIs R 53 k f) : Core B (w.setCell ⟨R, i, none⟩ x) P F v u n m xs ys := by
  obtain ⟨c, hc, r⟩ := h.row
  obtain ⟨d, hd, _⟩ := hR
  exact ⟨⟨c, (Go.Deep.blk_setCell_other _ _ _ _ (cells_ne hc hd (by decide))).trans hc, r⟩, own_keep h.o1 (fun g cur hg => Go.Deep.blk_setCell_other _ _ _ _ (cells_ne hg hd (by decide))), own_keep h.o2 (fun g cur hg => Go.Deep.blk_setCell_other _ _ _ _ (cells_ne hg hd (by decide)))⟩
theorem BK.setNew {B P R i : Nat} {w w1 : World} {x : Value} (h : BK B P w w1) (hB : B ≤ w.heap.size) (hR : w.heap.size ≤ R) : BK B P w (w1.setCell ⟨R, i, none⟩ x) :=
  ⟨h.bel.setCell (p := ⟨R, i, none⟩) (Nat.le_trans hB hR) x, fun b cur t fr hb h1 h2 hj => (Go.Deep.blk_setCell_other _ _ _ _ (by have := (Array.getElem?_eq_some_iff.1 hb).1; show b ≠ R; omega)).trans (h.kp b cur t fr hb h1 h2 hj),
    fun b es c hb hj => (Go.Deep.blk_setCell_other _ _ _ _ (by have := (Array.getElem?_eq_some_iff.1 hb).1; show b ≠ R; omega)).trans (h.km b es c hb hj)⟩
theorem new_fin {B P n m : Nat} {src k : Int} {tp : Bool} {nm : ByteArray} {F F' : Nat → Value} {xs ys : List Value} {u v' u' : Value} {w w4 : World} (hk : BK B P w w4) (hB : B ≤ w.heap.size) (hC : Core B w4 P F' v' u' (n + 1) (cond tp (m + 1) m) (xs ++ (symC k nm).toList) (cond tp (ys ++ [.int .u32 0]) ys))
    (hR : w4.rowIs w.heap.size 53 2 (fun j => (#[.int .u32 0, .int .u32 0] : Array Value).getD j undef)) (h1 : F' 106 = v') (h2 : F' 108 = u') (h3 : ∀ i, i ≠ 106 → i ≠ 108 → F' i = F i) :
    NewS B P n m src k tp nm F xs ys u w (.returned (.agg #[.int .u32 src, .int .u32 n])) ((w4.setCell ⟨w.heap.size, 0, none⟩ (.int .u32 src)).setCell ⟨w.heap.size, 1, none⟩ (.int .u32 n)) :=
  ⟨rfl, (hk.setNew hB (Nat.le_refl _)).setNew hB (Nat.le_refl _), F', v', u', (hC.setOther hR).setOther (hR.set 0 _), h1, h2, h3⟩
set_option maxRecDepth 100000 in
set_option maxHeartbeats 8000000 in
theorem newSymbol (B P n m : Nat) (src k : Int) (tp : Bool) (nm : ByteArray) (F : Nat → Value) (v u : Value) (xs ys : List Value) (w : World) (hC : Core B w P F v u n m xs ys) (hB : B ≤ P) (hB0 : 0 < B) (h66 : F 66 = .int .u32 src) (h32 : F 32 = .bool tp) (h106 : F 106 = v) (h108 : F 108 = u)
    (hn : n < 65536) (hm : m < 65536) (g0 : w.cell? ⟨0, 0, none⟩ = some (.int .u32 4294967295)) (g1 : w.cell? ⟨0, 1, none⟩ = some (.int .u32 4294967295)) :
    Calls Tryd.prog 21 #[.pointer (some ⟨P, 0, none⟩), .int .u8 k, .string nm] w (NewS B P n m src k tp nm F xs ys u w) := by
  obtain ⟨i0, hi, hz0, hz1, hz2⟩ := info_parts infoSy
  obtain ⟨j0, hj, hy0, hy1, hy2⟩ := info_parts info32
  obtain ⟨a, cc, rfl⟩ := slice_form hC.o1
  obtain ⟨a2, cc2, rfl⟩ := slice_form hC.o2
  have p0 := hC.row.cell (i := 66) (by omega)
  have p1 := hC.row.cell (i := 32) (by omega)
  have p2 := hC.row.cell (i := 106) (by omega)
  rw [h66] at p0
  rw [h32] at p1
  rw [h106] at p2
  have lP := hC.row.lt
  have hn2 : (n : Int) % 4294967296 = n := by omega
  have hC0 := Lib.hid hC
  clear hC
  go_enter Tryd.func21, Tryd.ntmps21
  go_wp2_with fail
  go_region
  go_wp2_with fail
  have z1 : (((w.alloc (.cells #[.int .u32 0, .int .u32 0] 53)).alloc (.cells #[.int .u32 src, .int .u32 n] 53)).drew).rowIs (w.heap.size + 1) 53 2 (fun j => (#[.int .u32 src, .int .u32 n] : Array Value).getD j undef) := ⟨_, (by rw [show w.heap.size + 1 = (w.alloc (.cells #[.int .u32 0, .int .u32 0] 53)).heap.size by simp]; exact heap_alloc_new _ _), rfl, fun i hi => by match i, hi with | 0, _ | 1, _ => rfl⟩
  have y1 : (((w.alloc (.cells #[.int .u32 0, .int .u32 0] 53)).alloc (.cells #[.int .u32 src, .int .u32 n] 53)).drew).rowIs w.heap.size 53 2 (fun j => (#[.int .u32 0, .int .u32 0] : Array Value).getD j undef) := ⟨_, (Go.Deep.blk_alloc_lt _ _ _ (by simp)).trans (heap_alloc_new _ _), rfl, fun i hi => by match i, hi with | 0, _ | 1, _ => rfl⟩
  have b1 : Below w.heap.size w (((w.alloc (.cells #[.int .u32 0, .int .u32 0] 53)).alloc (.cells #[.int .u32 src, .int .u32 n] 53)).drew) := (((Below.refl _ _).alloc (Nat.le_refl _) _).alloc (by simp) _).drew
  have k1 : BK B P w (((w.alloc (.cells #[.int .u32 0, .int .u32 0] 53)).alloc (.cells #[.int .u32 src, .int .u32 n] 53)).drew) := (((BK.refl _ _ _).alloc (by omega) _).alloc (by simp; omega) _).drew
  generalize (((w.alloc (.cells #[.int .u32 0, .int .u32 0] 53)).alloc (.cells #[.int .u32 src, .int .u32 n] 53)).drew) = w1 at *
  have hC1 := hC0.out.below b1
  have q1 : w1.cell? ⟨P, 32, none⟩ = some (.bool tp) := h32 ▸ hC1.row.cell (i := 32) (by omega)
  have q2 : w1.cell? ⟨P, 106, none⟩ = some (.slice a n cc) := h106 ▸ hC1.row.cell (i := 106) (by omega)
  have x0 : w1.cell? ⟨0, 0, none⟩ = some (.int .u32 4294967295) := (b1.cell (p := ⟨0, 0, none⟩) (lt_of_cell g0)).trans g0
  have x1 : w1.cell? ⟨0, 1, none⟩ = some (.int .u32 4294967295) := (b1.cell (p := ⟨0, 1, none⟩) (lt_of_cell g1)).trans g1
  have lP1 := hC1.row.lt
  have l01 := lt_of_cell x0
  have hBw : B ≤ w1.heap.size := by omega
  have hCA := Lib.hid (hC1.below (((Below.refl _ _).drew.alloc (by simp) (.cells (symC k nm) 203))))
  have hnews := Lib.hid (arr_new w1.drew (symC k nm) 203 w1.heap.size rfl)
  have hone : Hid (∀ u ∈ (symC k nm).toList, u.oneCell' = true) := Lib.hid (fun u hu => by simp [symC] at hu; rcases hu with rfl | rfl | rfl | rfl | rfl | rfl | rfl <;> rfl)
  have hk1 : n + 1 ≤ maxLen := by simp only [maxLen]; omega
  have hk2 : (n + 1) * 48 ≤ 140737488355328 := by omega
  have hk3 : Hid (B ≤ (w1.drew.alloc (.cells (symC k nm) 203)).heap.size) := Lib.hid (by simp; omega)
  have hbA : Hid (BK B P w1 (w1.drew.alloc (.cells (symC k nm) 203))) := Lib.hid ((BK.refl B P w1).drew.alloc (by simp; omega) _)
  replace hC1 := Lib.hid hC1
  replace b1 := Lib.hid b1
  replace k1 := Lib.hid k1
  replace z1 := Lib.hid z1
  replace y1 := Lib.hid y1
  replace h66 := Lib.hid h66
  replace h32 := Lib.hid h32
  replace h106 := Lib.hid h106
  replace h108 := Lib.hid h108
  clear p0 p1 p2 g0 g1 q1
  go_region_law ((refine step_append_own rfl (.tmp 24) (.tmp 29) _ rfl B 203 i0 (.agg #[.pointer none, .string ByteArray.empty, .int .u32 0, .int .u32 0, .int .u32 0, .int .u32 0, .int .u32 0, .int .u16 0, .int .u8 0, .int .u8 0]) 10 48 Tryd.underlying122 hi hz0 hz1 hz2 rfl (by omega) (.slice a n cc) n xs rfl hCA.out.o1 ⟨w1.heap.size, 0, none⟩ 1 1 (symC k nm).toList rfl rfl hnews.out hone.out hk1 hk2 hk3.out ?_; intro v' w3 ho hg hv; obtain ⟨a', c', rfl⟩ := slice_form ho; have hC3 := hCA.out.grow1 ho hg; have d0 := hC3.row.cell (i := 106) (by omega); have e0 := hC3.row.frozen 106; have hbW := Lib.hid (hbA.out.grown hg hk3.out hCA.out.o1 (.inl rfl)); replace hC3 := Lib.hid hC3; clear ho hv hg))
  all_goals
    have hC4 := hC3.out.set 106 (.slice a' (n + 1) c')
    have bk4 := hbW.out.setP hB 106 (.slice a' (n + 1) c')
    have lw3 : B ≤ (w3.setCell ⟨P, 106, none⟩ (.slice a' (n + 1) c')).heap.size := by have := hC3.out.row.lt; simp; omega
    clear d0 e0 hC3 hbW hCA hnews hone hk1 hk2 hk3 hbA q2 x0 x1 lP1 l01
    generalize (w3.setCell ⟨P, 106, none⟩ (.slice a' (n + 1) c')) = w4 at *
    have zr := row_kp z1.out bk4 (by decide) (by decide) (by omega)
    have yr := row_kp y1.out bk4 (by decide) (by decide) (by omega)
    have t0 : w4.cell? ⟨w.heap.size, 0, none⟩ = some (.int .u32 0) := yr.cell (i := 0) (by omega)
    have t1 : w4.cell? ⟨w.heap.size, 1, none⟩ = some (.int .u32 0) := yr.cell (i := 1) (by omega)
    have t2 := yr.frozen 0
    have t3 := yr.frozen 1
    have s0 : w4.cell? ⟨w.heap.size + 1, 0, none⟩ = some (.int .u32 src) := zr.cell (i := 0) (by omega)
    have s1 : w4.cell? ⟨w.heap.size + 1, 1, none⟩ = some (.int .u32 n) := zr.cell (i := 1) (by omega)
    have q1 : w4.cell? ⟨P, 32, none⟩ = some (.bool tp) := by have := hC4.row.cell (i := 32) (by omega); simpa [h32.out] using this
    have lP4 := hC4.row.lt
    cases tp with
    | false =>
      replace hC4 := Lib.hid hC4
      replace bk4 := Lib.hid bk4
      replace zr := Lib.hid zr
      replace yr := Lib.hid yr
      go_wp2_with fail
      have r := (yr.out.set 0 (.int .u32 src)).set 1 (.int .u32 n)
      have r0 := r.cell (i := 0) (by omega)
      have r1 := r.cell (i := 1) (by omega)
      simp only [if_true, if_false, show ¬ (0 : Nat) = 1 from by decide] at r0 r1
      exact bodyPost_ret (v := .agg #[.int .u32 src, .int .u32 n]) (by simp [results, Tryd.results21, go_sem, r0, r1]) rfl (new_fin (k1.out.trans bk4.out) (by omega) hC4.out yr.out (by simp) (by simp [h108.out]) (fun i e1 _ => by simp [e1]))
    | true =>
      have q2 : w4.cell? ⟨P, 108, none⟩ = some (.slice a2 m cc2) := by have := hC4.row.cell (i := 108) (by omega); simpa [h108.out] using this
      have hCA := Lib.hid (hC4.below (((Below.refl _ _).alloc (Nat.le_refl _) (.cells #[.int .u32 0] 51))))
      have hnews := Lib.hid (arr_new w4 #[.int .u32 0] 51 w4.heap.size rfl)
      have hone : Hid (∀ u ∈ ([.int .u32 0] : List Value), u.oneCell' = true) := Lib.hid (fun u hu => by simp at hu; subst hu; rfl)
      have hk1 : m + 1 ≤ maxLen := by simp only [maxLen]; omega
      have hk2 : (m + 1) * 4 ≤ 140737488355328 := by omega
      have hk3 : Hid (B ≤ (w4.alloc (.cells #[.int .u32 0] 51)).heap.size) := Lib.hid (by simp; omega)
      have hbA : Hid (BK B P w1 (w4.alloc (.cells #[.int .u32 0] 51))) := Lib.hid (bk4.alloc lw3 _)
      replace hC4 := Lib.hid hC4
      replace bk4 := Lib.hid bk4
      replace zr := Lib.hid zr
      replace yr := Lib.hid yr
      clear s0 s1 t0 t1 t2 t3
      go_wp2_with (at_builtin; refine wpList_append_own _ rfl (.tmp 44) (.tmp 45) _ rfl B 51 j0 (.int .u32 0) 1 4 Tryd.underlying126 hj hy0 hy1 hy2 rfl (by omega) (.slice a2 m cc2) m ys rfl hCA.out.o2 ⟨w4.heap.size, 0, none⟩ 1 1 [.int .u32 0] rfl rfl hnews.out hone.out hk1 hk2 hk3.out ?_; intro v'' w5 ho hg hv; obtain ⟨a'', c'', rfl⟩ := slice_form ho; have hC5 := hCA.out.grow2 ho hg; have d0 := hC5.row.cell (i := 108) (by omega); have e0 := hC5.row.frozen 108; have hbW := Lib.hid (hbA.out.grown hg hk3.out hCA.out.o2 (.inr rfl)); have hC6 := Lib.hid (hC5.set 108 (.slice a'' (m + 1) c'')); replace hC5 := Lib.hid hC5; have zr5 := row_kp z1.out hbW.out (by decide) (by decide) (by omega); have yr5 := row_kp y1.out hbW.out (by decide) (by decide) (by omega); have t0 : w5.cell? ⟨w.heap.size, 0, none⟩ = some (.int .u32 0) := yr5.cell (i := 0) (by omega); have t1 : w5.cell? ⟨w.heap.size, 1, none⟩ = some (.int .u32 0) := yr5.cell (i := 1) (by omega); have t2 := yr5.frozen 0; have t3 := yr5.frozen 1; have s0 : w5.cell? ⟨w.heap.size + 1, 0, none⟩ = some (.int .u32 src) := zr5.cell (i := 0) (by omega); have s1 : w5.cell? ⟨w.heap.size + 1, 1, none⟩ = some (.int .u32 n) := zr5.cell (i := 1) (by omega); replace zr5 := Lib.hid zr5; have yr6 := Lib.hid (yr5.setOther (a := ⟨P, 108, none⟩) (by show w.heap.size ≠ P; omega) (.slice a'' (m + 1) c'')); replace yr5 := Lib.hid yr5; clear ho hv hg)
      have r := (yr6.out.set 0 (.int .u32 src)).set 1 (.int .u32 n)
      have r0 := r.cell (i := 0) (by omega)
      have r1 := r.cell (i := 1) (by omega)
      simp only [if_true, if_false, show ¬ (0 : Nat) = 1 from by decide] at r0 r1
      exact bodyPost_ret (v := .agg #[.int .u32 src, .int .u32 n]) (by simp [results, Tryd.results21, go_sem, r0, r1]) rfl (new_fin (k1.out.trans (hbW.out.setP hB 108 _)) (by omega) hC6.out yr6.out (by simp) (by simp) (fun i e1 e2 => by simp [e1, e2]))
end Go.Proofs.YtacekiapcipidaaDoor.Sym
