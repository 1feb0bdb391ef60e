/-
  The parser that relocates: its symbols' counts and its recorded list; recordUsage; the closure that records a binding. Condition: lengths.
-/
import Derived.Test.YtdiedidmjpihjaaRlA
import Derived.Deep.RegionHeld3
import Derived.Deep.RegionLaw
import Derived.Deep.CutRange
namespace Go.Proofs.Ytdiedidmjpihjaa.Rl
open Go.RowKit Go.ChangeShapes Go.WideShapes Go.ChangeAt Go.Proofs.Ytdiedidmjpihjaa.Ints

theorem own_keep {w w' : World} {B e size k : Nat} {v : Value} {xs : List Value} (h : w.ownsRow B e size v k xs) (hk : ∀ (g : Nat) (cur : Array Value), w.heap[g]? = some (.cells cur e (0, 0)) → w'.heap[g]? = w.heap[g]?) : w'.ownsRow B e size v k xs := by
  rcases h.2 with h0 | ⟨g, cap, cur, e1, e2, e3, r⟩
  · exact ⟨h.1, .inl h0⟩
  · exact ⟨h.1, .inr ⟨g, cap, cur, e1, e2, (hk g cur e3).trans e3, r⟩⟩
theorem cells_ne {w : World} {a b : Nat} {cur cur' : Array Value} {s t : TypeId} {fr fr' : Nat × Nat} (h : w.heap[a]? = some (.cells cur s fr)) (k : w.heap[b]? = some (.cells cur' t fr')) (hst : s ≠ t) : a ≠ b := by
  rintro rfl
  rw [h] at k
  injection k with k
  injection k with _ k
  exact hst k
theorem row_ne {w : World} {a b s t k m : Nat} {f g : Nat → Value} (h : w.rowIs a s k f) (h' : w.rowIs b t m g) (hst : s ≠ t) : a ≠ b := by
  obtain ⟨c1, k1, _⟩ := h
  obtain ⟨c2, k2, _⟩ := h'
  exact cells_ne k1 k2 hst
theorem own_block {w : World} {B e size k g : Nat} {v : Value} {xs : List Value} (h : w.ownsRow B e size v k xs) (hg : v.ownBlock = some g) : ∃ cur, w.heap[g]? = some (.cells cur e (0, 0)) := by
  rcases h.2 with ⟨h0, _⟩ | ⟨g', cap, cur, e1, e2, e3, r⟩
  · rw [h0] at hg; cases hg
  · rw [e1] at hg; cases hg; exact ⟨cur, e3⟩
theorem slice_form {w : World} {B e n k : Nat} {v : Value} {xs : List Value} (h : w.ownsRow B e n v k xs) : ∃ a c, v = .slice a k c := by
  rcases h.2 with ⟨e, h0⟩ | ⟨g, cap, cur, e, _⟩
  · exact ⟨none, 0, by rw [e, h0]⟩
  · exact ⟨_, _, e⟩
theorem step_append_own {P : Program} {ops : Array Oper} {o : Oper} {a : Act} {w : World} {K : Act → World → Prop} {Q : Exit → Act → World → Prop} {E : Prop} (hg : o.guard = none) (s x : Operand) (t : TypeId)
    (ho : o.op = .call { callee := .builtin .append, args := #[s, x], argTypes := #[t, t] })
    (base : Nat) (e : TypeId) (i : TypeInfo) (z : Value) (size bytes : Nat) (ht : P.underlying t = some (.slice e)) (hi : P.info? e = some i) (hz : i.zero = some z)
    (hsize : i.size = size) (hby : i.bytes = bytes) (hzs : z.cells.size = size) (hsz : 0 < size)
    (v : Value) (n : Nat) (xs : List Value) (hs : a.eval s = v) (hown : w.ownsRow base e size v n xs)
    (ad : Addr) (m c : Nat) (news : List Value) (hx : a.eval x = .slice (some ad) m c) (hl : news.length = m * size) (hnews : ∀ j u, news[j]? = some u → w.cell? (ad.add j) = some u) (h1 : ∀ u ∈ news, u.oneCell' = true)
    (h63 : n + m ≤ maxLen) (hbytes : (n + m) * bytes ≤ 140737488355328) (hbase : base ≤ w.heap.size)
    (h : ∀ v' w', w'.ownsRow base e size v' (n + m) (xs ++ news) → w.grownBy w' v.ownBlock → (v' = .slice none 0 0 ↔ v = .slice none 0 0 ∧ m = 0) → K (a.put o.dst v') w') :
    if Region.wanted o (yielded ops a.tmps) = true then Oper.wp P o a w K Q else E := by
  have hw : Region.wanted o (yielded ops a.tmps) = true := by simp [Region.wanted, hg]
  rw [if_pos hw]
  exact wp_append_own w s x t ho base e i z size bytes ht hi hz hsize hby hzs hsz v n xs hs hown ad m c news hx hl hnews h1 h63 hbytes hbase h
theorem info_parts {x : Option TypeInfo} {z : Value} {s b : Nat} (h : x.map (fun i => (i.zero, i.size, i.bytes)) = some (some z, s, b)) : ∃ i, x = some i ∧ i.zero = some z ∧ i.size = s ∧ i.bytes = b := by
  cases x with
  | none => cases h
  | some i => simp at h; exact ⟨i, rfl, h.1, h.2.1, h.2.2⟩
theorem arr_new (wr : World) (cs : Array Value) (T : TypeId) (N : Nat) (hN : N = wr.heap.size) : ∀ j x, cs.toList[j]? = some x → (wr.alloc (.cells cs T)).cell? ((⟨N, 0, none⟩ : Addr).add j) = some x := fun j x hx => by
  subst hN
  rw [add_plain, Nat.zero_add, World.cell?_alloc_mark]
  simpa using hx
def upd (U : Nat → Nat) (x m : Nat) : Nat → Nat := fun j => if j = x then m else U j
/-- The parser: its row, its symbols' use counts, what it has recorded. -/
structure Pa (B P g n : Nat) (F : Nat → Value) (U : Nat → Nat) (v : Value) (k : Nat) (xs : List Value) (w : World) : Prop where
  row : w.rowIs P 191 353 F
  f32 : F 32 = .bool false
  f105 : F 105 = .pointer none
  f350 : F 350 = .bool false
  f106 : F 106 = .slice (some ⟨g, 0, none⟩) n n
  f196 : F 196 = v
  own : w.ownsRow B 47 3 v k xs
  sym : ∃ G, w.rowIs g 197 (n * 10) G ∧ ∀ j, j < n → G (j * 10 + 4) = .int .u32 (U j : Nat)
  bp : B ≤ P
  bg : B ≤ g
/-- Blocks other than P, g and those of recorded lists are as they were. -/
structure Ko (B P g : Nat) (w w' : World) : Prop where
  bel : Below B w w'
  kp : ∀ (b : Nat) (cur : Array Value) (t : TypeId) (fr : Nat × Nat), w.heap[b]? = some (.cells cur t fr) → t ≠ 47 → b ≠ P → b ≠ g → w'.heap[b]? = w.heap[b]?
section
variable {B P g n k : Nat} {F : Nat → Value} {U : Nat → Nat} {v : Value} {xs : List Value} {w w1 w2 : World}
theorem Ko.refl (B P g : Nat) (w : World) : Ko B P g w w := ⟨Below.refl _ _, fun _ _ _ _ _ _ _ _ => rfl⟩
theorem Ko.trans (h : Ko B P g w w1) (h2 : Ko B P g w1 w2) : Ko B P g w w2 :=
  ⟨h.bel.trans h2.bel, fun b cur t fr hb h1 hP hg => (h2.kp b cur t fr ((h.kp b cur t fr hb h1 hP hg).trans hb) h1 hP hg).trans (h.kp b cur t fr hb h1 hP hg)⟩
theorem Ko.of_below (h : Below w.heap.size w w1) (hB : B ≤ w.heap.size) : Ko B P g w w1 := ⟨h.mono hB, fun b cur t fr hb _ _ _ => h.block b (Array.getElem?_eq_some_iff.1 hb).1⟩
theorem Ko.setP (hB : B ≤ P) (j : Nat) (x : Value) : Ko B P g w (w.setCell ⟨P, j, none⟩ x) := ⟨(Below.refl _ _).setCell (p := ⟨P, j, none⟩) hB x, fun b _ _ _ _ _ h _ => Go.Deep.blk_setCell_other _ _ _ _ h⟩
theorem Ko.setG (hB : B ≤ g) (j : Nat) (x : Value) : Ko B P g w (w.setCell ⟨g, j, none⟩ x) := ⟨(Below.refl _ _).setCell (p := ⟨g, j, none⟩) hB x, fun b _ _ _ _ _ _ h => Go.Deep.blk_setCell_other _ _ _ _ h⟩
theorem Ko.grown (hg : w.grownBy w1 v.ownBlock) (hB : B ≤ w.heap.size) (ho : w.ownsRow B 47 3 v k xs) : Ko B P g w w1 :=
  ⟨(Below.refl _ _).grown hg hB (fun k hk => (ho.lt k hk).1), fun b cur t fr hb h1 _ _ => hg.block b (Array.getElem?_eq_some_iff.1 hb).1 (fun e => by
    obtain ⟨cur', h2⟩ := own_block ho e.symm
    exact cells_ne hb h2 h1 rfl)⟩
theorem Ko.row (h : Ko B P g w w1) {R m : Nat} {t : TypeId} {f : Nat → Value} (hr : w.rowIs R t m f) (h1 : t ≠ 47) (hP : R ≠ P) (hg : R ≠ g) : w1.rowIs R t m f := by
  obtain ⟨c, hc, r⟩ := hr
  exact ⟨c, (h.kp R c t _ hc h1 hP hg).trans hc, r⟩
theorem Pa.lts (h : Pa B P g n F U v k xs w) : P < w.heap.size ∧ g < w.heap.size ∧ P ≠ g := by
  obtain ⟨G, hG, _⟩ := h.sym
  exact ⟨h.row.lt, hG.lt, row_ne h.row hG (by decide)⟩
theorem Pa.below (h : Pa B P g n F U v k xs w) (hb : Below w.heap.size w w1) : Pa B P g n F U v k xs w1 := by
  obtain ⟨G, hG, hs⟩ := h.sym
  exact ⟨h.row.of_block (hb.block _ h.row.lt), h.f32, h.f105, h.f350, h.f106, h.f196, own_keep h.own (fun g cur e => hb.block _ (Array.getElem?_eq_some_iff.1 e).1), ⟨G, hG.of_block (hb.block _ hG.lt), hs⟩, h.bp, h.bg⟩
theorem Pa.incU (h : Pa B P g n F U v k xs w) {x m : Nat} (hx : x < n) : Pa B P g n F (upd U x m) v k xs (w.setCell ⟨g, x * 10 + 4, none⟩ (.int .u32 (m : Nat))) := by
  obtain ⟨G, hG, hs⟩ := h.sym
  have hG0 := hG
  obtain ⟨c, hc, _⟩ := hG0
  refine ⟨h.row.setOther (row_ne h.row hG (by decide)) _, h.f32, h.f105, h.f350, h.f106, h.f196, own_keep h.own (fun b cur e => Go.Deep.blk_setCell_other _ _ _ _ (cells_ne e hc (by decide))), ⟨_, hG.set (x * 10 + 4) _, fun j hj => ?_⟩, h.bp, h.bg⟩
  by_cases hjx : j = x
  · subst hjx; simp [upd]
  · have : ¬ j * 10 + 4 = x * 10 + 4 := by omega
    simp only [if_neg this, hs j hj, upd, if_neg hjx]
theorem Pa.setOther (h : Pa B P g n F U v k xs w) {N j : Nat} {c : Array Value} {t : TypeId} {fr : Nat × Nat} {a : Value} (hN : w.heap[N]? = some (.cells c t fr)) (h1 : 191 ≠ t) (h2 : 197 ≠ t) (h3 : 47 ≠ t) :
    Pa B P g n F U v k xs (w.setCell ⟨N, j, none⟩ a) := by
  obtain ⟨G, hG, hs⟩ := h.sym
  obtain ⟨d, hd, hd2⟩ := hG
  obtain ⟨e, he, he2⟩ := h.row
  exact ⟨⟨e, (Go.Deep.blk_setCell_other _ _ _ _ (cells_ne he hN h1)).trans he, he2⟩, h.f32, h.f105, h.f350, h.f106, h.f196, own_keep h.own (fun b cur e => Go.Deep.blk_setCell_other _ _ _ _ (cells_ne e hN h3)), ⟨G, ⟨d, (Go.Deep.blk_setCell_other _ _ _ _ (cells_ne hd hN h2)).trans hd, hd2⟩, hs⟩, h.bp, h.bg⟩
theorem Pa.app (h : Pa B P g n F U v k xs w) {v' : Value} {k' : Nat} {xs' : List Value} (ho : w1.ownsRow B 47 3 v' k' xs') (hg : w.grownBy w1 v.ownBlock) :
    Pa B P g n (fun j => if j = 196 then v' else F j) U v' k' xs' (w1.setCell ⟨P, 196, none⟩ v') := by
  obtain ⟨G, hG, hs⟩ := h.sym
  have hPg := row_ne h.row hG (by decide)
  obtain ⟨c, hc, hr⟩ := h.row
  obtain ⟨d, hd, hd2⟩ := hG
  have ne : ∀ (b : Nat) (cur : Array Value) (t : TypeId) (fr : Nat × Nat), w.heap[b]? = some (.cells cur t fr) → t ≠ 47 → w1.heap[b]? = w.heap[b]? := fun b cur t fr h1 ht =>
    hg.block b (Array.getElem?_eq_some_iff.1 h1).1 (fun e => by
      obtain ⟨cur', h2⟩ := own_block h.own e.symm
      exact cells_ne h1 h2 ht rfl)
  have hR1 : w1.rowIs P 191 353 F := ⟨c, (ne _ _ _ _ hc (by decide)).trans hc, hr⟩
  have hG1 : w1.rowIs g 197 (n * 10) G := ⟨d, (ne _ _ _ _ hd (by decide)).trans hd, hd2⟩
  have hR0 := hR1
  obtain ⟨c1, hc1, _⟩ := hR0
  exact ⟨hR1.set 196 v', h.f32, h.f105, h.f350, h.f106, if_pos rfl, own_keep ho (fun b cur e => Go.Deep.blk_setCell_other _ _ _ _ (cells_ne e hc1 (by decide))), ⟨G, hG1.setOther (fun e => hPg e.symm) _, hs⟩, h.bp, h.bg⟩
end
def Recd (B P g n : Nat) (F : Nat → Value) (U : Nat → Nat) (v : Value) (k : Nat) (xs : List Value) (x : Nat) (w : World) (e : Ending) (w' : World) : Prop :=
  e = .returned (.tuple #[]) ∧ Pa B P g n F (upd U x (U x + 1)) v k xs w' ∧ Ko B P g w w'
set_option maxRecDepth 20000 in
set_option maxHeartbeats 1000000 in
theorem recordU (B P g n x : Nat) (F : Nat → Value) (U : Nat → Nat) (v : Value) (k : Nat) (xs : List Value) (w : World) (h : Pa B P g n F U v k xs w) (hx : x < n) (hn : n ≤ 65536) (hU : U x ≤ 65536) :
    Calls Try.prog 16 #[.pointer (some ⟨P, 0, none⟩), .agg #[.int .u32 0, .int .u32 (x : Nat)]] w (Recd B P g n F U v k xs x w) := by
  have hb : Below w.heap.size w (w.alloc (.cells #[.int .u32 0, .int .u32 (x : Nat)] 45)) := (Below.refl _ _).alloc (Nat.le_refl _) _
  have h1 := h.below hb
  have hBw : B ≤ w.heap.size := Nat.le_trans h.bp (Nat.le_of_lt h.lts.1)
  have k1 : Ko B P g w (w.alloc (.cells #[.int .u32 0, .int .u32 (x : Nat)] 45)) := Ko.of_below hb hBw
  have r1 : (w.alloc (.cells #[.int .u32 0, .int .u32 (x : Nat)] 45)).cell? ⟨w.heap.size, 1, none⟩ = some (.int .u32 (x : Nat)) := cell_of_row _ _ 1 _ _ _ (heap_alloc_new _ _)
  have p350 : w.cell? ⟨P, 350, none⟩ = some (.bool false) := h.f350 ▸ h.row.cell (i := 350) (by omega)
  have lP := h.row.lt
  have q106 : (w.alloc (.cells #[.int .u32 0, .int .u32 (x : Nat)] 45)).cell? ⟨P, 106, none⟩ = some (.slice (some ⟨g, 0, none⟩) n n) := h.f106 ▸ h1.row.cell (i := 106) (by omega)
  obtain ⟨G, hG, hs⟩ := h1.sym
  have s1 : (w.alloc (.cells #[.int .u32 0, .int .u32 (x : Nat)] 45)).cell? ⟨g, x * 10 + 4, none⟩ = some (.int .u32 (U x : Nat)) := hs x hx ▸ hG.cell (i := x * 10 + 4) (by omega)
  have s2 := hG.frozen (x * 10 + 4)
  have lg := hG.lt
  have n1 : (w.alloc (.cells #[.int .u32 0, .int .u32 (x : Nat)] 45)).heap.size = w.heap.size + 1 := by simp
  clear hG hs hb
  replace h := Lib.hid h
  replace h1 := Lib.hid h1
  replace k1 := Lib.hid k1
  go_enter Try.func16, Try.ntmps16
  go_wp2_with fail
  generalize hW : w.alloc (.cells #[.int .u32 0, .int .u32 (x : Nat)] 45) = W at *
  replace hW := Lib.hid hW
  go_region
  have e1 : ((U x : Int) + 1) = ((U x + 1 : Nat) : Int) := by omega
  rw [e1]
  have h2 := (h1.out.incU hx (m := U x + 1)).below (w1 := (W.setCell ⟨g, x * 10 + 4, none⟩ (.int .u32 ((U x + 1 : Nat) : Int))).drew) (Below.refl _ _).drew
  have k2 : Ko B P g w (W.setCell ⟨g, x * 10 + 4, none⟩ (.int .u32 ((U x + 1 : Nat) : Int))).drew := (k1.out.trans (Ko.setG h.out.bg _ _)).trans ⟨(Below.refl _ _).drew, fun _ _ _ _ _ _ _ _ => rfl⟩
  generalize (W.setCell ⟨g, x * 10 + 4, none⟩ (.int .u32 ((U x + 1 : Nat) : Int))).drew = W2 at *
  have v1 : W2.cell? ⟨P, 105, none⟩ = some (.pointer none) := h2.f105 ▸ h2.row.cell (i := 105) (by omega)
  have v2 : W2.cell? ⟨P, 32, none⟩ = some (.bool false) := h2.f32 ▸ h2.row.cell (i := 32) (by omega)
  have lP2 := h2.row.lt
  replace h2 := Lib.hid h2
  replace k2 := Lib.hid k2
  clear r1 p350 q106 s1 s2 n1 h1 k1 hW lg
  go_wp2_with fail
  go_end0
  exact ⟨rfl, h2.out, k2.out⟩
theorem infoLR : (Try.prog.info? 47).map (fun i => (i.zero, i.size, i.bytes)) = some (some (.agg #[.int .i32 0, .int .u32 0, .int .u32 0]), 3, 12) := by kernel_rfl
def Clo (B P g n : Nat) (U : Nat → Nat) (k : Nat) (xs : List Value) (x : Nat) (l : Int) (w : World) (e : Ending) (w' : World) : Prop :=
  ∃ t p F v, e = .returned (.agg #[.iface t p, .int .i32 l]) ∧ Pa B P g n F (upd U x (U x + 1)) v (k + 1) (xs ++ [.int .i32 l, .int .u32 0, .int .u32 (x : Nat)]) w' ∧ Ko B P g w w'
theorem Pa.rowG {B P g n k : Nat} {F : Nat → Value} {U : Nat → Nat} {v : Value} {xs : List Value} {w w1 : World} (h : Pa B P g n F U v k xs w) (hg : w.grownBy w1 v.ownBlock) : w1.rowIs P 191 353 F := by
  obtain ⟨c, hc, hr⟩ := h.row
  exact ⟨c, (hg.block P (Array.getElem?_eq_some_iff.1 hc).1 (fun e => by
    obtain ⟨cur', h2⟩ := own_block h.own e.symm
    exact cells_ne hc h2 (by decide) rfl)).trans hc, hr⟩
end Go.Proofs.Ytdiedidmjpihjaa.Rl
