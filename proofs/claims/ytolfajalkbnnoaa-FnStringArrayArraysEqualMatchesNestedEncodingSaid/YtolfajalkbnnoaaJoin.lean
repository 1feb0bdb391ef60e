/-
  helpers.Joiner: AddString, AddBytes, Length, LastByte, EnsureNewlineAtEnd. Condition: at most 2^20 items and 2^21 bytes.
-/
import Derived.Test.YtolfajalkbnnoaaStrs
import Derived.Test.YtolfajalkbnnoaaBut
import Derived.Lib.Hide
import Derived.Lib.BufferWrite
import Derived.Laws.Cover3
import Derived.RegionTactic
import Derived.ChangeAlike
import Derived.Deep.QuietTactic
import Derived.BigQuiet
import Derived.BigRegion
import Derived.Deep.RegionHeld3
import Derived.Deep.RegionLaw
import Derived.StillTailTactics
import Derived.Laws.MakeOwn
import Derived.IntWalk
namespace Go.Proofs.Ytolfajalkbnnoaa.Join
open Go.RowKit Go.ChangeShapes Go.WideShapes Go.ChangeAt Go.Proofs.Ytolfajalkbnnoaa.Ints

/-- One byte item: where its bytes lie, their number, the offset; the bytes. -/
structure Bt where
  a : Option Addr
  l : Nat
  c : Nat
  o : Nat
  d : List UInt8
def cellsS (ss : List (ByteArray × Nat)) : List Value := ss.flatMap fun p => [.string p.1, .int .u32 p.2]
def cellsB (bs : List Bt) : List Value := bs.flatMap fun p => [.slice p.a p.l p.c, .int .u32 p.o]
theorem cellsS_snoc (ss : List (ByteArray × Nat)) (x : ByteArray × Nat) : cellsS ss ++ [.string x.1, .int .u32 x.2] = cellsS (ss ++ [x]) := by simp [cellsS]
theorem cellsB_snoc (bs : List Bt) (x : Bt) : cellsB bs ++ [.slice x.a x.l x.c, .int .u32 x.o] = cellsB (bs ++ [x]) := by simp [cellsB]
/-- The bytes at o are l. -/
def BytesAt (w : World) (o : Option Addr) (n : Nat) (l : List UInt8) : Prop :=
  l.length = n ∧ (n = 0 ∨ ∃ b off, o = some ⟨b, off, none⟩ ∧ (∃ (cur : Array Value) (fr : Nat × Nat), w.heap[b]? = some (.cells cur 5 fr)) ∧ ∀ i, i < n → w.cell? ⟨b, off + i, none⟩ = some (.int .u8 ((l.getD i 0).toNat : Int)))
theorem BytesAt.keep {w w' : World} {o : Option Addr} {n : Nat} {l : List UInt8} (h : BytesAt w o n l) (hk : ∀ (b : Nat) (cur : Array Value) (fr : Nat × Nat), w.heap[b]? = some (.cells cur 5 fr) → w'.heap[b]? = w.heap[b]?) : BytesAt w' o n l := by
  refine ⟨h.1, ?_⟩
  rcases h.2 with h0 | ⟨b, off, e, ⟨cur, fr, hb⟩, hc⟩
  · exact .inl h0
  · have hkb := hk b cur fr hb
    exact .inr ⟨b, off, e, ⟨cur, fr, hkb.trans hb⟩, fun i hi => (World.cell?_of_block (a := ⟨b, off + i, none⟩) (w := w) hkb).trans (hc i hi)⟩
def jrow (sl bl : Value) (L : Nat) (c : Int) : Nat → Value := fun j => (#[sl, bl, .int .u32 L, .int .u8 c] : Array Value).getD j undef
/-- The joiner's own blocks: its box, its two lists; the bytes of its byte items. -/
structure Core (B : Nat) (w : World) (J : Nat) (f : Nat → Value) (sl bl : Value) (m n : Nat) (xs ys : List Value) (bs : List Bt) : Prop where
  row : w.rowIs J 30 4 f
  o1 : w.ownsRow B 53 2 sl m xs
  o2 : w.ownsRow B 51 2 bl n ys
  dat : ∀ p ∈ bs, BytesAt w p.a p.l p.d
theorem own_keep {w w' : World} {B e size k : Nat} {v : Value} {xs : List Value} (h : w.ownsRow B e size v k xs) (hk : ∀ (g : Nat) (cur : Array Value), w.heap[g]? = some (.cells cur e (0, 0)) → w'.heap[g]? = w.heap[g]?) : w'.ownsRow B e size v k xs := by
  rcases h.2 with h0 | ⟨g, cap, cur, e1, e2, e3, r⟩
  · exact ⟨h.1, .inl h0⟩
  · exact ⟨h.1, .inr ⟨g, cap, cur, e1, e2, (hk g cur e3).trans e3, r⟩⟩
theorem cells_ne {w : World} {a b : Nat} {cur cur' : Array Value} {s t : TypeId} {fr fr' : Nat × Nat} (h : w.heap[a]? = some (.cells cur s fr)) (k : w.heap[b]? = some (.cells cur' t fr')) (hst : s ≠ t) : a ≠ b := by
  rintro rfl
  rw [h] at k
  injection k with k
  injection k with _ k
  exact hst k
theorem own_block {w : World} {B e size k g : Nat} {v : Value} {xs : List Value} (h : w.ownsRow B e size v k xs) (hg : v.ownBlock = some g) : ∃ cur, w.heap[g]? = some (.cells cur e (0, 0)) := by
  rcases h.2 with ⟨h0, _⟩ | ⟨g', cap, cur, e1, e2, e3, r⟩
  · rw [h0] at hg; cases hg
  · rw [e1] at hg; cases hg; exact ⟨cur, e3⟩
section
variable {B J m n : Nat} {w w1 : World} {f : Nat → Value} {sl bl : Value} {xs ys : List Value} {bs : List Bt}
theorem Core.keepBut (h : Core B w J f sl bl m n xs ys bs) (hk : ∀ b, b ≠ J → b < w.heap.size → w1.heap[b]? = w.heap[b]?) {f' : Nat → Value} (hr : w1.rowIs J 30 4 f') : Core B w1 J f' sl bl m n xs ys bs := by
  obtain ⟨c, hc, _⟩ := h.row
  have lt : ∀ (g : Nat) (o : Obj), w.heap[g]? = some o → g < w.heap.size := fun g o hg => (Array.getElem?_eq_some_iff.1 hg).1
  exact ⟨hr, own_keep h.o1 (fun g cur hg => hk g (cells_ne hg hc (by decide)) (lt _ _ hg)), own_keep h.o2 (fun g cur hg => hk g (cells_ne hg hc (by decide)) (lt _ _ hg)), fun p hp => (h.dat p hp).keep (fun b cur fr hg => hk b (cells_ne hg hc (by decide)) (lt _ _ hg))⟩
theorem Core.set (h : Core B w J f sl bl m n xs ys bs) (j : Nat) (v : Value) : Core B (w.setCell ⟨J, j, none⟩ v) J (fun k => if k = j then v else f k) sl bl m n xs ys bs :=
  h.keepBut (fun b hb _ => Go.Deep.blk_setCell_other _ _ _ _ hb) (h.row.set j v)
theorem Core.below (h : Core B w J f sl bl m n xs ys bs) (hb : Below w.heap.size w w1) : Core B w1 J f sl bl m n xs ys bs :=
  h.keepBut (fun b _ hl => hb.block b hl) (h.row.of_block (hb.block _ h.row.lt))
theorem Core.grow1 (h : Core B w J f sl bl m n xs ys bs) {sl' : Value} {m' : Nat} {xs' : List Value} (ho : w1.ownsRow B 53 2 sl' m' xs') (hg : w.grownBy w1 sl.ownBlock) : Core B w1 J f sl' bl m' n xs' ys bs := by
  obtain ⟨c, hc, hr⟩ := h.row
  have ne : ∀ (g : Nat) (cur : Array Value) (t : TypeId) (fr : Nat × Nat), w.heap[g]? = some (.cells cur t fr) → t ≠ 53 → w1.heap[g]? = w.heap[g]? := fun g cur t fr h1 ht =>
    hg.block g (Array.getElem?_eq_some_iff.1 h1).1 (fun e => by
      obtain ⟨cur', h2⟩ := own_block h.o1 e.symm
      exact cells_ne h1 h2 ht rfl)
  exact ⟨⟨c, (ne _ _ _ _ hc (by decide)).trans hc, hr⟩, ho, own_keep h.o2 (fun g cur h1 => ne _ _ _ _ h1 (by decide)), fun p hp => (h.dat p hp).keep (fun b cur fr h1 => ne _ _ _ _ h1 (by decide))⟩
theorem Core.grow2 (h : Core B w J f sl bl m n xs ys bs) {bl' : Value} {n' : Nat} {ys' : List Value} (ho : w1.ownsRow B 51 2 bl' n' ys') (hg : w.grownBy w1 bl.ownBlock) : Core B w1 J f sl bl' m n' xs ys' bs := by
  obtain ⟨c, hc, hr⟩ := h.row
  have ne : ∀ (g : Nat) (cur : Array Value) (t : TypeId) (fr : Nat × Nat), w.heap[g]? = some (.cells cur t fr) → t ≠ 51 → w1.heap[g]? = w.heap[g]? := fun g cur t fr h1 ht =>
    hg.block g (Array.getElem?_eq_some_iff.1 h1).1 (fun e => by
      obtain ⟨cur', h2⟩ := own_block h.o2 e.symm
      exact cells_ne h1 h2 ht rfl)
  exact ⟨⟨c, (ne _ _ _ _ hc (by decide)).trans hc, hr⟩, own_keep h.o1 (fun g cur h1 => ne _ _ _ _ h1 (by decide)), ho, fun p hp => (h.dat p hp).keep (fun b cur fr h1 => ne _ _ _ _ h1 (by decide))⟩
end
/-- The joiner at block J. -/
structure Jn (B : Nat) (w : World) (J : Nat) (ss : List (ByteArray × Nat)) (bs : List Bt) (L : Nat) (c : Int) : Prop where
  ex : ∃ sl bl, Core B w J (jrow sl bl L c) sl bl ss.length bs.length (cellsS ss) (cellsB bs) bs
  ge : B ≤ J
  fitS : ∀ p ∈ ss, p.2 + p.1.size ≤ L
  fitB : ∀ p ∈ bs, p.o + p.l ≤ L
  lL : L ≤ 2097152
  lS : ss.length ≤ 1048576
  lB : bs.length ≤ 1048576
theorem infoS : (Try.prog.info? 53).map (fun i => (i.zero, i.size, i.bytes)) = some (some (.agg #[.string ByteArray.empty, .int .u32 0]), 2, 24) := by kernel_rfl
theorem infoB : (Try.prog.info? 51).map (fun i => (i.zero, i.size, i.bytes)) = some (some (.agg #[.slice none 0 0, .int .u32 0]), 2, 32) := by kernel_rfl
theorem slice_form {w : World} {B e n k : Nat} {v : Value} {xs : List Value} (h : w.ownsRow B e n v k xs) : ∃ a c, v = .slice a k c := by
  rcases h.2 with ⟨e, h0⟩ | ⟨g, cap, cur, e, _⟩
  · exact ⟨none, 0, by rw [e, h0]⟩
  · exact ⟨_, _, e⟩
theorem step_append_own {P : Program} {ops : Array Oper} {o : Oper} {a : Act} {w : World} {K : Act → World → Prop} {Q : Exit → Act → World → Prop} {E : Prop} (hg : o.guard = none) (s x : Operand) (t : TypeId)
    (ho : o.op = .call { callee := .builtin .append, args := #[s, x], argTypes := #[t, t] })
    (base : Nat) (e : TypeId) (i : TypeInfo) (z : Value) (size bytes : Nat) (ht : P.underlying t = some (.slice e)) (hi : P.info? e = some i) (hz : i.zero = some z)
    (hsize : i.size = size) (hby : i.bytes = bytes) (hzs : z.cells.size = size) (hsz : 0 < size)
    (v : Value) (n : Nat) (xs : List Value) (hs : a.eval s = v) (hown : w.ownsRow base e size v n xs)
    (ad : Addr) (m c : Nat) (news : List Value) (hx : a.eval x = .slice (some ad) m c) (hl : news.length = m * size) (hnews : ∀ j u, news[j]? = some u → w.cell? (ad.add j) = some u) (h1 : ∀ u ∈ news, u.oneCell' = true)
    (h63 : n + m ≤ maxLen) (hbytes : (n + m) * bytes ≤ 140737488355328) (hbase : base ≤ w.heap.size)
    (h : ∀ v' w', w'.ownsRow base e size v' (n + m) (xs ++ news) → w.grownBy w' v.ownBlock → (v' = .slice none 0 0 ↔ v = .slice none 0 0 ∧ m = 0) → K (a.put o.dst v') w') :
    if Region.wanted o (yielded ops a.tmps) = true then Oper.wp P o a w K Q else E := by
  have hw : Region.wanted o (yielded ops a.tmps) = true := by simp [Region.wanted, hg]
  rw [if_pos hw]
  exact wp_append_own w s x t ho base e i z size bytes ht hi hz hsize hby hzs hsz v n xs hs hown ad m c news hx hl hnews h1 h63 hbytes hbase h
theorem two_new (wr : World) (u v : Value) (T : TypeId) (N : Nat) (hN : N = wr.heap.size) : ∀ j x, ([u, v] : List Value)[j]? = some x → (wr.alloc (.cells #[u, v] T)).cell? ((⟨N, 0, none⟩ : Addr).add j) = some x := fun j x hx => by
  subst hN
  rw [add_plain, Nat.zero_add, World.cell?_alloc_mark]
  match j, hx with
  | 0, hx => cases hx; rfl
  | 1, hx => cases hx; rfl
theorem append_S {B J m n : Nat} {w : World} {f : Nat → Value} {a : Option Addr} {c : Nat} {bl : Value} {xs ys : List Value} {bs : List Bt} {s : ByteArray} {L : Nat} (h : Core B w J f (.slice a m c) bl m n xs ys bs) :
    Hid (Core B (w.drew.alloc (.cells #[.string s, .int .u32 L] 53)) J f (.slice a m c) bl m n xs ys bs) :=
  Lib.hid (h.below ((Below.refl _ _).drew.alloc (by simp) _))
def lastV (l : List UInt8) (c : Int) : Int := match l.getLast? with
  | some b => (b.toNat : Int)
  | none => c
theorem lastV_str (s : ByteArray) (c : Int) (h : 0 < s.size) (h' : s.size - 1 < s.size) : lastV s.data.toList c = ((s[s.size - 1]'h').toNat : Int) := by
  unfold lastV
  have hl : s.data.toList.length = s.size := Array.length_toList
  have : s.data.toList.getLast? = some (s[s.size - 1]'h') := by
    rw [List.getLast?_eq_getElem?, hl, List.getElem?_eq_getElem (by omega)]
    rfl
  rw [this]
theorem Core.congr {B J m n : Nat} {w : World} {f g : Nat → Value} {sl bl : Value} {xs ys : List Value} {bs : List Bt} (h : Core B w J f sl bl m n xs ys bs) (e : ∀ i, i < 4 → f i = g i) : Core B w J g sl bl m n xs ys bs := ⟨h.row.congr e, h.o1, h.o2, h.dat⟩
theorem jn_S {B J : Nat} {ss : List (ByteArray × Nat)} {bs : List Bt} {L : Nat} {c c2 : Int} {w w' : World} {s : ByteArray} {f : Nat → Value} {sl bl : Value} (h : Jn B w J ss bs L c) (hC : Core B w' J f sl bl (ss.length + 1) bs.length (cellsS (ss ++ [(s, L)])) (cellsB bs) bs)
    (e : ∀ i, i < 4 → f i = jrow sl bl (L + s.size) c2 i) (hL : L + s.size ≤ 2097152) (hl : ss.length + 1 ≤ 1048576) : Jn B w' J (ss ++ [(s, L)]) bs (L + s.size) c2 := by
  have el : (ss ++ [(s, L)]).length = ss.length + 1 := by simp
  refine ⟨⟨sl, bl, by rw [el]; exact hC.congr e⟩, h.ge, fun p hp => ?_, fun p hp => Nat.le_trans (h.fitB p hp) (Nat.le_add_right _ _), hL, by rw [el]; exact hl, h.lB⟩
  rcases List.mem_append.1 hp with hp | hp
  · exact Nat.le_trans (h.fitS p hp) (Nat.le_add_right _ _)
  · simp at hp; subst hp; exact Nat.le_refl _
theorem jn_B {B J : Nat} {ss : List (ByteArray × Nat)} {bs : List Bt} {L : Nat} {c c2 : Int} {w w' : World} {x : Bt} {f : Nat → Value} {sl bl : Value} (h : Jn B w J ss bs L c) (hC : Core B w' J f sl bl ss.length (bs.length + 1) (cellsS ss) (cellsB (bs ++ [x])) bs) (hx : BytesAt w' x.a x.l x.d) (ho : x.o = L)
    (e : ∀ i, i < 4 → f i = jrow sl bl (L + x.l) c2 i) (hL : L + x.l ≤ 2097152) (hl : bs.length + 1 ≤ 1048576) : Jn B w' J ss (bs ++ [x]) (L + x.l) c2 := by
  have el : (bs ++ [x]).length = bs.length + 1 := by simp
  have hC2 := hC.congr e
  have hd : ∀ p ∈ bs ++ [x], BytesAt w' p.a p.l p.d := fun p hp => by
    rcases List.mem_append.1 hp with hp | hp
    · exact hC2.dat p hp
    · simp at hp; subst hp; exact hx
  refine ⟨⟨sl, bl, by rw [el]; exact ⟨hC2.row, hC2.o1, hC2.o2, hd⟩⟩, h.ge, fun p hp => Nat.le_trans (h.fitS p hp) (Nat.le_add_right _ _), fun p hp => ?_, hL, h.lS, by rw [el]; exact hl⟩
  · rcases List.mem_append.1 hp with hp | hp
    · exact Nat.le_trans (h.fitB p hp) (Nat.le_add_right _ _)
    · simp at hp; subst hp; rw [ho]; exact Nat.le_refl _
/-- Blocks of other types than ty, and other than J, are as they were. -/
def Kp (J : Nat) (ty : TypeId) (w w' : World) : Prop := ∀ (b : Nat) (cur : Array Value) (t : TypeId) (fr : Nat × Nat), w.heap[b]? = some (.cells cur t fr) → t ≠ ty → b ≠ J → w'.heap[b]? = w.heap[b]?
structure BK (B J : Nat) (ty : TypeId) (w w' : World) : Prop where
  bel : Below B w w'
  kp : Kp J ty w w'
section
variable {B J : Nat} {ty : TypeId} {w w1 w2 : World}
theorem BK.refl (B J : Nat) (ty : TypeId) (w : World) : BK B J ty w w := ⟨Below.refl _ _, fun _ _ _ _ _ _ _ => rfl⟩
theorem BK.trans (h : BK B J ty w w1) (k : BK B J ty w1 w2) : BK B J ty w w2 :=
  ⟨h.bel.trans k.bel, fun b cur t fr hb ht hj => (k.kp b cur t fr ((h.kp b cur t fr hb ht hj).trans hb) ht hj).trans (h.kp b cur t fr hb ht hj)⟩
theorem BK.drew (h : BK B J ty w w1) : BK B J ty w w1.drew := ⟨h.bel.drew, h.kp⟩
theorem BK.alloc (h : BK B J ty w w1) (hB : B ≤ w1.heap.size) (o : Obj) : BK B J ty w (w1.alloc o) :=
  ⟨h.bel.alloc hB o, fun b cur t fr hb ht hj => (Go.Deep.blk_alloc_lt w1 o b (Array.getElem?_eq_some_iff.1 ((h.kp b cur t fr hb ht hj).trans hb)).1).trans (h.kp b cur t fr hb ht hj)⟩
theorem BK.setJ (h : BK B J ty w w1) (hJ : B ≤ J) (j : Nat) (v : Value) : BK B J ty w (w1.setCell ⟨J, j, none⟩ v) :=
  ⟨h.bel.setCell (p := ⟨J, j, none⟩) hJ v, fun b cur t fr hb ht hj => (Go.Deep.blk_setCell_other _ _ _ _ hj).trans (h.kp b cur t fr hb ht hj)⟩
theorem BK.grown {v : Value} {size n : Nat} {xs : List Value} (h : BK B J ty w w1) (hg : w1.grownBy w2 v.ownBlock) (hB : B ≤ w1.heap.size) (ho : w1.ownsRow B ty size v n xs) : BK B J ty w w2 :=
  ⟨h.bel.grown hg hB (fun k hk => (ho.lt k hk).1), fun b cur t fr hb ht hj => by
    have e := h.kp b cur t fr hb ht hj
    have hb1 := e.trans hb
    exact (hg.block b (Array.getElem?_eq_some_iff.1 hb1).1 (fun e2 => by
      obtain ⟨cur', h2⟩ := own_block ho e2.symm
      exact cells_ne hb1 h2 ht rfl)).trans e⟩
end
theorem cell_set {w : World} {J i j : Nat} {v u : Value} (h : w.cell? ⟨J, i, none⟩ = some u) (hij : i ≠ j := by decide) : (w.setCell ⟨J, j, none⟩ v).cell? ⟨J, i, none⟩ = some u :=
  (World.cell?_setCell_other w _ _ v (by intro e; injection e with _ e2 _; exact hij e2.symm)).trans h
set_option maxHeartbeats 4000000 in
theorem addS1 (B J : Nat) (ss : List (ByteArray × Nat)) (bs : List Bt) (L : Nat) (c : Int) (w : World) (s : ByteArray) (h : Jn B w J ss bs L c) (hs : 0 < s.size) (hL : L + s.size ≤ 2097152) (hl : ss.length + 1 ≤ 1048576) :
    Calls Try.prog 10 #[.pointer (some ⟨J, 0, none⟩), .string s] w fun e w' => e = .returned (.tuple #[]) ∧ Jn B w' J (ss ++ [(s, L)]) bs (L + s.size) (lastV s.data.toList c) ∧ BK B J 53 w w' ∧ Hid (w'.cell? ⟨J, 1, none⟩ = w.cell? ⟨J, 1, none⟩) := by
  obtain ⟨i0, hi, hz0, hz1, hz2⟩ := info_parts infoS
  obtain ⟨sl, bl, hC⟩ := h.ex
  obtain ⟨a, cc, rfl⟩ := slice_form hC.o1
  have hcq := Lib.hid (hC.row.cell (i := 1) (by omega))
  have c0 : w.cell? ⟨J, 0, none⟩ = some (.slice a ss.length cc) := hC.row.cell (i := 0) (by omega)
  have c2 : w.cell? ⟨J, 2, none⟩ = some (.int .u32 L) := hC.row.cell (i := 2) (by omega)
  have c3 : w.cell? ⟨J, 3, none⟩ = some (.int .u8 c) := hC.row.cell (i := 3) (by omega)
  have f3 := hC.row.frozen 3
  have hmax : s.size ≤ 2097152 := by omega
  have hlast := Lib.hid (lastV_str s c hs (by omega))
  go_enter Try.func10, Try.ntmps10
  go_wp2_with fail
  rw [← hlast.out]
  have hC2 := hC.set 3 (.int .u8 (lastV s.data.toList c))
  have bel2 : BK B J 53 w (w.setCell ⟨J, 3, none⟩ (.int .u8 (lastV s.data.toList c))) := (BK.refl _ _ _ _).setJ h.ge 3 _
  clear c0 c2 c3 f3 hC
  generalize (w.setCell ⟨J, 3, none⟩ (.int .u8 (lastV s.data.toList c))) = wz at hC2 bel2 ⊢
  have c0 : wz.cell? ⟨J, 0, none⟩ = some (.slice a ss.length cc) := hC2.row.cell (i := 0) (by omega)
  have c2 : wz.cell? ⟨J, 2, none⟩ = some (.int .u32 L) := hC2.row.cell (i := 2) (by omega)
  have hJl : J < wz.heap.size := hC2.row.lt
  have hCA := append_S (s := s) (L := L) hC2
  have hnews := Lib.hid (two_new wz.drew (.string s) (.int .u32 L) 53 wz.heap.size rfl)
  have hone : Hid (∀ u ∈ ([.string s, .int .u32 L] : List Value), u.oneCell' = true) := Lib.hid (fun u hu => by simp at hu; rcases hu with rfl | rfl <;> rfl)
  have hk1 : ss.length + 1 ≤ maxLen := by simp only [maxLen]; omega
  have hk2 : (ss.length + 1) * 24 ≤ 140737488355328 := by omega
  have hk3 : Hid (B ≤ (wz.drew.alloc (.cells #[.string s, .int .u32 L] 53)).heap.size) := Lib.hid (by have := h.ge; simp; omega)
  have hbA : Hid (BK B J 53 w (wz.drew.alloc (.cells #[.string s, .int .u32 L] 53))) := Lib.hid (bel2.drew.alloc (by have := h.ge; simp; omega) _)
  replace hC2 := Lib.hid hC2
  clear bel2
  go_region_law ((refine step_append_own rfl (.tmp 19) (.tmp 26) _ rfl B 53 i0 (.agg #[.string ByteArray.empty, .int .u32 0]) 2 24 Try.underlying26 hi hz0 hz1 hz2 rfl (by omega) (.slice a ss.length cc) ss.length (cellsS ss) rfl hCA.out.o1 ⟨wz.heap.size, 0, none⟩ 1 1 [.string s, .int .u32 L] rfl rfl hnews.out hone.out hk1 hk2 hk3.out ?_; intro v' w1 ho hg hv; rw [cellsS_snoc ss (s, L)] at ho; obtain ⟨a', c', rfl⟩ := slice_form ho; have hC3 := hCA.out.grow1 ho hg; have d0 := hC3.row.cell (i := 0) (by omega); have g0 := hC3.row.frozen 0; have hbW := Lib.hid (hbA.out.grown hg hk3.out hCA.out.o1); replace hC3 := Lib.hid hC3; clear ho hv hg))
  all_goals
    have hC4 := hC3.out.set 0 (.slice a' (ss.length + 1) c')
    have hbX := Lib.hid (hbW.out.setJ h.ge 0 (.slice a' (ss.length + 1) c'))
    clear d0 g0 c0 c2 hJl hC2 hC3 hCA hnews hone hk1 hk2 hk3 hbA hbW
    generalize (w1.setCell ⟨J, 0, none⟩ (.slice a' (ss.length + 1) c')) = w2 at hC4 hbX ⊢
    have c2 : w2.cell? ⟨J, 2, none⟩ = some (.int .u32 L) := hC4.row.cell (i := 2) (by omega)
    have g2 := hC4.row.frozen 2
    have j0 : IntKind.u32.wrap (s.size : Int) = s.size := by simp [IntKind.wrap, IntKind.bits, IntKind.signed]; omega
    have j1 : IntKind.u32.wrap ((L : Int) + s.size) = (L : Int) + s.size := by simp [IntKind.wrap, IntKind.bits, IntKind.signed]; omega
    go_wp2_with fail
    go_end0
    exact ⟨rfl, jn_S h (hC4.set 2 (.int .u32 ((L : Int) + s.size))) (fun i hi => by
      match i, hi with
      | 0, _ | 1, _ | 2, _ | 3, _ => first | rfl | (show Value.int .u32 ((L : Int) + s.size) = .int .u32 ((L + s.size : Nat) : Int); rw [Int.natCast_add])) hL hl, hbX.out.setJ h.ge 2 _, Lib.hid ((cell_set (hC4.row.cell (i := 1) (by omega))).trans hcq.out.symm)⟩
set_option maxHeartbeats 4000000 in
theorem addS0 (B J : Nat) (ss : List (ByteArray × Nat)) (bs : List Bt) (L : Nat) (c : Int) (w : World) (s : ByteArray) (h : Jn B w J ss bs L c) (hs : s.size = 0) (hL : L + s.size ≤ 2097152) (hl : ss.length + 1 ≤ 1048576) :
    Calls Try.prog 10 #[.pointer (some ⟨J, 0, none⟩), .string s] w fun e w' => e = .returned (.tuple #[]) ∧ Jn B w' J (ss ++ [(s, L)]) bs (L + s.size) c ∧ BK B J 53 w w' ∧ Hid (w'.cell? ⟨J, 1, none⟩ = w.cell? ⟨J, 1, none⟩) := by
  obtain ⟨i0, hi, hz0, hz1, hz2⟩ := info_parts infoS
  obtain ⟨sl, bl, hC⟩ := h.ex
  obtain ⟨a, cc, rfl⟩ := slice_form hC.o1
  have hcq := Lib.hid (hC.row.cell (i := 1) (by omega))
  have c0 : w.cell? ⟨J, 0, none⟩ = some (.slice a ss.length cc) := hC.row.cell (i := 0) (by omega)
  have c2 : w.cell? ⟨J, 2, none⟩ = some (.int .u32 L) := hC.row.cell (i := 2) (by omega)
  have hs1 : ¬ 0 < s.size := by omega
  have hJl : J < w.heap.size := hC.row.lt
  go_enter Try.func10, Try.ntmps10
  go_wp2_with fail
  have hC2 := hC
  have bel2 : BK B J 53 w w := BK.refl _ _ _ _
  clear hC
  have hCA := append_S (s := s) (L := L) hC2
  have hnews := Lib.hid (two_new w.drew (.string s) (.int .u32 L) 53 w.heap.size rfl)
  have hone : Hid (∀ u ∈ ([.string s, .int .u32 L] : List Value), u.oneCell' = true) := Lib.hid (fun u hu => by simp at hu; rcases hu with rfl | rfl <;> rfl)
  have hk1 : ss.length + 1 ≤ maxLen := by simp only [maxLen]; omega
  have hk2 : (ss.length + 1) * 24 ≤ 140737488355328 := by omega
  have hk3 : Hid (B ≤ (w.drew.alloc (.cells #[.string s, .int .u32 L] 53)).heap.size) := Lib.hid (by have := h.ge; simp; omega)
  have hbA : Hid (BK B J 53 w (w.drew.alloc (.cells #[.string s, .int .u32 L] 53))) := Lib.hid (bel2.drew.alloc (by have := h.ge; simp; omega) _)
  replace hC2 := Lib.hid hC2
  clear bel2
  go_region_law ((refine step_append_own rfl (.tmp 19) (.tmp 26) _ rfl B 53 i0 (.agg #[.string ByteArray.empty, .int .u32 0]) 2 24 Try.underlying26 hi hz0 hz1 hz2 rfl (by omega) (.slice a ss.length cc) ss.length (cellsS ss) rfl hCA.out.o1 ⟨w.heap.size, 0, none⟩ 1 1 [.string s, .int .u32 L] rfl rfl hnews.out hone.out hk1 hk2 hk3.out ?_; intro v' w1 ho hg hv; rw [cellsS_snoc ss (s, L)] at ho; obtain ⟨a', c', rfl⟩ := slice_form ho; have hC3 := hCA.out.grow1 ho hg; have d0 := hC3.row.cell (i := 0) (by omega); have g0 := hC3.row.frozen 0; have hbW := Lib.hid (hbA.out.grown hg hk3.out hCA.out.o1); replace hC3 := Lib.hid hC3; clear ho hv hg))
  all_goals
    have hC4 := hC3.out.set 0 (.slice a' (ss.length + 1) c')
    have hbX := Lib.hid (hbW.out.setJ h.ge 0 (.slice a' (ss.length + 1) c'))
    clear d0 g0 c0 c2 hJl hC2 hC3 hCA hnews hone hk1 hk2 hk3 hbA hbW
    generalize (w1.setCell ⟨J, 0, none⟩ (.slice a' (ss.length + 1) c')) = w2 at hC4 hbX ⊢
    have c2 : w2.cell? ⟨J, 2, none⟩ = some (.int .u32 L) := hC4.row.cell (i := 2) (by omega)
    have g2 := hC4.row.frozen 2
    replace hs1 := Lib.hid hs1
    have j0 : IntKind.u32.wrap (s.size : Int) = s.size := by simp [IntKind.wrap, IntKind.bits, IntKind.signed]; omega
    have j1 : IntKind.u32.wrap ((L : Int) + s.size) = (L : Int) + s.size := by simp [IntKind.wrap, IntKind.bits, IntKind.signed]; omega
    go_wp2_with fail
    go_end0
    exact ⟨rfl, jn_S h (hC4.set 2 (.int .u32 (L : Int))) (fun i hi => by
      match i, hi with
      | 0, _ | 1, _ | 2, _ | 3, _ => first | rfl | (show Value.int .u32 (L : Int) = .int .u32 ((L + s.size : Nat) : Int); rw [hs, Nat.add_zero])) hL hl, hbX.out.setJ h.ge 2 _, Lib.hid ((cell_set (hC4.row.cell (i := 1) (by omega))).trans hcq.out.symm)⟩
end Go.Proofs.Ytolfajalkbnnoaa.Join
