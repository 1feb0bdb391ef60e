/-
  storeNameInRef and loadNameFromRef: what they leave and give. Condition: at most 2^20 bytes and 2^16 names.
-/
import Derived.Test.YtfgcphcofphabaaName
namespace Go.Proofs.Ytfgcphcofphabaa.Name
open Go.RowKit Go.ChangeShapes Go.WideShapes Go.ChangeAt Go.Proofs.Ytfgcphcofphabaa.Ints

theorem infoStr : (Try.prog.info? 9).map (fun i => (i.zero, i.size, i.bytes)) = some (some (.string ByteArray.empty), 1, 16) := by kernel_rfl
theorem cells_ne {w : World} {a b : Nat} {cur cur' : Array Value} {s t : TypeId} {fr fr' : Nat × Nat} (h : w.heap[a]? = some (.cells cur s fr)) (k : w.heap[b]? = some (.cells cur' t fr')) (hst : s ≠ t) : a ≠ b := by
  rintro rfl
  rw [h] at k
  injection k with k
  injection k with _ k
  exact hst k
theorem own_block {w : World} {B e size k g : Nat} {v : Value} {xs : List Value} (h : w.ownsRow B e size v k xs) (hg : v.ownBlock = some g) : ∃ cur, w.heap[g]? = some (.cells cur e (0, 0)) := by
  rcases h.2 with ⟨h0, _⟩ | ⟨g', cap, cur, e1, e2, e3, r⟩
  · rw [h0] at hg; cases hg
  · rw [e1] at hg; cases hg; exact ⟨cur, e3⟩
theorem own_keep {w w' : World} {B e size k : Nat} {v : Value} {xs : List Value} (h : w.ownsRow B e size v k xs) (hk : ∀ (g : Nat) (cur : Array Value), w.heap[g]? = some (.cells cur e (0, 0)) → w'.heap[g]? = w.heap[g]?) : w'.ownsRow B e size v k xs := by
  rcases h.2 with h0 | ⟨g, cap, cur, e1, e2, e3, r⟩
  · exact ⟨h.1, .inl h0⟩
  · exact ⟨h.1, .inr ⟨g, cap, cur, e1, e2, (hk g cur e3).trans e3, r⟩⟩
theorem slice_form {w : World} {B e n k : Nat} {v : Value} {xs : List Value} (h : w.ownsRow B e n v k xs) : ∃ a c, v = .slice a k c := by
  rcases h.2 with ⟨e, h0⟩ | ⟨g, cap, cur, e, _⟩
  · exact ⟨none, 0, by rw [e, h0]⟩
  · exact ⟨_, _, e⟩
theorem step_append_own {P : Program} {ops : Array Oper} {o : Oper} {a : Act} {w : World} {K : Act → World → Prop} {Q : Exit → Act → World → Prop} {E : Prop} (hg : o.guard = none) (s x : Operand) (t : TypeId)
    (ho : o.op = .call { callee := .builtin .append, args := #[s, x], argTypes := #[t, t] })
    (base : Nat) (e : TypeId) (i : TypeInfo) (z : Value) (size bytes : Nat) (ht : P.underlying t = some (.slice e)) (hi : P.info? e = some i) (hz : i.zero = some z)
    (hsize : i.size = size) (hby : i.bytes = bytes) (hzs : z.cells.size = size) (hsz : 0 < size)
    (v : Value) (n : Nat) (xs : List Value) (hs : a.eval s = v) (hown : w.ownsRow base e size v n xs)
    (ad : Addr) (m c : Nat) (news : List Value) (hx : a.eval x = .slice (some ad) m c) (hl : news.length = m * size) (hnews : ∀ j u, news[j]? = some u → w.cell? (ad.add j) = some u) (h1 : ∀ u ∈ news, u.oneCell' = true)
    (h63 : n + m ≤ maxLen) (hbytes : (n + m) * bytes ≤ 140737488355328) (hbase : base ≤ w.heap.size)
    (h : ∀ v' w', w'.ownsRow base e size v' (n + m) (xs ++ news) → w.grownBy w' v.ownBlock → (v' = .slice none 0 0 ↔ v = .slice none 0 0 ∧ m = 0) → K (a.put o.dst v') w') :
    if Region.wanted o (yielded ops a.tmps) = true then Oper.wp P o a w K Q else E := by
  have hw : Region.wanted o (yielded ops a.tmps) = true := by simp [Region.wanted, hg]
  rw [if_pos hw]
  exact wp_append_own w s x t ho base e i z size bytes ht hi hz hsize hby hzs hsz v n xs hs hown ad m c news hx hl hnews h1 h63 hbytes hbase h
theorem one_newN (wr : World) (v : Value) (T N : Nat) (hN : N = wr.heap.size) : ∀ j u, ([v] : List Value)[j]? = some u → (wr.alloc (.cells #[v] T)).cell? ((⟨N, 0, none⟩ : Addr).add j) = some u := fun j u hu => by
  subst hN
  rw [add_plain, Nat.zero_add, World.cell?_alloc_mark]
  match j, hu with
  | 0, hu => cases hu; rfl
theorem Prs.below {B : Nat} {w w' : World} {P n : Nat} {s : ByteArray} (h : Prs B w P s n) (hb : Below w.heap.size w w') : Prs B w' P s n := by
  obtain ⟨F, v, xs, h1, h2, h3, h4, h5⟩ := h
  exact ⟨F, v, xs, h1, h2.of_block (hb.block _ h2.lt), h3, h4, own_keep h5 (fun g cur hg => hb.block g (Array.getElem?_eq_some_iff.1 hg).1)⟩
def Gives (v : Value) (w : World) (e : Ending) (w' : World) : Prop := e = .returned v ∧ Below w.heap.size w w'
theorem valid0 (w : World) : Calls Try.prog 22 #[.agg #[.int .u32 0]] w (Gives (.bool false) w) := by
  go_enter Try.func22, Try.ntmps22
  go_wp2_with fail
  go_ret
  exact ⟨rfl, (Below.refl _ _).alloc (Nat.le_refl _) _⟩
theorem valid1 (x : Int) (h : 0 < x) (w : World) : Calls Try.prog 22 #[.agg #[.int .u32 x]] w (Gives (.bool true) w) := by
  have h1 : (x == 0) = false := by simp; omega
  have h2 : (x != 0) = true := by simp; omega
  go_enter Try.func22, Try.ntmps22
  go_wp2_with fail
  go_ret
  exact ⟨rfl, (Below.refl _ _).alloc (Nat.le_refl _) _⟩
theorem flip32 (x : Int) (h0 : 0 ≤ x) (h1 : x ≤ 4294967295) : bits BinOp.xor IntKind.u32 IntKind.u32.max x = 4294967295 - x := by
  show IntKind.u32.wrap (((BitVec.ofInt 32 4294967295 ^^^ BitVec.ofInt 32 x).toNat : Nat) : Int) = 4294967295 - x
  have e1 : BitVec.ofInt 32 4294967295 = BitVec.allOnes 32 := by decide
  have e2 : (BitVec.ofInt 32 x).toNat = x.toNat := by rw [BitVec.toNat_ofInt]; omega
  rw [e1, BitVec.allOnes_xor, BitVec.toNat_not, e2]
  simp [IntKind.wrap, IntKind.bits, IntKind.signed]
  omega
theorem makeIdx (x : Int) (h0 : 0 ≤ x) (h1 : x ≤ 1048576) (w : World) : Calls Try.prog 13 #[.int .u32 x] w (Gives (.agg #[.int .u32 (4294967295 - x)]) w) := by
  have hx := flip32 x h0 (by omega)
  go_enter Try.func13, Try.ntmps13
  go_wp2_with fail
  exact bodyPost_ret (v := .agg #[.int .u32 (4294967295 - x)]) (by simp [results, Try.results13, go_sem]) rfl ⟨rfl, (Below.refl _ _).alloc (Nat.le_refl _) _⟩
theorem getIdx (x : Int) (h0 : 0 ≤ x) (h1 : x ≤ 1048576) (w : World) : Calls Try.prog 23 #[.agg #[.int .u32 (4294967295 - x)]] w (Gives (.int .u32 x) w) := by
  have hx := flip32 (4294967295 - x) (by omega) (by omega)
  rw [show (4294967295 : Int) - (4294967295 - x) = x by omega] at hx
  go_enter Try.func23, Try.ntmps23
  go_wp2_with fail
  all_goals
    first
    | (go_ret; exact ⟨rfl, (Below.refl _ _).alloc (Nat.le_refl _) _⟩)
    | (rename_i h; exact absurd h (by decide))
/-- Blocks of other types than string, and other than P, are as they were. -/
def Kp (P : Nat) (w w' : World) : Prop := ∀ (b : Nat) (cur : Array Value) (t : TypeId) (fr : Nat × Nat), w.heap[b]? = some (.cells cur t fr) → t ≠ 9 → b ≠ P → w'.heap[b]? = w.heap[b]?
def Stored (B P n : Nat) (s : ByteArray) (w : World) (e : Ending) (w' : World) : Prop := (∃ x y, e = .returned (.agg #[.int .u32 x, .int .u32 y])) ∧ Prs B w' P s (n + 1) ∧ Below B w w' ∧ Kp P w w'
set_option maxRecDepth 100000 in
set_option maxHeartbeats 4000000 in
theorem storeA (B P n : Nat) (s nm : ByteArray) (w : World) (h : Prs B w P s n) (hn : n ≤ 65536) :
    Calls Try.prog 12 #[.pointer (some ⟨P, 0, none⟩), .agg #[.string nm, .int .u32 0]] w (Stored B P n s w) := by
  obtain ⟨i0, hi, hz0, hz1, hz2⟩ := info_parts infoStr
  obtain ⟨F, v, xs, hBP, hR, h60, h103, ho⟩ := h
  obtain ⟨a, cc, rfl⟩ := slice_form ho
  have c103 : w.cell? ⟨P, 103, none⟩ = some (.slice a n cc) := by rw [← h103]; exact hR.cell (by omega)
  have hPl := hR.lt
  have hf := hR.frozen 103
  replace h60 := Lib.hid h60
  replace h103 := Lib.hid h103
  go_enter Try.func12, Try.ntmps12
  go_wp2_with fail
  refine (valid0 _).mono ?_
  rintro e w1 ⟨rfl, hb1⟩
  have hbw : Below w.heap.size w w1 := (((Below.refl _ _).alloc (Nat.le_refl _) _).alloc (by simp) _).trans (hb1.mono (by simp; omega))
  have n0 : w1.cell? ⟨w.heap.size, 0, none⟩ = some (.string nm) := by
    rw [hb1.cell (by show w.heap.size < _; simp; omega), World.cell?_alloc_lt _ _ _ (by show w.heap.size < _; simp), World.cell?_alloc_mark]
    rfl
  have r0 : w1.rowIs (w.heap.size + 1) 30 2 (fun _ => .int .u32 0) := by
    have h0 := World.rowIs_alloc (w.alloc (.cells #[.string nm, .int .u32 0] 147)) #[.int .u32 0, .int .u32 0] 30 (fun _ => .int .u32 0) (fun i hi => by
      match i, hi with
      | 0, _ | 1, _ => rfl)
    have h1 := h0.of_block (w' := w1) (hb1.block _ (by simp))
    simpa using h1
  have hR1 := hR.of_block (w' := w1) (hbw.block _ hPl)
  have ho1 := own_keep (w' := w1) ho (fun g cur hg => hbw.block g (Array.getElem?_eq_some_iff.1 hg).1)
  have hz := hbw.size
  have hz1' : w.heap.size + 1 < w1.heap.size := r0.lt
  clear hR ho hf hb1
  have hNR : w.heap.size ≤ w.heap.size + 1 := by omega
  generalize w.heap.size + 1 = R at *
  generalize hN : w.heap.size = N at *
  replace hN := Lib.hid hN
  clear c103
  have c103 : w1.cell? ⟨P, 103, none⟩ = some (.slice a n cc) := by rw [← h103.out]; exact hR1.cell (by omega)
  have hPl1 : P < w1.heap.size := hR1.lt
  go_wp2_with fail
  have hRf : (w1.alloc (.cells #[.int .u32 2147483648, .int .u32 n] 30)).rowIs w1.heap.size 30 2 (fun j => if j = 0 then .int .u32 2147483648 else .int .u32 n) := World.rowIs_alloc w1 #[.int .u32 2147483648, .int .u32 n] 30 (fun j => if j = 0 then .int .u32 2147483648 else .int .u32 n) (fun i hi => by
    match i, hi with
    | 0, _ | 1, _ => rfl)
  have hb2 : Below w1.heap.size w1 (w1.alloc (.cells #[.int .u32 2147483648, .int .u32 n] 30)) := (Below.refl _ _).alloc (Nat.le_refl _) _
  generalize (w1.alloc (.cells #[.int .u32 2147483648, .int .u32 n] 30)) = w2 at hRf hb2 ⊢
  have hR2 := hR1.of_block (w' := w2) (hb2.block _ hR1.lt)
  have r2 := r0.of_block (w' := w2) (hb2.block _ r0.lt)
  have ho2 := own_keep (w' := w2) ho1 (fun g cur hg => hb2.block g (Array.getElem?_eq_some_iff.1 hg).1)
  have n2 : w2.cell? ⟨N, 0, none⟩ = some (.string nm) := (hb2.cell (p := ⟨N, 0, none⟩) (lt_of_cell n0)).trans n0
  have hbw2 : Below N w w2 := hbw.trans (hb2.mono hz)
  clear hR1 r0 ho1 n0 c103 hPl1
  generalize w1.heap.size = f at *
  have c103 : w2.cell? ⟨P, 103, none⟩ = some (.slice a n cc) := by rw [← h103.out]; exact hR2.cell (by omega)
  have hP2 := hR2.lt
  have hN2 : N < w2.heap.size := lt_of_cell n2
  have hkeep : Hid (∀ (w3 : World), ((w2.drew.alloc (.cells #[.string nm] 9)).grownBy w3 (Value.ownBlock (.slice a n cc))) → ∀ (b : Nat) (cur : Array Value) (t : TypeId) (fr : Nat × Nat), w2.heap[b]? = some (.cells cur t fr) → t ≠ 9 → w3.heap[b]? = w2.heap[b]?) := Lib.hid (fun w3 hg b cur t fr hb ht => by
    have hl : b < w2.heap.size := (Array.getElem?_eq_some_iff.1 hb).1
    refine (hg.block b (by simp; omega) (fun e => ?_)).trans (Go.Deep.blk_alloc_lt w2.drew _ b hl)
    obtain ⟨cur', h2⟩ := own_block ho2 e.symm
    exact cells_ne hb h2 ht rfl)
  have hown : Hid ((w2.drew.alloc (.cells #[.string nm] 9)).ownsRow B 9 1 (.slice a n cc) n xs) := Lib.hid (own_keep ho2 (fun g cur hg => Go.Deep.blk_alloc_lt w2.drew _ g (Array.getElem?_eq_some_iff.1 hg).1))
  have hBN : Hid (B ≤ N) := Lib.hid (by omega)
  have hnews := Lib.hid (one_newN w2.drew (.string nm) 9 w2.heap.size rfl)
  have hone : Hid (∀ u ∈ ([.string nm] : List Value), u.oneCell' = true) := Lib.hid (fun u hu => by simp at hu; subst hu; rfl)
  have hk1 : n + 1 ≤ maxLen := by simp only [maxLen]; omega
  have hk2 : (n + 1) * 16 ≤ 140737488355328 := by omega
  have hbA : Hid (Below N w (w2.drew.alloc (.cells #[.string nm] 9))) := Lib.hid (hbw2.drew.alloc (by simp; omega) _)
  have hk3 : Hid (B ≤ (w2.drew.alloc (.cells #[.string nm] 9)).heap.size) := Lib.hid (by simp; omega)
  replace hR2 := Lib.hid hR2
  replace r2 := Lib.hid r2
  replace hRf := Lib.hid hRf
  replace ho2 := Lib.hid ho2
  have hK2 : Hid (∀ b, b < N → w2.heap[b]? = w.heap[b]?) := Lib.hid (fun b hb => hbw2.block b hb)
  clear hbw hb2 hbw2
  go_region_law ((refine step_append_own rfl (.tmp 29) (.tmp 32) _ rfl B 9 i0 (.string ByteArray.empty) 1 16 Try.underlying23 hi hz0 hz1 hz2 rfl (by omega) (.slice a n cc) n xs rfl hown.out ⟨w2.heap.size, 0, none⟩ 1 1 [.string nm] rfl rfl hnews.out hone.out hk1 hk2 hk3.out ?_; intro v' w3 ho hg hv; obtain ⟨a', c', rfl⟩ := slice_form ho; have hR3 := Lib.hid (hR2.out.of_block (w' := w3) (by obtain ⟨c, hc, _⟩ := hR2.out; exact hkeep.out w3 hg _ _ _ _ hc (by decide))); have r3 := Lib.hid (r2.out.of_block (w' := w3) (by obtain ⟨c, hc, _⟩ := r2.out; exact hkeep.out w3 hg _ _ _ _ hc (by decide))); have hRf3 := Lib.hid (hRf.out.of_block (w' := w3) (by obtain ⟨c, hc, _⟩ := hRf.out; exact hkeep.out w3 hg _ _ _ _ hc (by decide))); have d0 := hR3.out.cell (i := 103) (by omega); have g0 := hR3.out.frozen 103; have hb3 := Lib.hid (Below.grown (hbA.out.mono hBN.out) hg hk3.out (fun k hk => (hown.out.lt k hk).1)); have ho3 := Lib.hid ho; have hK3 := Lib.hid (hkeep.out w3 hg); clear ho hv hg))
  all_goals
    have hne : Hid (R ≠ P ∧ f ≠ P ∧ f ≠ R) := Lib.hid (by
      obtain ⟨c1, e1, _⟩ := hR2.out
      obtain ⟨c2, e2, _⟩ := r2.out
      obtain ⟨c3, e3, _⟩ := hRf.out
      exact ⟨cells_ne e2 e1 (by decide), cells_ne e3 e1 (by decide), by omega⟩)
    have hR4 := Lib.hid (hR3.out.set 103 (.slice a' (n + 1) c'))
    have r4 := Lib.hid (r3.out.of_block (w' := w3.setCell ⟨P, 103, none⟩ (.slice a' (n + 1) c')) (Go.Deep.blk_setCell_other _ _ _ _ hne.out.1))
    have hRf4 := Lib.hid (hRf3.out.of_block (w' := w3.setCell ⟨P, 103, none⟩ (.slice a' (n + 1) c')) (Go.Deep.blk_setCell_other _ _ _ _ hne.out.2.1))
    have ho4 := Lib.hid (own_keep (w' := w3.setCell ⟨P, 103, none⟩ (.slice a' (n + 1) c')) ho3.out (fun g cur hg => Go.Deep.blk_setCell_other _ _ _ _ (by obtain ⟨c1, e1, _⟩ := hR3.out; exact cells_ne hg e1 (by decide))))
    have hb4 := Lib.hid (hb3.out.setCell (p := ⟨P, 103, none⟩) hBP (.slice a' (n + 1) c'))
    clear d0 g0 n2 c103 hkeep hown hnews hone hk1 hk2 hk3 hbA
    generalize hw4 : (w3.setCell ⟨P, 103, none⟩ (.slice a' (n + 1) c')) = w4 at hR4 r4 hRf4 ho4 hb4 ⊢
    replace hw4 := Lib.hid hw4.symm
    have q0 : w4.cell? ⟨f, 0, none⟩ = some (.int .u32 2147483648) := hRf4.out.cell (i := 0) (by omega)
    have q1 : w4.cell? ⟨f, 1, none⟩ = some (.int .u32 n) := hRf4.out.cell (i := 1) (by omega)
    have t0 := r4.out.cell (i := 0) (by omega)
    have t1 := r4.out.cell (i := 1) (by omega)
    have u0 := r4.out.frozen 0
    have u1 := r4.out.frozen 1
    have hBR : Hid (B ≤ R) := Lib.hid (by have := hBN.out; have := hN.out; omega)
    go_wp2_with fail
    have hR6 := (hR4.out.of_block (w' := w4.setCell ⟨R, 0, none⟩ (.int .u32 2147483648)) (Go.Deep.blk_setCell_other _ _ _ _ hne.out.1.symm)).of_block (w' := (w4.setCell ⟨R, 0, none⟩ (.int .u32 2147483648)).setCell ⟨R, 1, none⟩ (.int .u32 n)) (Go.Deep.blk_setCell_other _ _ _ _ hne.out.1.symm)
    have hneS : ∀ (g : Nat) (cur : Array Value), w4.heap[g]? = some (.cells cur 9 (0, 0)) → g ≠ R := fun g cur hg => by obtain ⟨c1, e1, _⟩ := r4.out; exact cells_ne hg e1 (by decide)
    have ho6 := own_keep (w' := (w4.setCell ⟨R, 0, none⟩ (.int .u32 2147483648)).setCell ⟨R, 1, none⟩ (.int .u32 n)) ho4.out (fun g cur hg => (Go.Deep.blk_setCell_other _ _ _ _ (hneS g cur hg)).trans (Go.Deep.blk_setCell_other _ _ _ _ (hneS g cur hg)))
    have z := ((r4.out.set 0 (.int .u32 2147483648)).set 1 (.int .u32 n))
    have z0 : ((w4.setCell ⟨R, 0, none⟩ (.int .u32 2147483648)).setCell ⟨R, 1, none⟩ (.int .u32 n)).cell? ⟨R, 0, none⟩ = some (.int .u32 2147483648) := z.cell (i := 0) (by omega)
    have z1 : ((w4.setCell ⟨R, 0, none⟩ (.int .u32 2147483648)).setCell ⟨R, 1, none⟩ (.int .u32 n)).cell? ⟨R, 1, none⟩ = some (.int .u32 n) := z.cell (i := 1) (by omega)
    have hKf : Hid (Kp P w ((w4.setCell ⟨R, 0, none⟩ (.int .u32 2147483648)).setCell ⟨R, 1, none⟩ (.int .u32 n))) := Lib.hid (fun b cur t fr hb ht hp => by
      have hbl : b < N := by rw [← hN.out]; exact (Array.getElem?_eq_some_iff.1 hb).1
      have e1 := hK2.out b hbl
      have e2 := hK3.out b cur t fr (e1.trans hb) ht
      have hbR : b ≠ R := by have := hN.out; omega
      have e4 : w4.heap[b]? = w3.heap[b]? := by rw [hw4.out]; exact Go.Deep.blk_setCell_other _ _ _ _ hp
      exact (Go.Deep.blk_setCell_other _ _ _ _ hbR).trans ((Go.Deep.blk_setCell_other _ _ _ _ hbR).trans (e4.trans (e2.trans e1))))
    exact bodyPost_ret (v := .agg #[.int .u32 2147483648, .int .u32 n]) (by simp [results, Try.results12, go_sem, z0, z1, t0, t1]) rfl ⟨⟨_, _, rfl⟩, ⟨_, _, _, hBP, hR6, by show (if 60 = 103 then _ else F 60) = _; exact h60.out, rfl, ho6⟩, (hb4.out.setCell (p := ⟨R, 0, none⟩) hBR.out _).setCell (p := ⟨R, 1, none⟩) hBR.out _, hKf.out⟩
end Go.Proofs.Ytfgcphcofphabaa.Name
