/-
  A deferred log: its blocks, AddMsg and HasErrors. Condition: at most 65536 messages.
-/
import Derived.Test.YtcijcifhdakhoaaFmtRowsI
import Derived.Test.YtcijcifhdakhoaaFmtMu
import Derived.Test.YtcijcifhdakhoaaFmtBuild2
import Derived.Test.YtcijcifhdakhoaaFmtTake
import Derived.Lib.Hide
import Derived.Outline
namespace Go.Proofs.YtcijcifhdakhoaaFmt.Lg
open Go.RowKit Go.MuLone Go.Proofs.YtcijcifhdakhoaaFmt.Ints Go.Proofs.YtcijcifhdakhoaaFmt.Mu

def pt (b : Nat) : Value := .pointer (some ⟨b, 0, none⟩)
def fAdd (K M H G : Nat) : Value := .func (.func 16) #[] #[pt K, pt M, pt H, pt G]
def fHas (M H : Nat) : Value := .func (.func 19) #[] #[pt M, pt H]
def fPeek (M G : Nat) : Value := .func (.func 20) #[] #[pt M, pt G]
def fDone (M G : Nat) : Value := .func (.func 21) #[] #[pt M, pt G]
/-- The blocks of a log: n messages so far. -/
structure Lg (B K M H G : Nat) (e : Bool) (n : Nat) (v : Value) (xs : List Value) (w : World) : Prop where
  bK : w.heap[K]? = some (.cells #[.int .u8 0] 57 (0, 0))
  bM : w.heap[M]? = some (.cells #[.int .i32 0, .int .u32 0] 185 (0, 0))
  bH : w.heap[H]? = some (.cells #[.bool e] 4 (0, 0))
  bG : w.heap[G]? = some (.cells #[v] 179 (0, 0))
  own : w.ownsRow B 175 8 v n xs
  hM : B ≤ M
  hH : B ≤ H
  hG : B ≤ G
theorem ne_of_ty {w : World} {a b : Nat} {c c' : Array Value} {t t' : TypeId} {f f' : Nat × Nat} (h : w.heap[a]? = some (.cells c t f)) (h' : w.heap[b]? = some (.cells c' t' f')) (ht : t ≠ t') : a ≠ b := by
  rintro rfl
  rw [h] at h'
  injection h' with h'
  injection h' with _ h2
  exact ht h2
theorem own_ty {w : World} {B n e size b : Nat} {v : Value} {xs : List Value} {c : Array Value} {t : TypeId} {f : Nat × Nat} (h : w.ownsRow B e size v n xs) (hb : w.heap[b]? = some (.cells c t f)) (ht : t ≠ e) : some b ≠ v.ownBlock := by
  rcases h.2 with ⟨rfl, _⟩ | ⟨g, cap, cur, rfl, _, hg, _⟩
  · intro he; cases he
  · intro he
    cases he
    exact ne_of_ty hb hg ht rfl
theorem own_lo {w : World} {B n e size k : Nat} {v : Value} {xs : List Value} (h : w.ownsRow B e size v n xs) (hk : v.ownBlock = some k) : B ≤ k := by
  rcases h.2 with ⟨rfl, _⟩ | ⟨g, cap, cur, rfl, hB, hg, _⟩
  · cases hk
  · cases hk; exact hB
theorem slice_form {w : World} {B e n k : Nat} {v : Value} {xs : List Value} (h : w.ownsRow B e n v k xs) : ∃ a c, v = .slice a k c := by
  rcases h.2 with ⟨e, h0⟩ | ⟨g, cap, cur, e, _⟩
  · exact ⟨none, 0, by rw [e, h0]⟩
  · exact ⟨_, _, e⟩
theorem own_same {w w' : World} {B n e size : Nat} {v : Value} {xs : List Value} (h : w.ownsRow B e size v n xs) (hk : ∀ k, v.ownBlock = some k → w'.heap[k]? = w.heap[k]?) : w'.ownsRow B e size v n xs := by
  refine ⟨h.1, ?_⟩
  rcases h.2 with h0 | ⟨g, cap, cur, rfl, hB, hg, r⟩
  · exact .inl h0
  · exact .inr ⟨g, cap, cur, rfl, hB, (hk g rfl).trans hg, r⟩
section
variable {B K M H G : Nat} {e : Bool} {n : Nat} {v : Value} {xs : List Value} {w w' : World}
theorem Lg.MH (h : Lg B K M H G e n v xs w) : M ≠ H := ne_of_ty h.bM h.bH (by decide)
theorem Lg.MG (h : Lg B K M H G e n v xs w) : M ≠ G := ne_of_ty h.bM h.bG (by decide)
theorem Lg.HG (h : Lg B K M H G e n v xs w) : H ≠ G := ne_of_ty h.bH h.bG (by decide)
theorem Lg.KM (h : Lg B K M H G e n v xs w) : K ≠ M := ne_of_ty h.bK h.bM (by decide)
theorem Lg.KH (h : Lg B K M H G e n v xs w) : K ≠ H := ne_of_ty h.bK h.bH (by decide)
theorem Lg.KG (h : Lg B K M H G e n v xs w) : K ≠ G := ne_of_ty h.bK h.bG (by decide)
theorem lt_of_blk {w : World} {b : Nat} {o : Obj} (h : w.heap[b]? = some o) : b < w.heap.size := (Array.getElem?_eq_some_iff.1 h).1
theorem Lg.same (h : Lg B K M H G e n v xs w) (hk : ∀ b, b < w.heap.size → w'.heap[b]? = w.heap[b]?) : Lg B K M H G e n v xs w' :=
  ⟨(hk _ (lt_of_blk h.bK)).trans h.bK, (hk _ (lt_of_blk h.bM)).trans h.bM, (hk _ (lt_of_blk h.bH)).trans h.bH, (hk _ (lt_of_blk h.bG)).trans h.bG, own_same h.own (fun k hv => hk _ (by
    rcases h.own.2 with ⟨rfl, _⟩ | ⟨g, cap, cur, rfl, _, hg, _⟩
    · cases hv
    · cases hv; exact lt_of_blk hg)), h.hM, h.hH, h.hG⟩
theorem Lg.below (h : Lg B K M H G e n v xs w) (hb : Below w.heap.size w w') : Lg B K M H G e n v xs w' := h.same (fun b hlt => hb.block b hlt)
theorem Lg.cK (h : Lg B K M H G e n v xs w) : w.cell? ⟨K, 0, none⟩ = some (.int .u8 0) := cell_of_row _ _ 0 _ _ _ h.bK
theorem Lg.cM (h : Lg B K M H G e n v xs w) : w.cell? ⟨M, 0, none⟩ = some (.int .i32 0) := cell_of_row _ _ 0 _ _ _ h.bM
theorem Lg.zM (h : Lg B K M H G e n v xs w) : w.frozen? ⟨M, 0, none⟩ = false := frozen_of_row _ _ 0 _ _ h.bM
theorem Lg.cH (h : Lg B K M H G e n v xs w) : w.cell? ⟨H, 0, none⟩ = some (.bool e) := cell_of_row _ _ 0 _ _ _ h.bH
theorem Lg.zH (h : Lg B K M H G e n v xs w) : w.frozen? ⟨H, 0, none⟩ = false := frozen_of_row _ _ 0 _ _ h.bH
theorem Lg.cG (h : Lg B K M H G e n v xs w) : w.cell? ⟨G, 0, none⟩ = some v := cell_of_row _ _ 0 _ _ _ h.bG
theorem Lg.zG (h : Lg B K M H G e n v xs w) : w.frozen? ⟨G, 0, none⟩ = false := frozen_of_row _ _ 0 _ _ h.bG
end
/-- What a call on the log leaves alone. -/
structure Kp (B H G : Nat) (v : Value) (w w' : World) : Prop where
  bel : Below B w w'
  blk : ∀ b, b < w.heap.size → b ≠ H → b ≠ G → some b ≠ v.ownBlock → w'.heap[b]? = w.heap[b]?

theorem lock_same {w : World} {M : Nat} {t : TypeId} (hb : w.heap[M]? = some (.cells #[.int .i32 0, .int .u32 0] t (0, 0))) (b : Nat) : ((w.setCell ⟨M, 0, none⟩ (.int .i32 1)).setCell ⟨M, 0, none⟩ (.int .i32 0)).heap[b]? = w.heap[b]? := by
  by_cases hbM : b = M
  · subst hbM
    rw [hb]
    have h1 : (w.setCell ⟨b, 0, none⟩ (.int .i32 1)).heap[b]? = some (.cells #[.int .i32 1, .int .u32 0] t (0, 0)) := heap_setCell_same w b 0 _ t _ hb
    exact heap_setCell_same _ b 0 _ t _ h1
  · rw [Go.Deep.blk_setCell_other _ _ _ _ hbM, Go.Deep.blk_setCell_other _ _ _ _ hbM]
def Says (B : Nat) (x : Value) (w : World) (e : Ending) (w' : World) : Prop := e = .returned x ∧ Below B w w' ∧ ∀ b : Nat, w'.heap[b]? = w.heap[b]?
theorem hasErrors {B K M H G n : Nat} {e : Bool} {v : Value} {xs : List Value} (w : World) (h : Lg B K M H G e n v xs w) :
    Calls Tryf.prog 19 #[pt M, pt H] w (Says B (.bool e) w) := by
  have h1 := h.cM
  have f1 := h.zM
  have h2 := h.cH
  have hMH := h.MH
  have hbM := Lib.hid h.bM
  have hM := Lib.hid h.hM
  clear h
  unfold pt
  go_enter_defers Tryf.func19, Tryf.ntmps19
  go_wp2_with (go_at_call 17; refine (lock_free muLib ⟨M, 0, none⟩ _ h1 f1).mono ?_; rintro e w' ⟨rfl, rfl⟩)
  refine leaves_cons (f := 18) (args := #[.pointer (some ⟨M, 0, none⟩)]) (by simp) (by simp [go_sem]) ?_
  refine (unlock_deferred muLib ⟨M, 0, none⟩ .returning _ ?_ ?_).mono ?_
  · exact World.cell?_setCell_same w ⟨M, 0, none⟩ (.int .i32 1) h1
  · simp [f1]
  rintro e u' w'' ⟨rfl, rfl, rfl⟩
  exact ⟨_, results_tmp rfl _ _ _, rfl, ((Below.refl _ _).setCell hM.out _).setCell hM.out _, lock_same hbM.out⟩

def mcells (a : Option Addr) (m c : Nat) (p : Option Addr) (t : ByteArray) (k i : Int) : List Value := [.slice a m c, .string ⟨#[]⟩, .nilIface, .pointer p, .string t, .bool false, .int .u8 k, .int .u8 i]
/-- One message more. -/
def More (B K M H G : Nat) (e : Bool) (n : Nat) (v : Value) (xs news : List Value) (w : World) (y : Ending) (w' : World) : Prop :=
  ∃ v', y = .returned (.tuple #[]) ∧ Lg B K M H G e (n + 1) v' (xs ++ news) w' ∧ Kp B H G v w w'
theorem infoM : (Tryf.prog.info? 175).map (fun i => (i.zero, i.size, i.bytes)) = some (some (.agg #[.slice none 0 0, .string ⟨#[]⟩, .nilIface, .pointer none, .string ⟨#[]⟩, .bool false, .int .u8 0, .int .u8 0]), 8, 96) := by kernel_rfl
theorem add_plain (b o i : Nat) : ((⟨b, o, none⟩ : Addr).add i) = ⟨b, o + i, none⟩ := by simp [Addr.add]
theorem arr_new (wr : World) (cs : Array Value) (T : TypeId) (N : Nat) (hN : N = wr.heap.size) : ∀ j x, cs.toList[j]? = some x → (wr.alloc (.cells cs T)).cell? ((⟨N, 0, none⟩ : Addr).add j) = some x := fun j x hx => by
  subst hN
  rw [add_plain, Nat.zero_add, World.cell?_alloc_mark]
  simpa using hx
/-- The world between the lock and the append. -/
structure Md (B K M H G : Nat) (e : Bool) (n : Nat) (v : Value) (xs : List Value) (w w0 : World) : Prop where
  bK : w0.heap[K]? = some (.cells #[.int .u8 0] 57 (0, 0))
  bM : w0.heap[M]? = some (.cells #[.int .i32 1, .int .u32 0] 185 (0, 0))
  bH : w0.heap[H]? = some (.cells #[.bool e] 4 (0, 0))
  bG : w0.heap[G]? = some (.cells #[v] 179 (0, 0))
  own : w0.ownsRow B 175 8 v n xs
  wM : w.heap[M]? = some (.cells #[.int .i32 0, .int .u32 0] 185 (0, 0))
  size : w0.heap.size = w.heap.size
  bel : Below B w w0
  blk : ∀ b : Nat, b ≠ M → b ≠ H → w0.heap[b]? = w.heap[b]?
  hM : B ≤ M
  hH : B ≤ H
  hG : B ≤ G
theorem Lg.md {B K M H G n : Nat} {e : Bool} {v : Value} {xs : List Value} {w : World} (h : Lg B K M H G e n v xs w) : Md B K M H G e n v xs w (w.setCell ⟨M, 0, none⟩ (.int .i32 1)) := by
  refine ⟨?_, heap_setCell_same w M 0 _ _ _ h.bM, ?_, ?_, own_same h.own (fun k hk => ?_), h.bM, by simp, (Below.refl _ _).setCell h.hM _, fun b hb _ => Go.Deep.blk_setCell_other _ _ _ _ hb, h.hM, h.hH, h.hG⟩
  · rw [Go.Deep.blk_setCell_other _ _ _ _ h.KM]; exact h.bK
  · rw [Go.Deep.blk_setCell_other _ _ _ _ (Ne.symm h.MH)]; exact h.bH
  · rw [Go.Deep.blk_setCell_other _ _ _ _ (Ne.symm h.MG)]; exact h.bG
  · exact Go.Deep.blk_setCell_other _ _ _ _ (fun hkM => own_ty h.own h.bM (by decide) (by rw [hk, hkM]))
theorem Lg.md0 {B K M H G n : Nat} {e : Bool} {v : Value} {xs : List Value} {w : World} (h : Lg B K M H G e n v xs w) : Md B K M H G true n v xs w ((w.setCell ⟨M, 0, none⟩ (.int .i32 1)).setCell ⟨H, 0, none⟩ (.bool true)) := by
  have m := h.md
  refine ⟨?_, ?_, heap_setCell_same _ H 0 _ _ _ m.bH, ?_, own_same m.own (fun k hk => ?_), h.bM, by simp, m.bel.setCell h.hH _, fun b hb hb2 => (Go.Deep.blk_setCell_other _ _ _ _ hb2).trans (m.blk b hb hb2), h.hM, h.hH, h.hG⟩
  · rw [Go.Deep.blk_setCell_other _ _ _ _ h.KH]; exact m.bK
  · rw [Go.Deep.blk_setCell_other _ _ _ _ h.MH]; exact m.bM
  · rw [Go.Deep.blk_setCell_other _ _ _ _ (Ne.symm h.HG)]; exact m.bG
  · exact Go.Deep.blk_setCell_other _ _ _ _ (fun hkH => own_ty m.own m.bH (by decide) (by rw [hk, hkH]))
theorem Md.own2 {B K M H G n : Nat} {e : Bool} {v : Value} {xs : List Value} {w w0 : World} (h : Md B K M H G e n v xs w w0) (o o2 : Obj) : ((w0.alloc o).alloc o2).ownsRow B 175 8 v n xs := (h.own.alloc _).alloc _
theorem Md.blk4 {B K M H G n : Nat} {e : Bool} {v : Value} {xs : List Value} {w w0 w4 : World} (h : Md B K M H G e n v xs w w0) {o o2 : Obj} (hg : ((w0.alloc o).alloc o2).grownBy w4 v.ownBlock) (b : Nat) (hb : b < w.heap.size) (hv : some b ≠ v.ownBlock) : w4.heap[b]? = w0.heap[b]? := by
  have hb : b < w0.heap.size := by rw [h.size]; exact hb
  exact (hg.block b (by simp; omega) hv).trans ((Below.heap_alloc _ _ _ (by simp; omega)).trans (Below.heap_alloc _ _ _ hb))
theorem fin {B K M H G n m : Nat} {e : Bool} {v v' : Value} {xs ys : List Value} {w w0 w4 : World} (h : Md B K M H G e n v xs w w0) {o o2 : Obj} (hg : ((w0.alloc o).alloc o2).grownBy w4 v.ownBlock) (ho : w4.ownsRow B 175 8 v' m ys) (hB : B ≤ w.heap.size) :
    Lg B K M H G e m v' ys ((w4.setCell ⟨G, 0, none⟩ v').setCell ⟨M, 0, none⟩ (.int .i32 0)) ∧ Kp B H G v w ((w4.setCell ⟨G, 0, none⟩ v').setCell ⟨M, 0, none⟩ (.int .i32 0)) := by
  have lt : ∀ {b : Nat} {x : Obj}, w0.heap[b]? = some x → b < w.heap.size := fun hx => by rw [← h.size]; exact lt_of_blk hx
  have MG : M ≠ G := ne_of_ty h.bM h.bG (by decide)
  have MH : M ≠ H := ne_of_ty h.bM h.bH (by decide)
  have HG : H ≠ G := ne_of_ty h.bH h.bG (by decide)
  have KM : K ≠ M := ne_of_ty h.bK h.bM (by decide)
  have KG : K ≠ G := ne_of_ty h.bK h.bG (by decide)
  have a4 := h.blk4 hg
  have gM : w4.heap[M]? = some (.cells #[.int .i32 1, .int .u32 0] 185 (0, 0)) := (a4 _ (lt h.bM) (own_ty h.own h.bM (by decide))).trans h.bM
  have gH : w4.heap[H]? = some (.cells #[.bool e] 4 (0, 0)) := (a4 _ (lt h.bH) (own_ty h.own h.bH (by decide))).trans h.bH
  have gG : w4.heap[G]? = some (.cells #[v] 179 (0, 0)) := (a4 _ (lt h.bG) (own_ty h.own h.bG (by decide))).trans h.bG
  have gK : w4.heap[K]? = some (.cells #[.int .u8 0] 57 (0, 0)) := (a4 _ (lt h.bK) (own_ty h.own h.bK (by decide))).trans h.bK
  have f : ∀ b : Nat, b ≠ M → b ≠ G → ((w4.setCell ⟨G, 0, none⟩ v').setCell ⟨M, 0, none⟩ (.int .i32 0)).heap[b]? = w4.heap[b]? := fun b h1 h2 =>
    (Go.Deep.blk_setCell_other _ _ _ _ h1).trans (Go.Deep.blk_setCell_other _ _ _ _ h2)
  have fM : ((w4.setCell ⟨G, 0, none⟩ v').setCell ⟨M, 0, none⟩ (.int .i32 0)).heap[M]? = some (.cells #[.int .i32 0, .int .u32 0] 185 (0, 0)) := by
    have g2 : (w4.setCell ⟨G, 0, none⟩ v').heap[M]? = some (.cells #[.int .i32 1, .int .u32 0] 185 (0, 0)) := (Go.Deep.blk_setCell_other _ _ _ _ MG).trans gM
    exact heap_setCell_same _ M 0 _ _ _ g2
  have fG : ((w4.setCell ⟨G, 0, none⟩ v').setCell ⟨M, 0, none⟩ (.int .i32 0)).heap[G]? = some (.cells #[v'] 179 (0, 0)) := by
    rw [Go.Deep.blk_setCell_other _ _ _ _ (Ne.symm MG)]
    exact heap_setCell_same _ G 0 _ _ _ gG
  refine ⟨⟨(f _ KM KG).trans gK, fM, (f _ (Ne.symm MH) HG).trans gH, fG, own_same ho (fun k hk => f k ?_ ?_), h.hM, h.hH, h.hG⟩, ?_, fun b hb h1 h2 h3 => ?_⟩
  · rintro rfl
    exact own_ty ho gM (by decide) hk.symm
  · rintro rfl
    exact own_ty ho gG (by decide) hk.symm
  · have e0 : B ≤ ((w0.alloc o).alloc o2).heap.size := by simp only [World.size_alloc, h.size]; omega
    have b1 : Below B w ((w0.alloc o).alloc o2) := (h.bel.alloc (by rw [h.size]; exact hB) _).alloc (by simp only [World.size_alloc, h.size]; omega) _
    exact ((b1.grown hg e0 (fun k hk => own_lo h.own hk)).setCell h.hG _).setCell h.hM _
  · by_cases hbM : b = M
    · subst hbM
      exact fM.trans h.wM.symm
    · exact (f b hbM h2).trans ((a4 b hb h3).trans (h.blk b hbM h1))
theorem Md.after {B K M H G n : Nat} {e : Bool} {v : Value} {xs : List Value} {w w0 w4 : World} (h : Md B K M H G e n v xs w w0) {o o2 : Obj} (hg : ((w0.alloc o).alloc o2).grownBy w4 v.ownBlock) :
    w4.cell? ⟨G, 0, none⟩ = some v ∧ w4.frozen? ⟨G, 0, none⟩ = false ∧ w4.cell? ⟨M, 0, none⟩ = some (.int .i32 1) ∧ w4.frozen? ⟨M, 0, none⟩ = false ∧ M ≠ G := by
  have lt : ∀ {b : Nat} {x : Obj}, w0.heap[b]? = some x → b < w.heap.size := fun hx => by rw [← h.size]; exact lt_of_blk hx
  have a4 := h.blk4 hg
  have gM : w4.heap[M]? = some (.cells #[.int .i32 1, .int .u32 0] 185 (0, 0)) := (a4 _ (lt h.bM) (own_ty h.own h.bM (by decide))).trans h.bM
  have gG : w4.heap[G]? = some (.cells #[v] 179 (0, 0)) := (a4 _ (lt h.bG) (own_ty h.own h.bG (by decide))).trans h.bG
  exact ⟨cell_of_row _ _ 0 _ _ _ gG, frozen_of_row _ _ 0 _ _ gG, cell_of_row _ _ 0 _ _ _ gM, frozen_of_row _ _ 0 _ _ gM, ne_of_ty h.bM h.bG (by decide)⟩
set_option maxRecDepth 100000 in
set_option maxHeartbeats 1000000 in
theorem addMsg0 {B K M H G n : Nat} {e : Bool} {v : Value} {xs : List Value} (a : Option Addr) (m c : Nat) (p : Option Addr) (t : ByteArray) (i : Int) (w : World) (h : Lg B K M H G e n v xs w) (hB : B ≤ w.heap.size) (hn : n ≤ 65536) :
    Calls Tryf.prog 16 #[.agg (mcells a m c p t 0 i).toArray, pt K, pt M, pt H, pt G] w (More B K M H G true n v xs (mcells a m c p t 0 i) w) := by
  obtain ⟨i0, hi, hz0, hz1, hz2⟩ := info_parts infoM
  have cK := h.cK
  have cM := h.cM
  have zM := h.zM
  have cH := h.cH
  have zH := h.zH
  have cG := h.cG
  have zG := h.zG
  have nMH := h.MH
  have nMG := h.MG
  have nHG := h.HG
  have nKM := h.KM
  have nKH := h.KH
  have nKG := h.KG
  have lM := lt_of_blk h.bM
  have lH := lt_of_blk h.bH
  have lG := lt_of_blk h.bG
  have lK := lt_of_blk h.bK
  have hmd := Lib.hid h.md0
  have hone : Hid (∀ u ∈ mcells a m c p t 0 i, u.oneCell' = true) := Lib.hid (fun u hu => by simp [mcells] at hu; rcases hu with rfl | rfl | rfl | rfl | rfl | rfl | rfl | rfl <;> rfl)
  have hk1 : n + 1 ≤ maxLen := by simp only [maxLen]; omega
  have hk2 : (n + 1) * 96 ≤ 140737488355328 := by omega
  clear h
  replace hB := Lib.hid hB
  unfold pt
  unfold mcells at hone ⊢
  go_enter_defers Tryf.func16, Tryf.ntmps16
  go_wp2_with fail
  go_at_call 17
  refine (lock_free muLib ⟨M, 0, none⟩ _ ?_ ?_).mono ?_
  · go_simp
  · go_simp
  rintro y w' ⟨rfl, rfl⟩
  go_wp2_with (at_builtin; refine wpList_append_own _ rfl (.tmp 22) (.tmp 24) _ rfl B 175 i0 _ 8 96 Tryf.underlying179 hi hz0 hz1 hz2 rfl (by decide) v n xs rfl (hmd.out.own2 _ _) ⟨w.heap.size + 1, 0, none⟩ 1 1 [.slice a m c, .string ⟨#[]⟩, .nilIface, .pointer p, .string t, .bool false, .int .u8 0, .int .u8 i] rfl rfl ?c1 hone.out hk1 hk2 ?c5 ?_)
  case c1 => exact arr_new _ #[.slice a m c, .string ⟨#[]⟩, .nilIface, .pointer p, .string t, .bool false, .int .u8 0, .int .u8 i] _ _ (by simp)
  case c5 => simp; have := hB.out; omega
  intro v' w4 ho hg _
  obtain ⟨a', c', rfl⟩ := slice_form ho
  obtain ⟨g1, g2, g3, g4, _⟩ := hmd.out.after hg
  replace ho := Lib.hid ho
  replace hg := Lib.hid hg
  go_wp2_with fail
  refine leaves_cons (f := 18) (args := #[.pointer (some ⟨M, 0, none⟩)]) (by simp) (by simp [go_sem]) ?_
  refine (unlock_deferred muLib ⟨M, 0, none⟩ .returning _ ?_ ?_).mono ?_
  · exact (World.cell?_setCell_other _ ⟨G, 0, none⟩ ⟨M, 0, none⟩ _ (by simp)).trans g3
  · simp [g4]
  rintro y u' w'' ⟨rfl, rfl, rfl⟩
  exact ⟨_, results_none rfl _ _ _, _, rfl, fin hmd.out hg.out ho.out hB.out⟩
set_option maxRecDepth 100000 in
set_option maxHeartbeats 1000000 in
theorem addMsgK {B K M H G n : Nat} {e : Bool} {v : Value} {xs : List Value} (a : Option Addr) (m c : Nat) (p : Option Addr) (t : ByteArray) (k : Int) (i : Int) (w : World) (hk : (k == 0) = false) (h : Lg B K M H G e n v xs w) (hB : B ≤ w.heap.size) (hn : n ≤ 65536) :
    Calls Tryf.prog 16 #[.agg (mcells a m c p t k i).toArray, pt K, pt M, pt H, pt G] w (More B K M H G e n v xs (mcells a m c p t k i) w) := by
  obtain ⟨i0, hi, hz0, hz1, hz2⟩ := info_parts infoM
  have cK := h.cK
  have cM := h.cM
  have zM := h.zM
  have cH := h.cH
  have zH := h.zH
  have cG := h.cG
  have zG := h.zG
  have nMH := h.MH
  have nMG := h.MG
  have nHG := h.HG
  have nKM := h.KM
  have nKH := h.KH
  have nKG := h.KG
  have lM := lt_of_blk h.bM
  have lH := lt_of_blk h.bH
  have lG := lt_of_blk h.bG
  have lK := lt_of_blk h.bK
  have hmd := Lib.hid h.md
  have hone : Hid (∀ u ∈ mcells a m c p t k i, u.oneCell' = true) := Lib.hid (fun u hu => by simp [mcells] at hu; rcases hu with rfl | rfl | rfl | rfl | rfl | rfl | rfl | rfl <;> rfl)
  have hk1 : n + 1 ≤ maxLen := by simp only [maxLen]; omega
  have hk2 : (n + 1) * 96 ≤ 140737488355328 := by omega
  clear h
  replace hB := Lib.hid hB
  unfold pt
  unfold mcells at hone ⊢
  go_enter_defers Tryf.func16, Tryf.ntmps16
  go_wp2_with fail
  go_at_call 17
  refine (lock_free muLib ⟨M, 0, none⟩ _ ?_ ?_).mono ?_
  · go_simp
  · go_simp
  rintro y w' ⟨rfl, rfl⟩
  go_wp2_with (at_builtin; refine wpList_append_own _ rfl (.tmp 22) (.tmp 24) _ rfl B 175 i0 _ 8 96 Tryf.underlying179 hi hz0 hz1 hz2 rfl (by decide) v n xs rfl (hmd.out.own2 _ _) ⟨w.heap.size + 1, 0, none⟩ 1 1 [.slice a m c, .string ⟨#[]⟩, .nilIface, .pointer p, .string t, .bool false, .int .u8 k, .int .u8 i] rfl rfl ?c1 hone.out hk1 hk2 ?c5 ?_)
  case c1 => exact arr_new _ #[.slice a m c, .string ⟨#[]⟩, .nilIface, .pointer p, .string t, .bool false, .int .u8 k, .int .u8 i] _ _ (by simp)
  case c5 => simp; have := hB.out; omega
  intro v' w4 ho hg _
  obtain ⟨a', c', rfl⟩ := slice_form ho
  obtain ⟨g1, g2, g3, g4, _⟩ := hmd.out.after hg
  replace ho := Lib.hid ho
  replace hg := Lib.hid hg
  go_wp2_with fail
  refine leaves_cons (f := 18) (args := #[.pointer (some ⟨M, 0, none⟩)]) (by simp) (by simp [go_sem]) ?_
  refine (unlock_deferred muLib ⟨M, 0, none⟩ .returning _ ?_ ?_).mono ?_
  · exact (World.cell?_setCell_other _ ⟨G, 0, none⟩ ⟨M, 0, none⟩ _ (by simp)).trans g3
  · simp [g4]
  rintro y u' w'' ⟨rfl, rfl, rfl⟩
  exact ⟨_, results_none rfl _ _ _, _, rfl, fin hmd.out hg.out ho.out hB.out⟩
end Go.Proofs.YtcijcifhdakhoaaFmt.Lg
