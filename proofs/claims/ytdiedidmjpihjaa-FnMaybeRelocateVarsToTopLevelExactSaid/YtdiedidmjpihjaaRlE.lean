/-
  What the loop of maybeRelocateVarsToTopLevel keeps. No condition.
-/
import Derived.Test.YtdiedidmjpihjaaRlD
import Derived.LaidEqlPtr
namespace Go.Proofs.Ytdiedidmjpihjaa.Rl
open Go.RowKit Go.ChangeShapes Go.WideShapes Go.ChangeAt Go.Proofs.Ytdiedidmjpihjaa.Ints

/-- The value gathered so far: nothing, or an expression at the first contributing binding. -/
def St (c : Nat → Bool) (lc : Nat → Int) (k : Nat) (a : Value) (l : Int) : Prop :=
  (fst c k = none ∧ a = .nilIface ∧ l = 0) ∨ ∃ i t p, fst c k = some i ∧ a = .iface t p ∧ l = lc i
theorem st_miss {c : Nat → Bool} {lc : Nat → Int} {k : Nat} {a : Value} {l : Int} (h : St c lc k a l) (hc : c k = false) : St c lc (k + 1) a l := by
  unfold St at *
  rw [fst_step_miss hc]
  exact h
/-- The bindings: their blocks, symbols, locations, and which are followed by a value. -/
structure Ds (D n : Nat) (b r : Nat → Nat) (lc : Nat → Int) (vl : Nat → Bool) (w : World) : Prop where
  row : ∃ f, w.rowIs D 74 (n * 4) f ∧ ∀ i, i < n → f (i * 4) = .iface 62 (.pointer (some ⟨b i, 0, none⟩)) ∧ f (i * 4 + 1) = .int .i32 (lc i) ∧
    (vl i = false → f (i * 4 + 2) = .nilIface ∧ f (i * 4 + 3) = .int .i32 0) ∧ (vl i = true → ∃ t p m, f (i * 4 + 2) = .iface t p ∧ f (i * 4 + 3) = .int .i32 m)
  blk : ∀ i, i < n → w.heap[b i]? = some (.cells #[.int .u32 0, .int .u32 (r i : Nat)] 64 (0, 0))
theorem Ds.keep {B P g D n : Nat} {b r : Nat → Nat} {lc : Nat → Int} {vl : Nat → Bool} {F : Nat → Value} {U : Nat → Nat} {v : Value} {k : Nat} {xs : List Value} {w w' : World} (h : Ds D n b r lc vl w) (hk : Ko B P g w w') (hp : Pa B P g n F U v k xs w) : Ds D n b r lc vl w' := by
  obtain ⟨f, hf, hc⟩ := h.row
  obtain ⟨G, hG, _⟩ := hp.sym
  refine ⟨⟨f, hk.row hf (by decide) (row_ne hf hp.row (by decide)) (row_ne hf hG (by decide)), hc⟩, fun i hi => ?_⟩
  obtain ⟨c1, h1, _⟩ := hp.row
  obtain ⟨c2, h2, _⟩ := hG
  exact (hk.kp _ _ _ _ (h.blk i hi) (by decide) (cells_ne (h.blk i hi) h1 (by decide)) (cells_ne (h.blk i hi) h2 (by decide))).trans (h.blk i hi)
/-- The loop's world: kp bindings are recorded, kv have gone into the value. -/
structure L2 (B P g n : Nat) (r : Nat → Nat) (lc : Nat → Int) (c : Nat → Bool) (w : World) (kp kv : Nat) (wr : World) : Prop where
  pa : ∃ F v, Pa B P g n F (cnt r kp) v kp (vars lc r kp) wr
  ko : Ko B P g w wr
  z : wr.heap[w.heap.size]? = some (.cells #[.pointer (some ⟨P, 0, none⟩)] 26 (0, 0))
  rr : wr.heap[w.heap.size + 1]? = some (.cells #[.nilIface, .int .i32 0] 35 (0, 0))
  vv : ∃ a l, wr.heap[w.heap.size + 1 + 1]? = some (.cells #[a, .int .i32 l] 72 (0, 0)) ∧ St c lc kv a l
section
variable {B P g n : Nat} {r : Nat → Nat} {lc : Nat → Int} {c : Nat → Bool} {w : World} {kp kv : Nat} {wr w1 : World}
theorem L2.below (h : L2 B P g n r lc c w kp kv wr) (hB : B ≤ w.heap.size) (hb : Below wr.heap.size wr w1) : L2 B P g n r lc c w kp kv w1 := by
  obtain ⟨F, v, hp⟩ := h.pa
  obtain ⟨a, l, ha, hs⟩ := h.vv
  have lt : ∀ {b : Nat} {o : Obj}, wr.heap[b]? = some o → b < wr.heap.size := fun e => (Array.getElem?_eq_some_iff.1 e).1
  exact ⟨⟨F, v, hp.below hb⟩, h.ko.trans (Ko.of_below hb (Nat.le_trans hB h.ko.bel.size)), (hb.block _ (lt h.z)).trans h.z, (hb.block _ (lt h.rr)).trans h.rr, a, l, (hb.block _ (lt ha)).trans ha, hs⟩
theorem L2.clo (h : L2 B P g n r lc c w kp kv wr) (hPw : P < w.heap.size) (hgw : g < w.heap.size) {e : Ending} (hC : Clo B P g n (cnt r kp) kp (vars lc r kp) (r kp) (lc kp) wr e w1) :
    (∃ t p, e = .returned (.agg #[.iface t p, .int .i32 (lc kp)])) ∧ L2 B P g n r lc c w (kp + 1) kv w1 := by
  obtain ⟨t, p, F, v, he, hP, hK⟩ := hC
  obtain ⟨a, l, ha, hs⟩ := h.vv
  have hU : upd (cnt r kp) (r kp) (cnt r kp (r kp) + 1) = cnt r (kp + 1) := by
    funext j
    unfold upd
    by_cases hj : j = r kp
    · rw [if_pos hj, hj, cnt_same]
    · rw [if_neg hj, cnt_other _ _ _ (fun e => hj e.symm)]
  rw [hU] at hP
  exact ⟨⟨t, p, he⟩, ⟨F, v, hP⟩, h.ko.trans hK, (hK.kp _ _ _ _ h.z (by decide) (by omega) (by omega)).trans h.z, (hK.kp _ _ _ _ h.rr (by decide) (by omega) (by omega)).trans h.rr, a, l, (hK.kp _ _ _ _ ha (by decide) (by omega) (by omega)).trans ha, hs⟩
theorem L2.put (h : L2 B P g n r lc c w kp kv wr) (hB : B ≤ w.heap.size) {kv' : Nat} {a : Value} {l : Int} (hs : St c lc kv' a l) :
    L2 B P g n r lc c w kp kv' ((wr.setCell ⟨w.heap.size + 1 + 1, 0, none⟩ a).setCell ⟨w.heap.size + 1 + 1, 1, none⟩ (.int .i32 l)) := by
  obtain ⟨F, v, hp⟩ := h.pa
  obtain ⟨a0, l0, ha, _⟩ := h.vv
  have hN1 : (wr.setCell ⟨w.heap.size + 1 + 1, 0, none⟩ a).heap[w.heap.size + 1 + 1]? = some (.cells #[a, .int .i32 l0] 72 (0, 0)) := heap_setCell_same wr _ 0 _ _ a ha
  have hP2 := (hp.setOther (j := 0) (a := a) ha (by decide) (by decide) (by decide)).setOther (j := 1) (a := .int .i32 l) hN1 (by decide) (by decide) (by decide)
  have ot : ∀ q, q ≠ w.heap.size + 1 + 1 → ((wr.setCell ⟨w.heap.size + 1 + 1, 0, none⟩ a).setCell ⟨w.heap.size + 1 + 1, 1, none⟩ (.int .i32 l)).heap[q]? = wr.heap[q]? := fun q hq => by
    rw [Go.Deep.blk_setCell_other _ _ _ _ hq, Go.Deep.blk_setCell_other _ _ _ _ hq]
  refine ⟨⟨F, v, hP2⟩, ⟨(h.ko.bel.setCell (p := ⟨w.heap.size + 1 + 1, 0, none⟩) (by show B ≤ w.heap.size + 1 + 1; omega) a).setCell (p := ⟨w.heap.size + 1 + 1, 1, none⟩) (by show B ≤ w.heap.size + 1 + 1; omega) _, fun q cur ty fr hq h3 h4 h5 => ?_⟩, (ot _ (by omega)).trans h.z, (ot _ (by omega)).trans h.rr, a, l, two_set0 ha, hs⟩
  have lq := (Array.getElem?_eq_some_iff.1 hq).1
  exact (ot q (by omega)).trans (h.ko.kp q cur ty fr hq h3 h4 h5)
theorem L2.miss (h : L2 B P g n r lc c w kp kv wr) (hc : c kv = false) : L2 B P g n r lc c w kp (kv + 1) wr := by
  obtain ⟨a, l, ha, hs⟩ := h.vv
  exact ⟨h.pa, h.ko, h.z, h.rr, a, l, ha, st_miss hs hc⟩
theorem L2.drew (h : L2 B P g n r lc c w kp kv wr) : L2 B P g n r lc c w kp kv wr.drew := by
  obtain ⟨F, v, hp⟩ := h.pa
  exact ⟨⟨F, v, hp.below (Below.refl _ _).drew⟩, h.ko.trans ⟨(Below.refl _ _).drew, fun _ _ _ _ _ _ _ _ => rfl⟩, h.z, h.rr, h.vv⟩
end
/-- The chain of scopes from the module (0) to the current one (m). -/
def kd (fn : Nat → Bool) : Nat → Int
  | 0 => 6
  | i + 1 => if fn i then 8 else 0
structure Sch (S : Nat → Nat) (fn : Nat → Bool) (m : Nat) (w : World) : Prop where
  kind : ∀ i, i ≤ m → w.cell? ⟨S i, 15, none⟩ = some (.int .u8 (kd fn i))
  par : ∀ i, i < m → w.cell? ⟨S (i + 1), 1, none⟩ = some (.pointer (some ⟨S i, 0, none⟩))
  ne : ∀ i, 0 < i → i ≤ m → S i ≠ S 0
  blk : ∀ i, i ≤ m → ∃ c, w.heap[S i]? = some (.cells c 58 (0, 0))
theorem Sch.below {S : Nat → Nat} {fn : Nat → Bool} {m : Nat} {w w1 : World} (h : Sch S fn m w) (hb : Below w.heap.size w w1) : Sch S fn m w1 :=
  ⟨fun i hi => (hb.cell (lt_of_cell (h.kind i hi))).trans (h.kind i hi), fun i hi => (hb.cell (lt_of_cell (h.par i hi))).trans (h.par i hi), h.ne, fun i hi => by
    obtain ⟨c, hc⟩ := h.blk i hi
    exact ⟨c, (hb.block _ (Array.getElem?_eq_some_iff.1 hc).1).trans hc⟩⟩
theorem infoSc : ∃ j, Try.prog.info? 58 = some j ∧ j.size ≠ 0 := by
  have h1 : (Try.prog.info? 58).isSome = true := by kernel_rfl
  obtain ⟨j, hj⟩ := Option.isSome_iff_exists.1 h1
  have h2 : (Try.prog.info? 58).map (fun i => decide (i.size ≠ 0)) = some true := by kernel_rfl
  rw [hj] at h2
  exact ⟨j, hj, by simpa using h2⟩
theorem eql_same (a : Addr) (w : World) : (binOp .eql 49 (.pointer (some a)) (.pointer (some a))).run Try.prog w = .ok (.bool true) w := by
  obtain ⟨j, hj, _⟩ := infoSc
  exact run_eql_ptr_same w a Try.underlying49 hj
theorem Sch.eql {S : Nat → Nat} {fn : Nat → Bool} {m i : Nat} {w : World} (h : Sch S fn m w) (hi : i ≤ m) (h0 : 0 < i) : (binOp .eql 49 (.pointer (some ⟨S i, 0, none⟩)) (.pointer (some ⟨S 0, 0, none⟩))).run Try.prog w = .ok (.bool false) w := by
  obtain ⟨j, hj, hz⟩ := infoSc
  obtain ⟨c1, h1⟩ := h.blk i hi
  obtain ⟨c2, h2⟩ := h.blk 0 (Nat.zero_le _)
  exact run_eql_ptr_other w Try.underlying49 hj hz (fun e => h.ne i h0 hi (by injection e)) h1 h2
theorem neq_of {t : TypeId} {a b : Option Addr} {x : Bool} {w : World} (h : (binOp .eql t (.pointer a) (.pointer b)).run Try.prog w = .ok (.bool x) w) : (binOp .neq t (.pointer a) (.pointer b)).run Try.prog w = .ok (.bool (!x)) w := by
  simp only [binOp] at h ⊢
  simp only [Sem.run_bind] at h ⊢
  cases hq : (Op.equal t (.pointer a) (.pointer b)).run Try.prog w with
  | halt y w2 => rw [hq] at h; simp [Result.andThen] at h
  | ok y w2 =>
    rw [hq] at h
    simp [Result.andThen] at h ⊢
    obtain ⟨h1, h2⟩ := h
    exact ⟨by rw [h1], h2⟩
end Go.Proofs.Ytdiedidmjpihjaa.Rl
