/-
  Binding patterns in memory: what buildBinding makes of the code. Condition: at most 65536 code bytes.
-/
import Derived.Test.YtgiehlcmmikgmaaRowsI
import Derived.Test.YtgiehlcmmikgmaaBut
import Derived.Test.YtgiehlcmmikgmaaBuild2
import Derived.Lib.Hide
import Derived.Laws.Cover3
import Derived.WalkLawsBesides
import Derived.WalkSpells
import Derived.Laws.MakeOwn
import Derived.Deep.DeepAppendRoom
import Derived.RegionTactic
import Derived.ChangeAlike
import Derived.Deep.QuietTactic
import Derived.BigQuiet
import Derived.BigRegion
import Derived.Deep.RegionHeld3
import Derived.StillTailTactics
import Derived.IntWalk
namespace Go.Proofs.Ytgiehlcmmikgmaa.Bind
open Go.RowKit Go.ChangeShapes Go.WideShapes Go.ChangeAt Go.Proofs.Ytgiehlcmmikgmaa.Ints

def sumK (K : Nat → Nat) : Nat → Nat
  | 0 => 0
  | r + 1 => sumK K r + K r
def cellsA (D : Nat → Value) (n : Nat) : List Value := (List.range n).flatMap fun i => [D i, .int .i32 0, .nilIface, .int .i32 0, .int .i32 0]
def cellsP (D : Nat → Value) (G : Nat → Bool) (n : Nat) : List Value := (List.range n).flatMap fun i => [.nilIface, .int .i32 0, D i, .int .i32 0, .nilIface, .int .i32 0, .int .i32 0, .int .i32 0, .bool false, .bool (G i), .bool false]
theorem cellsA_succ (D : Nat → Value) (n : Nat) : cellsA D (n + 1) = cellsA D n ++ [D n, .int .i32 0, .nilIface, .int .i32 0, .int .i32 0] := by simp [cellsA, List.range_succ]
theorem cellsP_succ (D : Nat → Value) (G : Nat → Bool) (n : Nat) : cellsP D G (n + 1) = cellsP D G n ++ [.nilIface, .int .i32 0, D n, .int .i32 0, .nilIface, .int .i32 0, .int .i32 0, .int .i32 0, .bool false, .bool (G n), .bool false] := by simp [cellsP, List.range_succ]
def flagN (G : Nat → Bool) (K : Nat → Nat) : Nat → Nat := fun i => K i + (if G i then 1 else 0)
/-- A pattern at the interface value d, all of whose own blocks lie from lo on; k of its properties are spreads. -/
inductive Tree (lo : Nat) (w : World) : Value → Nat → Prop
  | leaf (t : TypeId) (p : Value) : t ≠ 81 → t ≠ 87 → Tree lo w (.iface t p) 0
  | arr (B G n cap : Nat) (D : Nat → Value) (K : Nat → Nat) (q : Bool) : lo ≤ B → n ≤ 7 → w.rowIs B 83 4 (fun j => (#[.slice (some ⟨G, 0, none⟩) n cap, .int .i32 0, .bool q, .bool false] : Array Value).getD j undef) →
      w.ownsRow lo 80 5 (.slice (some ⟨G, 0, none⟩) n cap) n (cellsA D n) → (∀ i, i < n → Tree lo w (D i) (K i)) → Tree lo w (.iface 81 (.pointer (some ⟨B, 0, none⟩))) (sumK K n)
  | obj (B G n cap : Nat) (D : Nat → Value) (K : Nat → Nat) (H : Nat → Bool) : lo ≤ B → n ≤ 7 → w.rowIs B 89 3 (fun j => (#[.slice (some ⟨G, 0, none⟩) n cap, .int .i32 0, .bool false] : Array Value).getD j undef) →
      w.ownsRow lo 86 11 (.slice (some ⟨G, 0, none⟩) n cap) n (cellsP D H n) → (∀ i, i < n → Tree lo w (D i) (K i)) → Tree lo w (.iface 87 (.pointer (some ⟨B, 0, none⟩))) (sumK (flagN H K) n)
theorem own_gen {w w' : World} {lo lo' e size k : Nat} {v : Value} {xs : List Value} (h : w.ownsRow lo e size v k xs) (hlo : lo' ≤ lo) (hk : ∀ b, lo ≤ b → b < w.heap.size → w'.heap[b]? = w.heap[b]?) : w'.ownsRow lo' e size v k xs := by
  rcases h.2 with h0 | ⟨g, cap, cur, e1, e2, e3, r⟩
  · exact ⟨h.1, .inl h0⟩
  · exact ⟨h.1, .inr ⟨g, cap, cur, e1, Nat.le_trans hlo e2, (hk g e2 (Array.getElem?_eq_some_iff.1 e3).1).trans e3, r⟩⟩
theorem Tree.gen {lo lo' : Nat} {w w' : World} {d : Value} {k : Nat} (h : Tree lo w d k) (hlo : lo' ≤ lo) (hk : ∀ b, lo ≤ b → b < w.heap.size → w'.heap[b]? = w.heap[b]?) : Tree lo' w' d k := by
  induction h with
  | leaf t p h1 h2 => exact .leaf t p h1 h2
  | arr B G n cap D K q hB h7 hr ho _ ih => exact .arr B G n cap D K q (Nat.le_trans hlo hB) h7 (hr.of_block (hk B hB hr.lt)) (own_gen ho hlo hk) ih
  | obj B G n cap D K H hB h7 hr ho _ ih => exact .obj B G n cap D K H (Nat.le_trans hlo hB) h7 (hr.of_block (hk B hB hr.lt)) (own_gen ho hlo hk) ih
/-- The code's bytes. -/
def nx (f : Nat → Int) (N p : Nat) : Bool := decide (p < N) && decide ((f p).toNat.testBit 5)
/-- What a call of buildBinding at position p leaves. -/
def Built (P N : Nat) (w : World) (p : Nat) (e : Ending) (w' : World) : Prop :=
  ∃ (d : Value) (k p' : Nat), e = .returned (.tuple #[.agg #[d, .int .i32 0], .int .i64 k]) ∧ p ≤ p' ∧ p' ≤ N ∧ (p < N → k + 1 + p ≤ p') ∧ (N ≤ p → k = 0) ∧ Tree w.heap.size w' d k ∧ But P 3 1 w w' ∧ w'.cell? ⟨P, 0, none⟩ = some (.int .i64 p')
theorem infoA : (Try.prog.info? 80).map (fun i => (i.zero, i.size, i.bytes)) = some (some (.agg #[.nilIface, .int .i32 0, .nilIface, .int .i32 0, .int .i32 0]), 5, 56) := by kernel_rfl
theorem infoP : (Try.prog.info? 86).map (fun i => (i.zero, i.size, i.bytes)) = some (some (.agg #[.nilIface, .int .i32 0, .nilIface, .int .i32 0, .nilIface, .int .i32 0, .int .i32 0, .int .i32 0, .bool false, .bool false, .bool false]), 11, 88) := by kernel_rfl
set_option maxRecDepth 100000 in
theorem buildEnd (P N c : Nat) (o : Option Addr) (w : World) (p : Nat) (hp : N ≤ p) (hN : p ≤ N) (hP : w.rowIs P 3 1 (fun _ => .int .i64 p)) (hNm : N ≤ 65536) :
    Calls Try.prog 8 #[.slice o N c, .pointer (some ⟨P, 0, none⟩)] w (Built P N w p) := by
  have c0 : w.cell? ⟨P, 0, none⟩ = some (.int .i64 p) := hP.cell (i := 0) (by omega)
  have hPl : P < w.heap.size := hP.lt
  go_enter Try.func8, Try.ntmps8
  go_wp2_with fail
  refine bodyPost_ret (v := .tuple #[.agg #[.iface 71 (.pointer (some ⟨w.heap.size + 1, 0, none⟩)), .int .i32 0], .int .i64 0]) (by simp [results, Try.results8, go_sem]) rfl ⟨_, 0, p, rfl, Nat.le_refl _, hN, fun h => absurd h (by omega), fun _ => rfl, .leaf _ _ (by decide) (by decide), (But.start hP).next (((Below.refl _ _).alloc (Nat.le_refl _) _).alloc (by simp) _), ?_⟩
  exact ((((Below.refl w.heap.size w).alloc (Nat.le_refl _) _).alloc (by simp) _).cell (p := ⟨P, 0, none⟩) hPl).trans c0
theorem and7 (x : Int) (h0 : 0 ≤ x) (h1 : x ≤ 63) : ∃ m : Nat, m ≤ 7 ∧ bits BinOp.and IntKind.i64 x 7 = (m : Int) := by
  have H : ∀ x : Fin 64, 0 ≤ bits BinOp.and IntKind.i64 ((x.val : Nat) : Int) 7 ∧ bits BinOp.and IntKind.i64 ((x.val : Nat) : Int) 7 ≤ 7 := by decide +kernel
  have h := H ⟨x.toNat, by omega⟩
  have e : ((x.toNat : Nat) : Int) = x := by omega
  simp only [e] at h
  exact ⟨(bits BinOp.and IntKind.i64 x 7).toNat, by omega, by omega⟩
/-- The code bytes, as the walk reads them. -/
structure Ops (w : World) (b off N P : Nat) (f : Nat → Int) : Prop where
  cells : ∀ i, i < N → w.cell? ⟨b, off + i, none⟩ = some (.int .u8 (f i))
  rng : ∀ i, i < N → 0 ≤ f i ∧ f i ≤ 255
  ne : b ≠ P
theorem Ops.but {w w' : World} {b off N P : Nat} {f : Nat → Int} (h : Ops w b off N P f) (hB : But P 3 1 w w') : Ops w' b off N P f :=
  ⟨fun i hi => hB.cell (h.cells i hi) h.ne, h.rng, h.ne⟩
set_option maxRecDepth 100000 in
set_option maxHeartbeats 1000000 in
theorem build01 (P N c : Nat) (b off : Nat) (f : Nat → Int) (w : World) (p : Nat) (hO : Ops w b off N P f) (hlt : p < N) (hP : w.rowIs P 3 1 (fun _ => .int .i64 p)) (hN : N ≤ 65536) (hq : bits BinOp.and IntKind.u8 (f p) 3 = 0 ∨ bits BinOp.and IntKind.u8 (f p) 3 = 1) :
    Calls Try.prog 8 #[.slice (some ⟨b, off, none⟩) N c, .pointer (some ⟨P, 0, none⟩)] w (Built P N w p) := by
  have c0 : w.cell? ⟨P, 0, none⟩ = some (.int .i64 p) := hP.cell (i := 0) (by omega)
  have c1 := hP.frozen 0
  have hPl : P < w.heap.size := hP.lt
  have hc := hO.cells p hlt
  have hf := hO.rng p hlt
  have hbl : b < w.heap.size := lt_of_cell hc
  obtain ⟨m, hm, hmm⟩ := and7 (f p / 4) (by omega) (by omega)
  have hset : Hid (But P 3 1 w (w.setCell ⟨P, 0, none⟩ (.int .i64 ((p : Int) + 1))) ∧ (w.setCell ⟨P, 0, none⟩ (.int .i64 ((p : Int) + 1))).cell? ⟨P, 0, none⟩ = some (.int .i64 ((p : Int) + 1))) :=
    Lib.hid ⟨(But.start hP).set 0 _, (hP.set 0 (.int .i64 ((p : Int) + 1))).cell (i := 0) (by omega)⟩
  rcases hq with hq | hq
  · go_enter Try.func8, Try.ntmps8
    go_wp2_with fail
    refine bodyPost_ret (v := .tuple #[.agg #[.iface 71 (.pointer (some ⟨w.heap.size + 1, 0, none⟩)), .int .i32 0], .int .i64 0]) (by simp [results, Try.results8, go_sem]) rfl ⟨_, 0, p + 1, rfl, by omega, by omega, fun h => by omega, fun _ => rfl, .leaf _ _ (by decide) (by decide), hset.out.1.next (((Below.refl _ _).alloc (Nat.le_refl _) _).alloc (by simp) _), ?_⟩
    exact ((((Below.refl _ (w.setCell ⟨P, 0, none⟩ (.int .i64 ((p : Int) + 1)))).alloc (Nat.le_refl _) _).alloc (by simp) _).cell (p := ⟨P, 0, none⟩) (by simpa using hPl)).trans hset.out.2
  · go_enter Try.func8, Try.ntmps8
    go_wp2_with fail
    refine bodyPost_ret (v := .tuple #[.agg #[.iface 75 (.pointer (some ⟨w.heap.size + 1, 0, none⟩)), .int .i32 0], .int .i64 0]) (by simp [results, Try.results8, go_sem]) rfl ⟨_, 0, p + 1, rfl, by omega, by omega, fun h => by omega, fun _ => rfl, .leaf _ _ (by decide) (by decide), hset.out.1.next (((Below.refl _ _).alloc (Nat.le_refl _) _).alloc (by simp) _), ?_⟩
    exact ((((Below.refl _ (w.setCell ⟨P, 0, none⟩ (.int .i64 ((p : Int) + 1)))).alloc (Nat.le_refl _) _).alloc (by simp) _).cell (p := ⟨P, 0, none⟩) (by simpa using hPl)).trans hset.out.2
theorem makeA (m : Nat) (hm : m ≤ 7) (w : World) : (Instr.makeSlice 78 (.int .i64 0) (.int .i64 (m : Int))).run Try.prog w = .ok (.slice (some ⟨w.heap.size, 0, none⟩) 0 m) (w.alloc (.cells (madeCells #[.nilIface, .int .i32 0, .nilIface, .int .i32 0, .int .i32 0] (m * 5)) 80)) := by
  obtain ⟨i, hi, hz, hs, hb⟩ := info_parts infoA
  have := run_make_rowN (P := Try.prog) 78 80 i _ Try.underlying78 hi hz .i64 .i64 0 m (Nat.zero_le _) (by rw [hb]; omega) (by omega) w
  rw [hs] at this
  exact this
theorem makeP (m : Nat) (hm : m ≤ 7) (w : World) : (Instr.makeSlice 84 (.int .i64 0) (.int .i64 (m : Int))).run Try.prog w = .ok (.slice (some ⟨w.heap.size, 0, none⟩) 0 m) (w.alloc (.cells (madeCells #[.nilIface, .int .i32 0, .nilIface, .int .i32 0, .nilIface, .int .i32 0, .int .i32 0, .int .i32 0, .bool false, .bool false, .bool false] (m * 11)) 86)) := by
  obtain ⟨i, hi, hz, hs, hb⟩ := info_parts infoP
  have := run_make_rowN (P := Try.prog) 84 86 i _ Try.underlying84 hi hz .i64 .i64 0 m (Nat.zero_le _) (by rw [hb]; omega) (by omega) w
  rw [hs] at this
  exact this
end Go.Proofs.Ytgiehlcmmikgmaa.Bind
