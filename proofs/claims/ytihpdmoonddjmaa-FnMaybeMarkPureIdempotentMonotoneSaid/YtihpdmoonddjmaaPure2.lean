/-
  maybeMarkKnownGlobalConstructorAsPure: for a node whose parts are known there is one answer q, whatever the flag was; the flag becomes 'flag or q' and nothing else turns. Condition: the parts lie as stated.
-/
import Derived.Test.YtihpdmoonddjmaaPure
namespace Go.Proofs.Ytihpdmoonddjmaa.Pure
open Go.RowKit Go.Proofs.Ytihpdmoonddjmaa.Ints

/-- What is fixed of a node: its blocks, the symbol's name and kind, the arguments. -/
structure Fix where
  P : Nat
  E : Nat
  T : Nat
  S : Nat
  nm : ByteArray
  k : Int
  o : Option Addr
  n : Nat
  A : Nat
  t0 : TypeId
  D : Nat
  oi : Option Addr
  m : Nat
  I : Nat
  ts : Nat → TypeId
  ps : Nat → Addr
structure Nw (x : Fix) (f : Bool) (w : World) : Prop where
  e0 : w.cell? ⟨x.E, 0, none⟩ = some (.iface 64 (.pointer (some ⟨x.T, 0, none⟩)))
  e2 : w.cell? ⟨x.E, 2, none⟩ = some (.slice x.o x.n x.n)
  e5 : w.cell? ⟨x.E, 5, none⟩ = some (.bool f)
  fz : w.frozen? ⟨x.E, 5, none⟩ = false
  t1 : w.cell? ⟨x.T, 1, none⟩ = some (.int .u32 0)
  p : w.cell? ⟨x.P, 106, none⟩ = some (.slice (some ⟨x.S, 0, none⟩) 1 1)
  s0 : w.cell? ⟨x.S, 0, none⟩ = some (.pointer none)
  s1 : w.cell? ⟨x.S, 1, none⟩ = some (.string x.nm)
  s2 : w.cell? ⟨x.S, 2, none⟩ = some (.int .u32 0)
  s3 : w.cell? ⟨x.S, 3, none⟩ = some (.int .u32 0)
  s4 : w.cell? ⟨x.S, 4, none⟩ = some (.int .u32 0)
  s5 : w.cell? ⟨x.S, 5, none⟩ = some (.int .u32 0)
  s6 : w.cell? ⟨x.S, 6, none⟩ = some (.int .u32 0)
  s7 : w.cell? ⟨x.S, 7, none⟩ = some (.int .u16 0)
  s8 : w.cell? ⟨x.S, 8, none⟩ = some (.int .u8 x.k)
  s9 : w.cell? ⟨x.S, 9, none⟩ = some (.int .u8 0)
  arg : x.n = 1 → x.o = some ⟨x.A, 0, none⟩ ∧ w.cell? ⟨x.A, 0, none⟩ = some (.iface x.t0 (.pointer (some ⟨x.D, 0, none⟩))) ∧ Kind8 x.t0 ∧
    (x.t0 = 307 → w.cell? ⟨x.D, 0, none⟩ = some (.slice x.oi x.m x.m) ∧ x.m ≤ 65536 ∧ ∀ i, i < x.m → x.oi = some ⟨x.I, 0, none⟩ ∧ w.cell? ⟨x.I, i * 2, none⟩ = some (.iface (x.ts i) (.pointer (some (x.ps i)))) ∧ w.cell? ⟨x.I, i * 2 + 1, none⟩ = some (.int .i32 0))
  nS : x.S ≠ x.E
  nI : x.I ≠ x.E
/-- How a world differs from an earlier one: grown, and the node's flag perhaps set. -/
def Mk (x : Fix) (q : Bool) (w : World) (e : Ending) (w' : World) : Prop := e = .returned (.tuple #[]) ∧ ∃ W, Below w.heap.size w W ∧ w' = cond q (W.setCell ⟨x.E, 5, none⟩ (.bool true)) W
theorem Nw.after {x : Fix} {f q : Bool} {w w' : World} {e : Ending} (h : Nw x f w) (hm : Mk x q w e w') : Nw x (f || q) w' := by
  obtain ⟨_, W, hB, rfl⟩ := hm
  have kb : ∀ {p : Addr} {u : Value}, w.cell? p = some u → W.cell? p = some u := fun hp => (hB.cell (lt_of_cell hp)).trans hp
  have k : ∀ {p : Addr} {u : Value}, p ≠ ⟨x.E, 5, none⟩ → w.cell? p = some u → (cond q (W.setCell ⟨x.E, 5, none⟩ (.bool true)) W).cell? p = some u := fun {p u} hp hc => by
    cases q
    · exact kb hc
    · show (W.setCell _ _).cell? p = _
      rw [World.cell?_setCell_other _ _ _ _ (Ne.symm hp)]
      exact kb hc
  have d1 : ∀ {b o : Nat}, b ≠ x.E → (⟨b, o, none⟩ : Addr) ≠ ⟨x.E, 5, none⟩ := fun hb he => hb (congrArg Addr.block he)
  have d2 : ∀ {b o : Nat}, o ≠ 5 → (⟨b, o, none⟩ : Addr) ≠ ⟨x.E, 5, none⟩ := fun ho he => ho (congrArg Addr.off he)
  refine ⟨k (d2 (by decide)) h.e0, k (d2 (by decide)) h.e2, ?_, ?_, k (d2 (by decide)) h.t1, k (d2 (by decide)) h.p, k (d1 h.nS) h.s0, k (d1 h.nS) h.s1, k (d1 h.nS) h.s2, k (d1 h.nS) h.s3, k (d1 h.nS) h.s4, k (d1 h.nS) h.s5, k (d1 h.nS) h.s6, k (d1 h.nS) h.s7, k (d1 h.nS) h.s8, k (d1 h.nS) h.s9, fun hn => ?_, h.nS, h.nI⟩
  · cases q
    · rw [Bool.or_false]; exact kb h.e5
    · rw [Bool.or_true]; exact World.cell?_setCell_same _ _ _ (kb h.e5)
  · have hf : W.frozen? ⟨x.E, 5, none⟩ = false := (hB.frozen (p := ⟨x.E, 5, none⟩) (lt_of_cell h.e5)).trans h.fz
    cases q
    · exact hf
    · show (W.setCell _ _).frozen? _ = _
      rw [World.frozen?_setCell]; exact hf
  · obtain ⟨h1, h2, h3, h4⟩ := h.arg hn
    refine ⟨h1, k (d2 (by decide)) h2, h3, fun ht => ?_⟩
    obtain ⟨g1, g2, g3⟩ := h4 ht
    refine ⟨k (d2 (by decide)) g1, g2, fun i hi => ?_⟩
    obtain ⟨q1, q2, q3⟩ := g3 i hi
    exact ⟨q1, k (d1 h.nI) q2, k (d1 h.nI) q3⟩

set_option maxRecDepth 100000 in
set_option maxHeartbeats 2000000 in
theorem mark_bound (x : Fix) (hk : x.k = 27) (f : Bool) (w : World) (h : Nw x f w) : Calls Try.prog 47 #[.pointer (some ⟨x.P, 0, none⟩), .pointer (some ⟨x.E, 0, none⟩)] w (Mk x false w) := by
  obtain ⟨e0, e2, e5, fz, t1, p, s0, s1, s2, s3, s4, s5, s6, s7, s8, s9, arg, nS, nI⟩ := h
  rw [hk] at s8
  clear arg e2 e5 fz
  obtain ⟨P, E, T, S, nm, k, o, n, A, t0, D, oi, m, I, ts, ps⟩ := x
  simp only at *
  have h64 := ta_EIdentifier
  have lT : T < w.heap.size := lt_of_cell t1
  have lS : S < w.heap.size := lt_of_cell s0
  have lP : P < w.heap.size := lt_of_cell p
  go_enter Try.func47, Try.ntmps47
  go_wp2_with fail
  go_region
  go_wp2_with fail
  go_end0
  exact ⟨rfl, _, ((Below.refl _ _).alloc (Nat.le_refl _) _).drew, rfl⟩
end Go.Proofs.Ytihpdmoonddjmaa.Pure
