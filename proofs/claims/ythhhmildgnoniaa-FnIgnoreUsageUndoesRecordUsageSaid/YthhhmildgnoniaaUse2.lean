/-
  What recordUsage and ignoreUsage leave: the parser's symbols, counts, part. No condition.
-/
import Derived.Test.YthhhmildgnoniaaUse
import Derived.Lib.Hide
import Derived.Laws.Cover3
import Derived.RegionTactic
import Derived.ChangeAlike
import Derived.Deep.QuietTactic
import Derived.BigQuiet
import Derived.BigRegion
import Derived.Deep.RegionHeld3
import Derived.Deep.DeepCutAuto
import Derived.StillTailTactics
namespace Go.Proofs.Ythhhmildgnoniaa.Use
open Go.RowKit Go.ChangeShapes Go.WideShapes Go.ChangeAt Go.Proofs.Ythhhmildgnoniaa.Ints Go.Maps

/-- Worlds that part in blocks of which S holds, and in new ones. -/
structure Oth (S : Nat → Prop) (w w' : World) : Prop where
  os : w'.os = w.os
  tape : w'.tape = w.tape
  output : w'.output = w.output
  size : w.heap.size ≤ w'.heap.size
  block : ∀ b, b < w.heap.size → ¬ S b → w'.heap[b]? = w.heap[b]?
section
variable {S : Nat → Prop} {w w' w'' : World}
theorem Oth.refl (S : Nat → Prop) (w : World) : Oth S w w := ⟨rfl, rfl, rfl, Nat.le_refl _, fun _ _ _ => rfl⟩
theorem Oth.trans (h : Oth S w w') (k : Oth S w' w'') : Oth S w w'' :=
  ⟨k.os.trans h.os, k.tape.trans h.tape, k.output.trans h.output, Nat.le_trans h.size k.size, fun b h1 h2 => (k.block b (Nat.lt_of_lt_of_le h1 h.size) h2).trans (h.block b h1 h2)⟩
theorem Oth.below (h : Oth S w w') {B : Nat} (hB : B ≤ w.heap.size) (hS : ∀ b, S b → B ≤ b) : Below B w w' :=
  ⟨h.os, h.tape, h.output, h.size, fun b hb => h.block b (by omega) (fun e => by have := hS b e; omega)⟩
theorem Oth.of_below (h : Below w.heap.size w w') : Oth S w w' := ⟨h.os, h.tape, h.output, h.size, fun b h1 _ => h.block b h1⟩
theorem Oth.set (a : Addr) (v : Value) (hs : S a.block) : Oth S w (w.setCell a v) :=
  ⟨(Below.refl 0 w |>.setCell (Nat.zero_le _) v (p := a)).os, (Below.refl 0 w |>.setCell (Nat.zero_le _) v (p := a)).tape, (Below.refl 0 w |>.setCell (Nat.zero_le _) v (p := a)).output, (Below.refl 0 w |>.setCell (Nat.zero_le _) v (p := a)).size,
    fun b _ h => Go.Deep.blk_setCell_other _ _ _ _ (fun e => h (by rw [e]; exact hs))⟩
theorem Oth.grown {b : Nat} (h : w.grownBy w' (some b)) (hs : S b) : Oth S w w' :=
  ⟨h.os, h.tape, h.output, h.size, fun i hi hn => h.block i hi (fun e => by cases e; exact hn hs)⟩
theorem Oth.cell (h : Oth S w w') {b o : Nat} {v : Value} (g : w.cell? ⟨b, o, none⟩ = some v) (hb : ¬ S b) : w'.cell? ⟨b, o, none⟩ = some v :=
  (World.cell?_of_block (w := w) (h.block b (lt_of_cell g) hb)).trans g
end
/-- The parser's cells that are read. -/
structure Pr (w : World) (P S T n : Nat) (q : Option (Nat × Nat)) (dead tp : Bool) : Prop where
  part : w.cell? ⟨P, 105, none⟩ = some (.pointer (q.map fun q => ⟨q.1, 0, none⟩))
  syms : w.cell? ⟨P, 106, none⟩ = some (.slice (some ⟨S, 0, none⟩) n n)
  tss : w.cell? ⟨P, 108, none⟩ = some (.slice (some ⟨T, 0, none⟩) n n)
  dead : w.cell? ⟨P, 350, none⟩ = some (.bool dead)
  tp : w.cell? ⟨P, 32, none⟩ = some (.bool tp)
def SS (S T : Nat) (q : Option (Nat × Nat)) (b : Nat) : Prop := b = S ∨ b = T ∨ ∃ p, q = some (p, b)
structure St (w : World) (P S T n : Nat) (q : Option (Nat × Nat)) (dead tp : Bool) (U C c : Nat → Nat) (D : DataW Unit) (N : Nat) : Prop where
  pr : Pr w P S T n q dead tp
  sy : ∃ G, w.rowIs S 192 (n * 10) G ∧ ∀ i, i < n → G (i * 10 + 4) = .int .u32 (U i : Int)
  ts : w.rowIs T 23 n (fun i => .int .u32 (C i : Int))
  part : ∀ p M, q = some (p, M) → w.cell? ⟨p, 4, none⟩ = some (.map (some M)) ∧ w.ownsMap Try.prog 171 useR M N D ∧ V n D c ∧ M ≠ S ∧ M ≠ T ∧ M ≠ P ∧ M ≠ p ∧ p ≠ S ∧ p ≠ T
  ne : S ≠ T ∧ P ≠ S ∧ P ≠ T
  le : ∀ i, i < n → U i ≤ N ∧ C i ≤ N ∧ c i ≤ N
  small : n ≤ 4096 ∧ N ≤ 1000000
section
variable {w w' : World} {P S T n N : Nat} {q : Option (Nat × Nat)} {dead tp : Bool} {U C c : Nat → Nat} {D : DataW Unit}
theorem Pr.keep (h : Pr w P S T n q dead tp) (hk : ∀ b o v, w.cell? ⟨b, o, none⟩ = some v → b = P → w'.cell? ⟨b, o, none⟩ = some v) : Pr w' P S T n q dead tp :=
  ⟨hk _ _ _ h.part rfl, hk _ _ _ h.syms rfl, hk _ _ _ h.tss rfl, hk _ _ _ h.dead rfl, hk _ _ _ h.tp rfl⟩
theorem St.keep (h : St w P S T n q dead tp U C c D N) (hB : Below w.heap.size w w') : St w' P S T n q dead tp U C c D N := by
  have hk : ∀ b o v, w.cell? ⟨b, o, none⟩ = some v → w'.cell? ⟨b, o, none⟩ = some v := fun b o v g => (hB.cell (p := ⟨b, o, none⟩) (lt_of_cell g)).trans g
  obtain ⟨G, hG, hc⟩ := h.sy
  refine ⟨h.pr.keep fun b o v g _ => hk b o v g, ⟨G, hG.of_block (hB.block _ hG.lt), hc⟩, h.ts.of_block (hB.block _ h.ts.lt), fun p M e => ?_, h.ne, h.le, h.small⟩
  obtain ⟨h1, h2, h3⟩ := h.part p M e
  obtain ⟨es, clock, hb, F, hs, hD⟩ := h2
  exact ⟨hk _ _ _ h1, ⟨es, clock, (hB.block _ (Array.getElem?_eq_some_iff.1 hb).1).trans hb, F, hs, hD⟩, h3⟩
theorem St.drew (h : St w P S T n q dead tp U C c D N) : St w.drew P S T n q dead tp U C c D N := h.keep (Below.refl _ _).drew
theorem St.incU (h : St w P S T n q dead tp U C c D N) {x m : Nat} (hx : x < n) (hm : m ≤ N) : St (w.setCell ⟨S, x * 10 + 4, none⟩ (.int .u32 (m : Int))) P S T n q dead tp (upd U x m) C c D N := by
  obtain ⟨G, hG, hc⟩ := h.sy
  refine ⟨h.pr.keep fun b o v g e => ?_, ⟨_, hG.set (x * 10 + 4) _, fun i hi => ?_⟩, h.ts.setOther (fun e => h.ne.1 e.symm) _, fun p M e => ?_, h.ne, fun i hi => ?_, h.small⟩
  · rw [World.cell?_setCell_far _ _ _ _ (by show S ≠ b; rw [e]; exact fun e => h.ne.2.1 e.symm)]; exact g
  · by_cases e : i = x
    · subst e; simp [upd]
    · rw [if_neg (by omega), hc i hi]; simp [upd, e]
  · obtain ⟨h1, h2, h3, h4, h5, h6, h7, h8, h9⟩ := h.part p M e
    exact ⟨by rw [World.cell?_setCell_far _ _ _ _ (by show S ≠ p; exact fun e => h8 e.symm)]; exact h1, h2.setCell h4 _, h3, h4, h5, h6, h7, h8, h9⟩
  · obtain ⟨a1, a2, a3⟩ := h.le i hi
    refine ⟨?_, a2, a3⟩
    unfold upd; split <;> omega
theorem St.incC (h : St w P S T n q dead tp U C c D N) {x m : Nat} (hx : x < n) (hm : m ≤ N) : St (w.setCell ⟨T, x, none⟩ (.int .u32 (m : Int))) P S T n q dead tp U (upd C x m) c D N := by
  obtain ⟨G, hG, hc⟩ := h.sy
  refine ⟨h.pr.keep fun b o v g e => ?_, ⟨G, hG.setOther h.ne.1 _, hc⟩, (h.ts.set x _).congr fun i hi => ?_, fun p M e => ?_, h.ne, fun i hi => ?_, h.small⟩
  · rw [World.cell?_setCell_far _ _ _ _ (by show T ≠ b; rw [e]; exact fun e => h.ne.2.2 e.symm)]; exact g
  · by_cases e : i = x
    · subst e; simp [upd]
    · simp [upd, e]
  · obtain ⟨h1, h2, h3, h4, h5, h6, h7, h8, h9⟩ := h.part p M e
    exact ⟨by rw [World.cell?_setCell_far _ _ _ _ (by show T ≠ p; exact fun e => h9 e.symm)]; exact h1, h2.setCell h5 _, h3, h4, h5, h6, h7, h8, h9⟩
  · obtain ⟨a1, a2, a3⟩ := h.le i hi
    refine ⟨a1, ?_, a3⟩
    unfold upd; split <;> omega
theorem St.mono (h : St w P S T n q dead tp U C c D N) {N' : Nat} (hN : N ≤ N') (hs : N' ≤ 1000000) : St w P S T n q dead tp U C c D N' :=
  ⟨h.pr, h.sy, h.ts, fun p M e => by obtain ⟨h1, h2, h3⟩ := h.part p M e; exact ⟨h1, h2.mono hN, h3⟩, h.ne, fun i hi => by have := h.le i hi; omega, h.small.1, hs⟩
/-- The map's block has turned alone. -/
theorem St.turn {p M : Nat} (h : St w P S T n (some (p, M)) dead tp U C c D N) (hg : w.grownBy w' (some M)) {D' : DataW Unit} {c' : Nat → Nat} (hM : w'.ownsMap Try.prog 171 useR M N D') (hV : V n D' c') (hc : ∀ i, i < n → c' i ≤ N) :
    St w' P S T n (some (p, M)) dead tp U C c' D' N := by
  obtain ⟨h1, h2, h3, h4, h5, h6, h7, h8, h9⟩ := h.part p M rfl
  have hk : ∀ b o v, b ≠ M → w.cell? ⟨b, o, none⟩ = some v → w'.cell? ⟨b, o, none⟩ = some v := fun b o v hb g => (World.cell?_of_block (w := w) (hg.block b (lt_of_cell g) (fun e => hb (by cases e; rfl)))).trans g
  obtain ⟨G, hG, hcc⟩ := h.sy
  refine ⟨h.pr.keep fun b o v g e => hk b o v (by rw [e]; exact fun e => h6 e.symm) g, ⟨G, hG.of_block (hg.block _ hG.lt (fun e => h4 (by cases e; rfl))), hcc⟩, h.ts.of_block (hg.block _ h.ts.lt (fun e => h5 (by cases e; rfl))), ?_, h.ne, fun i hi => ⟨(h.le i hi).1, (h.le i hi).2.1, hc i hi⟩, h.small⟩
  rintro p' M' e
  cases e
  exact ⟨hk _ _ _ (fun e => h7 e.symm) h1, hM, hV, h4, h5, h6, h7, h8, h9⟩
end
theorem infoU : (Try.prog.info? 194).map (·.zero) = some (some (.agg #[.int .u32 0])) := by kernel_rfl
theorem zeroU (w : World) : (zeroValue 194).run Try.prog w = .ok (.agg #[.int .u32 0]) w := by
  have h := infoU
  cases hi : Try.prog.info? 194 with
  | none => rw [hi] at h; cases h
  | some i => rw [hi] at h; simp at h; simp [zeroValue, typeInfo, hi, h]
theorem look {w : World} {n M N x : Nat} {D : DataW Unit} {c : Nat → Nat} (hM : w.ownsMap Try.prog 171 useR M N D) (hV : V n D c) (hn : n ≤ 4096) (hx : x < n) :
    (Instr.lookup 176 (.map (some M)) (refV x) false).run Try.prog w = .ok (.agg #[.int .u32 (c x : Int)]) w := by
  obtain ⟨v, ps, hr, hv⟩ := hM.lookup law Try.underlying176 (zeroU w) (zd := cnt 0) (zp := []) rfl (kl_eq x (by omega))
  rw [hV.at_ x hx] at hv
  rw [hr, useR_inv hv]
theorem look_ok {w : World} {n M N x : Nat} {D : DataW Unit} {c : Nat → Nat} (hM : w.ownsMap Try.prog 171 useR M N D) (hV : V n D c) (hn : n ≤ 4096) (hx : x < n) :
    (Instr.lookup 176 (.map (some M)) (refV x) true).run Try.prog w = .ok (.tuple #[.agg #[.int .u32 (c x : Int)], .bool (decide (c x ≠ 0))]) w := by
  obtain ⟨v, ps, hr, hv⟩ := hM.look_ok law Try.underlying176 (zeroU w) (zd := cnt 0) (zp := []) rfl (kl_eq x (by omega))
  rw [hV.at_ x hx] at hv
  rw [hr, useR_inv hv, hV.has x hx]
end Go.Proofs.Ythhhmildgnoniaa.Use
