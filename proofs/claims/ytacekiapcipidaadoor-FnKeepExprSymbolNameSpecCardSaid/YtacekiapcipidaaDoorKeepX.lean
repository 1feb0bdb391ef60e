/-
  keepExprSymbolName: a call of the runtime's function with the value and the name's units. Condition: at most 2^20 bytes.
-/
import Derived.Test.YtacekiapcipidaaDoorKeepC
namespace Go.Proofs.YtacekiapcipidaaDoor.Sym
open Go.RowKit Go.ChangeShapes Go.WideShapes Go.ChangeAt Go.Proofs.YtacekiapcipidaaDoor.Ints Go.Proofs.YtacekiapcipidaaDoor.MapX Go.Proofs.YtacekiapcipidaaDoor.ToUtf16

theorem bcellK {W w1 : World} (hb : Below W.heap.size W w1) : (∀ b o, b < W.heap.size → w1.cell? ⟨b, o, none⟩ = W.cell? ⟨b, o, none⟩) ∧ (∀ b o, b < W.heap.size → w1.frozen? ⟨b, o, none⟩ = W.frozen? ⟨b, o, none⟩) :=
  ⟨fun b o h => hb.cell (p := ⟨b, o, none⟩) h, fun b o h => hb.frozen (p := ⟨b, o, none⟩) h⟩
theorem own_lt {w : World} {B e size k cap n g : Nat} {xs : List Value} (h : w.ownsRow B e size (.slice (some ⟨g, 0, none⟩) k cap) n xs) : g < w.heap.size := by
  rcases h.2 with ⟨h0, _⟩ | ⟨g', cap, cur, e1, e2, e3, r⟩
  · cases h0
  · cases e1; exact (Array.getElem?_eq_some_iff.1 e3).1
theorem own_at {w w' : World} {B e size k cap n g : Nat} {xs : List Value} (h : w.ownsRow B e size (.slice (some ⟨g, 0, none⟩) k cap) n xs) (hk : w'.heap[g]? = w.heap[g]?) : w'.ownsRow B e size (.slice (some ⟨g, 0, none⟩) k cap) n xs := by
  rcases h.2 with ⟨h0, _⟩ | ⟨g', cap', cur, e1, e2, e3, r⟩
  · cases h0
  · cases e1; exact ⟨h.1, .inr ⟨g, cap, cur, rfl, e2, hk.trans e3, r⟩⟩
/-- The rows of the call's answer. -/
structure Rw (B : Nat) (w' : World) (P E I A S U g n : Nat) (F' G fI fE fA fS : Nat → Value) (m c : Nat) (ys : List Value) : Prop where
  e : w'.rowIs E 43 8 fE
  i : w'.rowIs I 193 5 fI
  p : w'.rowIs P 176 353 F'
  g : w'.rowIs g 203 n G
  a : w'.rowIs A 31 4 fA
  s : w'.rowIs S 190 5 fS
  u : w'.ownsRow B 198 1 (.slice (some ⟨U, 0, none⟩) m c) m ys
section
variable {B P E I A S U g n m c : Nat} {w w' : World} {F' G fI fE fA fS : Nat → Value} {ys : List Value}
theorem Rw.keep (h : Rw B w P E I A S U g n F' G fI fE fA fS m c ys) (hk : ∀ b, b = E ∨ b = I ∨ b = P ∨ b = g ∨ b = A ∨ b = S ∨ b = U → w'.heap[b]? = w.heap[b]?) : Rw B w' P E I A S U g n F' G fI fE fA fS m c ys :=
  ⟨h.e.of_block (hk _ (by simp)), h.i.of_block (hk _ (by simp)), h.p.of_block (hk _ (by simp)), h.g.of_block (hk _ (by simp)), h.a.of_block (hk _ (by simp)), h.s.of_block (hk _ (by simp)), own_at h.u (hk _ (by simp))⟩
theorem Rw.setO (h : Rw B w P E I A S U g n F' G fI fE fA fS m c ys) {N j : Nat} {v : Value} (hN : E ≠ N ∧ I ≠ N ∧ P ≠ N ∧ g ≠ N ∧ A ≠ N ∧ S ≠ N ∧ U ≠ N) : Rw B (w.setCell ⟨N, j, none⟩ v) P E I A S U g n F' G fI fE fA fS m c ys :=
  h.keep (fun b hb => Go.Deep.blk_setCell_other _ _ _ _ (by obtain ⟨h1, h2, h3, h4, h5, h6, h7⟩ := hN; rcases hb with rfl | rfl | rfl | rfl | rfl | rfl | rfl <;> assumption))
theorem Rw.setE (h : Rw B w P E I A S U g n F' G fI fE fA fS m c ys) (hE : E ≠ U) (hA : I ≠ E) (hP : P ≠ E) (hg : g ≠ E) (hAA : A ≠ E) (hS : S ≠ E) (j : Nat) (v : Value) : Rw B (w.setCell ⟨E, j, none⟩ v) P E I A S U g n F' G fI (fun k => if k = j then v else fE k) fA fS m c ys :=
  ⟨h.e.set j v, h.i.setOther hA v, h.p.setOther hP v, h.g.setOther hg v, h.a.setOther hAA v, h.s.setOther hS v, own_at h.u (Go.Deep.blk_setCell_other _ _ _ _ (fun e => hE e.symm))⟩
end
theorem mid {B P Sc Mp : Nat} {F f : Nat → Value} {l : Int} {vd : Value} {w W w2 w3 : World} {m cp : Nat} {ys : List Value} (h : Pq B w P Sc Mp F f) (hW : W = (((w.alloc (.cells #[vd, .int .i32 l] 31)).alloc (.cells #[.nilIface, .int .i32 0] 31)).drew))
    (o2 : w2.ownsRow W.heap.size 198 1 (.slice (some ⟨W.heap.size, 0, none⟩) m cp) m ys) (b2 : Below W.heap.size W w2) {E I g n : Nat} {F' G fI fE : Nat → Value}
    (k3 : KK B P Sc ((w2.alloc (.cells #[.slice (some ⟨w.heap.size + 1 + 1, 0, none⟩) m cp, .int .i32 0, .bool false, .bool false, .bool false] 190)).alloc (.cells #[vd, .int .i32 l, .iface 188 (.pointer (some ⟨w2.heap.size, 0, none⟩)), .int .i32 l] 31)) w3)
    (rE : w3.rowIs E 43 8 fE) (rI : w3.rowIs I 193 5 fI) (rP : w3.rowIs P 176 353 F') (rg : w3.rowIs g 203 n G) :
    ∃ fA fS M M2 : Nat → Value, Rw (w.heap.size + 1 + 1) w3 P E I (w2.heap.size + 1) w2.heap.size (w.heap.size + 1 + 1) g n F' G fI fE fA fS m cp ys ∧ fA 0 = vd ∧ fA 1 = .int .i32 l ∧ fA 2 = .iface 188 (.pointer (some ⟨w2.heap.size, 0, none⟩)) ∧ fA 3 = .int .i32 l ∧ fS 0 = .slice (some ⟨w.heap.size + 1 + 1, 0, none⟩) m cp ∧
      w3.rowIs w.heap.size 31 2 M ∧ M 1 = .int .i32 l ∧ w3.rowIs (w.heap.size + 1) 31 2 M2 ∧ KK B P Sc w w3 ∧ w.heap.size + 1 + 1 < w2.heap.size ∧ w2.heap.size + 1 < w3.heap.size := by
  have eW : W.heap.size = w.heap.size + 1 + 1 := by rw [hW]; simp
  rw [← eW] at k3 ⊢
  have l2 := own_lt o2
  have rN : W.rowIs w.heap.size 31 2 (fun j => (#[vd, .int .i32 l] : Array Value).getD j undef) := by
    rw [hW]
    exact (row_new w #[vd, .int .i32 l] 31 2 rfl).alloc (.cells #[.nilIface, .int .i32 0] 31)
  have rR : W.rowIs (w.heap.size + 1) 31 2 (fun j => (#[.nilIface, .int .i32 0] : Array Value).getD j undef) := by
    have := row_new (w.alloc (.cells #[vd, .int .i32 l] 31)) #[.nilIface, .int .i32 0] 31 2 rfl
    rw [World.size_alloc] at this
    rw [hW]
    exact this
  have b1 : Below w.heap.size w W := by rw [hW]; exact (((Below.refl _ _).alloc (Nat.le_refl _) _).alloc (by simp) _).drew
  have rN2 := ((rN.of_block (b2.block _ (by omega))).alloc (.cells #[.slice (some ⟨W.heap.size, 0, none⟩) m cp, .int .i32 0, .bool false, .bool false, .bool false] 190)).alloc (.cells #[vd, .int .i32 l, .iface 188 (.pointer (some ⟨w2.heap.size, 0, none⟩)), .int .i32 l] 31)
  have rR2 := ((rR.of_block (b2.block _ (by omega))).alloc (.cells #[.slice (some ⟨W.heap.size, 0, none⟩) m cp, .int .i32 0, .bool false, .bool false, .bool false] 190)).alloc (.cells #[vd, .int .i32 l, .iface 188 (.pointer (some ⟨w2.heap.size, 0, none⟩)), .int .i32 l] 31)
  have rS := (row_new w2 #[.slice (some ⟨W.heap.size, 0, none⟩) m cp, .int .i32 0, .bool false, .bool false, .bool false] 190 5 rfl).alloc (.cells #[vd, .int .i32 l, .iface 188 (.pointer (some ⟨w2.heap.size, 0, none⟩)), .int .i32 l] 31)
  have rA := row_new (w2.alloc (.cells #[.slice (some ⟨W.heap.size, 0, none⟩) m cp, .int .i32 0, .bool false, .bool false, .bool false] 190)) #[vd, .int .i32 l, .iface 188 (.pointer (some ⟨w2.heap.size, 0, none⟩)), .int .i32 l] 31 4 rfl
  rw [World.size_alloc] at rA
  have hP := h.core.row.lt
  have hS := h.sc.lt
  have b4 : Below w.heap.size w ((w2.alloc (.cells #[.slice (some ⟨W.heap.size, 0, none⟩) m cp, .int .i32 0, .bool false, .bool false, .bool false] 190)).alloc (.cells #[vd, .int .i32 l, .iface 188 (.pointer (some ⟨w2.heap.size, 0, none⟩)), .int .i32 l] 31)) :=
    ((b1.trans (b2.mono (by omega))).alloc (by omega) _).alloc (by simp; omega) _
  have u4 : ((w2.alloc (.cells #[.slice (some ⟨W.heap.size, 0, none⟩) m cp, .int .i32 0, .bool false, .bool false, .bool false] 190)).alloc (.cells #[vd, .int .i32 l, .iface 188 (.pointer (some ⟨w2.heap.size, 0, none⟩)), .int .i32 l] 31)).heap[W.heap.size]? = w2.heap[W.heap.size]? :=
    (Go.Deep.blk_alloc_lt _ _ _ (by simp; omega)).trans (Go.Deep.blk_alloc_lt _ _ _ l2)
  have u5 : w3.heap[W.heap.size]? = w2.heap[W.heap.size]? := by
    rcases o2.2 with ⟨h0, _⟩ | ⟨g', cap', cur, e1, e2, e3, r⟩
    · cases h0
    · cases e1
      exact (k3.kp _ cur _ _ (u4.trans e3) (by decide) (by decide) (by omega) (by omega)).trans u4
  have hge := h.ge
  have hs3 := k3.bel.size
  simp only [World.size_alloc] at hs3
  have K : KK B P Sc w w3 := ⟨(b4.mono (by omega)).trans k3.bel, fun b cur t fr e h1 h2 h3 h4 => by
    have e1 := b4.block b (Array.getElem?_eq_some_iff.1 e).1
    exact (k3.kp b cur t fr (e1.trans e) h1 h2 h3 h4).trans e1⟩
  exact ⟨_, _, _, _, ⟨rE, rI, rP, rg, row_kk rA k3 (by decide) (by decide) (by omega) (by omega), row_kk rS k3 (by decide) (by decide) (by omega) (by omega), own_at o2 u5⟩, rfl, rfl, rfl, rfl, rfl, row_kk rN2 k3 (by decide) (by decide) (by omega) (by omega), rfl, row_kk rR2 k3 (by decide) (by decide) (by omega) (by omega), K, l2, by omega⟩
end Go.Proofs.YtacekiapcipidaaDoor.Sym
