/-
  ZZapplyExtendedConfig_n011_147. Condition: none.
-/
import Derived.Test.YtodbjiiogjoogaaExt3
namespace Go.Proofs.Ytodbjiiogjoogaa.Ext
open Go.RowKit Go.ChangeShapes Go.WideShapes Go.ChangeAt Go.Proofs.Ytodbjiiogjoogaa.Ints
def App (w w' : World) (D : Nat) (da : ByteArray) (U : Option Addr) (f : ByteArray) (P : Option Addr) (l : ByteArray) (n : Int) (S A : Option Addr) : Prop :=
  At w' D da U f P l n S A ∧ Below D w w' ∧ ∀ b, b < w.heap.size → b ≠ D → w'.heap[b]? = w.heap[b]?
theorem At.row {w : World} {B : Nat} {a f l : ByteArray} {U P S A : Option Addr} {n : Int} (h : At w B a U f P l n S A) : ∃ fr, w.heap[B]? = some (.cells (C a U f P l n S A) 54 fr) := by
  obtain ⟨cs, h1, h2, h3⟩ := h
  have e : cs = C a U f P l n S A := by
    apply Array.ext
    · rw [h2]; rfl
    · intro i hi1 hi2
      have h4 := h3 i (by rw [← h2]; exact hi1)
      unfold cf at h4
      rw [Array.getD_eq_getD_getElem?, Array.getElem?_eq_getElem hi1, Array.getElem?_eq_getElem hi2] at h4
      exact Option.some.inj h4
  rw [← e]
  exact ⟨_, h1⟩
theorem sizeT : (Try.prog.info? 54).map (·.size) = some 29 := by kernel_rfl
set_option maxRecDepth 100000 in
theorem apply (D : Nat) (da df dl ba bf bl : ByteArray) (dn bn : Int) (dU dP dS dA bU bP bS bA : Option Addr) (w : World) (h : At w D da dU df dP dl dn dS dA) :
    Calls Try.prog 6 #[.pointer (some ⟨D, 0, none⟩), .agg (C ba bU bf bP bl bn bS bA)] w fun e w' => e = .returned (.tuple #[]) ∧
      App w w' D da (orElse bU dU) (pf bP bf df) (orElse bP dP) (pk bn bl dl) (pk bn bn dn) (orElse bS dS) (orElse bA dA) := by
  have hD := World.rowIs.lt h
  have b1 : Below w.heap.size w (w.alloc (.cells (C ba bU bf bP bl bn bS bA) 54)) := (Below.refl _ _).alloc (Nat.le_refl _) _
  have h3 := Lib.hid (atAlloc2 w ba bU bf bP bl bn bS bA)
  have hw : ∀ w1, At w1 D da dU df dP dl dn dS dA → _ := fun w1 h => inner D da df dl ba bf bl dn bn dU dP dS dA bU bP bS bA w1 h
  have hA : At (w.alloc (.cells (C ba bU bf bP bl bn bS bA) 54)) D da dU df dP dl dn dS dA := World.rowIs.of_block h (b1.block _ hD)
  unfold C at b1 h3 hA hw ⊢
  replace b1 := Lib.hid b1
  replace hA := Lib.hid hA
  replace hw := Lib.hid hw
  clear h
  go_enter Try.func6, Try.ntmps6
  go_upto_region 1 with fail
  generalize (w.alloc _) = w1 at b1 h3 hA ⊢
  obtain ⟨fr, hg⟩ := At.row h3.out
  unfold C at hg
  replace hg := Lib.hid hg
  go_wp2_with (refine wpList_load_row rfl 54 _ rfl w.heap.size rfl _ _ fr _ hg.out Try.underlying54 rfl sizeT ?_)
  have h1 := Lib.hid (hw.out w1 hA.out)
  refine h1.out.mono ?_
  rintro e w2 ⟨rfl, h2⟩
  replace h2 := Lib.hid h2
  go_wp2_with fail
  go_end0
  exact ⟨rfl, h2.out.own, (b1.out.mono (Nat.le_of_lt hD)).trans h2.out.below, fun b h3 h4 => (h2.out.keep b (Nat.lt_of_lt_of_le h3 b1.out.size) h4).trans (b1.out.block b h3)⟩
end Go.Proofs.Ytodbjiiogjoogaa.Ext
