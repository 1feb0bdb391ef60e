/-
  The keys of the map of symbol uses; how the map reads, key by key. No condition.
-/
import Derived.Test.YthhhmildgnoniaaFacts
import Derived.Test.YthhhmildgnoniaaBuild2
import Derived.Test.YthhhmildgnoniaaBools
import Derived.Test.YthhhmildgnoniaaBut
import Derived.Maps.OwnSet
import Derived.DeepKeys4
import Derived.KernelRfl
namespace Go.Proofs.Ythhhmildgnoniaa.Use
open Go.RowKit Go.ChangeShapes Go.WideShapes Go.ChangeAt Go.Proofs.Ythhhmildgnoniaa.Ints Go.Maps

theorem rowR : (171 : TypeId) < Try.prog.types.size := of_decide_eq_true (by kernel_rfl)
theorem keyT : Try.prog.keyTypeAt 2 171 = true := by kernel_rfl
theorem keyT' : Try.prog.keyType 171 = true := by kernel_rfl
theorem klaw : WideMaps.KeyLaw Try.prog 171 := deep_law_laid Facts.laidOut (m := 2) (by omega) rowR keyT (by rw [Try.underlying171])
theorem law : Keyed Try.prog 171 := Keyed.of_law klaw
def refV (i : Nat) : Value := .agg #[.int .u32 0, .int .u32 (i : Int)]
theorem wf32 (i : Nat) (h : i < 4294967296) : (Lit.int .u32 (i : Int)).wf = true := by
  simp [Lit.wf, IntKind.min, IntKind.max, IntKind.signed, IntKind.bits]
  omega
theorem formedR (i : Nat) : (refV i).formed Try.prog 171 = true := by kernel_rfl
theorem size2 : ∃ m, Try.prog.types.size + 1 = m + 1 + 1 + 1 := ⟨Try.prog.types.size - 2, by have h : (171 : Nat) < Try.prog.types.size := rowR; omega⟩
theorem cells1 : Try.prog.cellsOf 23 = 1 := by kernel_rfl
theorem cells2 : Try.prog.cellsOf 171 = 2 := by kernel_rfl
theorem key (i : Nat) (h : i < 4294967296) : ∃ l, keyOf Try.prog 171 (refV i) = some l := by
  obtain ⟨m, hm⟩ := size2
  refine ⟨.string (keyBytes [.int .u32 0, .int .u32 (i : Int)]), ?_⟩
  have hw := wf32 i h
  have hw0 : (Lit.int .u32 0).wf = true := by decide
  unfold keyOf
  rw [hm, keyT', formedR]
  simp [Try.underlying171, Try.underlying23, refV, Program.keyLits, cells1, cells2, hw, hw0, Value.cells]
theorem kl_ex : ∃ f : Nat → Lit, ∀ i, i < 4294967296 → keyOf Try.prog 171 (refV i) = some (f i) :=
  ⟨fun i => (keyOf Try.prog 171 (refV i)).getD (.bool false), fun i h => by
    obtain ⟨l, hl⟩ := key i h
    simp only [hl]
    rfl⟩
noncomputable def kl : Nat → Lit := Classical.choose kl_ex
theorem kl_eq (i : Nat) (h : i < 4294967296) : keyOf Try.prog 171 (refV i) = some (kl i) := Classical.choose_spec kl_ex i h
theorem kl_lit (i : Nat) (h : i < 4294967296) : WideAt.IsKeyLit (kl i) := by
  have h1 := kl_eq i h
  generalize kl i = l at h1 ⊢
  exact law.key h1
theorem kl_ne {i j : Nat} (hi : i < 4294967296) (hj : j < 4294967296) (h : i ≠ j) : kl i ≠ kl j := by
  intro e
  have h1 := kl_eq i hi
  rw [e] at h1
  have := law.inj h1 (kl_eq j hj)
  simp [refV] at this
  omega
/-- How an element reads: its one counter. -/
def useR : Value → Option (DataW Unit × List MemPlace)
  | .agg cs => match cs.toList with
    | [.int .u32 c] => some (.lit (.int .u32 c), [])
    | _ => none
  | _ => none
theorem useR_mk (c : Int) : useR (.agg #[.int .u32 c]) = some (.lit (.int .u32 c), []) := rfl
theorem useR_inv {v : Value} {c : Int} {ps : List MemPlace} (h : useR v = some (.lit (.int .u32 c), ps)) : v = .agg #[.int .u32 c] := by
  cases v with
  | agg cs =>
    simp only [useR] at h
    split at h
    · rename_i q he
      simp at h
      rw [← h.1, ← he]
    · cases h
  | _ => simp [useR] at h
def cnt (c : Nat) : DataW Unit := .lit (.int .u32 (c : Int))
def upd (c : Nat → Nat) (x m : Nat) : Nat → Nat := fun i => if i = x then m else c i
/-- The map reads as the counts c of the first n keys. -/
structure V (n : Nat) (D : DataW Unit) (c : Nat → Nat) : Prop where
  tidy : Tidy D
  has : ∀ i, i < n → Maps.has D (kl i) = decide (c i ≠ 0)
  at_ : ∀ i, i < n → D.atKey (kl i) (cnt 0) = cnt (c i)
theorem V.empty (n : Nat) : V n (.map []) (fun _ => 0) := ⟨tidy_empty, fun _ _ => by simp [Maps.has], fun _ _ => rfl⟩
theorem V.put {n x m : Nat} {D : DataW Unit} {c : Nat → Nat} (h : V n D c) (hn : n ≤ 4096) (hx : x < n) (hm : m ≠ 0) : V n (D.put (kl x) (cnt m)) (upd c x m) := by
  have hk := kl_lit x (by omega)
  refine ⟨h.tidy.put hk _, fun i hi => ?_, fun i hi => ?_⟩
  · by_cases e : i = x
    · subst e; rw [has_put_same h.tidy.isMap hk]; simp [upd, hm]
    · rw [has_put_other (kl_ne (by omega) (by omega) e), h.has i hi]; simp [upd, e]
  · by_cases e : i = x
    · subst e; rw [atKey_put_same h.tidy.isMap hk]; simp [upd]
    · rw [atKey_put_other (kl_ne (by omega) (by omega) e), h.at_ i hi]; simp [upd, e]
theorem V.del {n x : Nat} {D : DataW Unit} {c : Nat → Nat} (h : V n D c) (hn : n ≤ 4096) (hx : x < n) : V n (D.del (kl x)) (upd c x 0) := by
  refine ⟨h.tidy.del _, fun i hi => ?_, fun i hi => ?_⟩
  · by_cases e : i = x
    · subst e; rw [has_del_same]; simp [upd]
    · rw [has_del_other (kl_ne (by omega) (by omega) e), h.has i hi]; simp [upd, e]
  · by_cases e : i = x
    · subst e; rw [atKey_del_same]; simp [upd]
    · rw [atKey_del_other (kl_ne (by omega) (by omega) e), h.at_ i hi]; simp [upd, e]
/-- Recorded, then ignored: the size is what it was. -/
theorem V.size_back {n x : Nat} {D : DataW Unit} {c : Nat → Nat} (h : V n D c) (hn : n ≤ 4096) (hx : x < n) (m : Nat) (hm : m ≠ 0) :
    (c x = 0 → Maps.size ((D.put (kl x) (cnt m)).del (kl x)) = Maps.size D) ∧ (c x ≠ 0 → ∀ m', Maps.size ((D.put (kl x) (cnt m)).put (kl x) (cnt m')) = Maps.size D) := by
  have hk := kl_lit x (by omega)
  have h1 := h.has x hx
  have t1 := h.tidy.put hk (cnt m)
  have e1 := size_put h.tidy (k := kl x) (cnt m)
  have e3 := has_put_same h.tidy.isMap hk (cnt m)
  constructor
  · intro e
    have e2 := size_del t1 (k := kl x)
    rw [e3] at e2
    rw [h1] at e1
    simp [e] at e1 e2
    omega
  · intro e m'
    have e2 := size_put t1 (k := kl x) (cnt m')
    rw [e3] at e2
    rw [h1] at e1
    simp [e] at e1 e2
    omega
end Go.Proofs.Ythhhmildgnoniaa.Use
