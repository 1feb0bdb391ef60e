/-
  A slice of structs of two int32 fields: how it reads, and rows of such structs that a loop fills. Condition: at most 2^17 elements where one is made.
-/
import Derived.Test.YthhhmildgnoniaaRowsI
import Derived.Lib.Hide
import Derived.Laws.Cover3
import Derived.RegionTactic
import Derived.ChangeAlike
import Derived.Deep.QuietTactic
import Derived.BigQuiet
import Derived.BigRegion
import Derived.Deep.RegionHeld3
import Derived.StillTailTactics
import Derived.Laws.MakeOwn
import Derived.Deep.SlicePairs
namespace Go.Proofs.Ythhhmildgnoniaa.Pairs
open Go.RowKit Go.ChangeShapes Go.WideShapes Go.ChangeAt Go.Proofs.Ythhhmildgnoniaa.Ints

def two (s l : Nat → Int) : Nat → Value := fun k => if k % 2 = 0 then .int .i32 (s (k / 2)) else .int .i32 (l (k / 2))
theorem two0 (s l) (k : Nat) : two s l (k * 2) = .int .i32 (s k) := by simp [two]
theorem two1 (s l) (k : Nat) : two s l (k * 2 + 1) = .int .i32 (l k) := by
  unfold two; rw [if_neg (by omega), show (k * 2 + 1) / 2 = k by omega]
def upd (f : Nat → Int) (k : Nat) (x : Int) : Nat → Int := fun i => if i = k then x else f i
def upto (r : Nat) (f : Nat → Int) : Nat → Int := fun k => if k < r then f k else 0
theorem upto_set (f : Nat → Int) (r : Nat) : upd (upto r f) r (f r) = upto (r + 1) f := by
  funext k
  unfold upd upto
  by_cases h : k = r
  · rw [if_pos h, if_pos (by omega), h]
  · rw [if_neg h]
    by_cases h2 : k < r
    · rw [if_pos h2, if_pos (by omega)]
    · rw [if_neg h2, if_neg (by omega)]
theorem set2 {w : World} {b t n : Nat} {S L : Nat → Int} (hR : w.rowIs b t (n * 2) (two S L)) (k : Nat) (x y : Int) :
    ((w.setCell ⟨b, k * 2, none⟩ (.int .i32 x)).setCell ⟨b, k * 2 + 1, none⟩ (.int .i32 y)).rowIs b t (n * 2) (two (upd S k x) (upd L k y)) := by
  refine ((hR.set (k * 2) _).set (k * 2 + 1) _).congr fun j _ => ?_
  show (if j = k * 2 + 1 then Value.int .i32 y else if j = k * 2 then Value.int .i32 x else two S L j) = two (upd S k x) (upd L k y) j
  unfold two upd
  have h3 : j % 2 = 0 ∨ j % 2 = 1 := by omega
  by_cases e : j / 2 = k
  · rcases h3 with h | h
    · rw [if_neg (by omega), if_pos (by omega), if_pos h, if_pos e]
    · rw [if_pos (by omega), if_neg (by omega), if_pos e]
  · rw [if_neg (by omega), if_neg (by omega), if_neg e, if_neg e]
/-- The slice at o holds n pairs. -/
def PairsAt (w : World) (o : Option Addr) (n : Nat) (S L : Nat → Int) : Prop :=
  n = 0 ∨ ∃ b off, o = some ⟨b, off, none⟩ ∧ b < w.heap.size ∧ ∀ i, i < n → w.cell? ⟨b, off + i * 2, none⟩ = some (.int .i32 (S i)) ∧ w.cell? ⟨b, off + i * 2 + 1, none⟩ = some (.int .i32 (L i))
theorem PairsAt.below {w w' : World} {o : Option Addr} {n : Nat} {S L : Nat → Int} (h : PairsAt w o n S L) (hB : Below w.heap.size w w') : PairsAt w' o n S L := by
  rcases h with h | ⟨b, off, e, hb, hc⟩
  · exact .inl h
  · exact .inr ⟨b, off, e, Nat.lt_of_lt_of_le hb hB.size, fun i hi => ⟨(hB.cell (by exact hb)).trans (hc i hi).1, (hB.cell (by exact hb)).trans (hc i hi).2⟩⟩
theorem pairs_of_row {w : World} {b t n : Nat} {S L : Nat → Int} (hR : w.rowIs b t (n * 2) (two S L)) : PairsAt w (some ⟨b, 0, none⟩) n S L := by
  by_cases h0 : n = 0
  · exact .inl h0
  · refine .inr ⟨b, 0, rfl, hR.lt, fun i hi => ?_⟩
    have h1 := hR.cell (i := i * 2) (by omega)
    have h2 := hR.cell (i := i * 2 + 1) (by omega)
    rw [two0] at h1
    rw [two1] at h2
    rw [Nat.zero_add]
    exact ⟨h1, h2⟩
theorem row_full {w : World} {b t n : Nat} {S L : Nat → Int} (hR : w.rowIs b t (n * 2) (two (upto n S) (upto n L))) : w.rowIs b t (n * 2) (two S L) := hR.congr fun i hi => by
  have e : i / 2 < n := by omega
  simp only [two, upto, e, if_true]

theorem openPairs {H : Type} {enc : TypeId × Value → H} {P : Program} {w : World} {base : Nat} {spare : Nat → Bool} {held : Bool} {t e : TypeId} {f0 f1 : Field} {fuel : Nat} {v : Value} {x : DataW H × List MemPlace} (ht : P.underlying t = some (.slice e)) (he : P.underlying e = some (.struct #[f0, f1]))
    (ce : P.cellsOf e = 2) (o0 : f0.offset = 0) (o1 : f1.offset = 1) (c0 : P.cellsOf f0.type = 1) (c1 : P.cellsOf f1.type = 1) (u0 : P.underlying f0.type = some (.int .i32)) (u1 : P.underlying f1.type = some (.int .i32))
    (h : DataW.trod enc P w base spare held fuel t [v] = some x) :
    ∃ o n cap S L, v = .slice o n cap ∧ n ≤ cap ∧ cap ≤ maxLen ∧ PairsAt w o n S L ∧ (o = none → n = 0 ∧ cap = 0) := by
  rcases Go.Deep.open_slice_pairs ht he ce o0 o1 c0 c1 h with ⟨hv, _⟩ | ⟨a, len, cap, m, k, V0, V1, D0, D1, P0, P1, hv, _, hl, hm, hmm, _, hi⟩
  · simp only [List.cons.injEq, and_true] at hv
    exact ⟨none, 0, 0, fun _ => 0, fun _ => 0, hv, Nat.le_refl _, Nat.zero_le _, .inl rfl, fun _ => ⟨rfl, rfl⟩⟩
  · simp only [List.cons.injEq, and_true] at hv
    have hlm : len ≤ m := by rw [hmm]; split <;> omega
    refine ⟨some a, len, cap, fun i => intOf (V0 i), fun i => intOf (V1 i), hv, hl, hm, ?_, fun h => by cases h⟩
    by_cases h0 : len = 0
    · exact .inl h0
    right
    obtain ⟨b, off, spot⟩ := a
    have hspot : spot = none := by simpa [Addr.add] using World.cell?_spot (hi 0 (by omega)).1
    subst hspot
    refine ⟨b, off, rfl, ?_, fun i hin => ?_⟩
    · have := lt_of_cell (hi 0 (by omega)).1
      simpa [Addr.add] using this
    · obtain ⟨h1, h2, h3, h4⟩ := hi i (by omega)
      obtain ⟨_, e3, _, _⟩ := DataW.trod_int u0 h3
      obtain ⟨_, e4, _, _⟩ := DataW.trod_int u1 h4
      simp only [List.cons.injEq, and_true] at e3 e4
      rw [add_plain] at h1 h2
      show _ = some (Value.int .i32 (intOf (V0 i))) ∧ _ = some (Value.int .i32 (intOf (V1 i)))
      rw [e3] at h1 ⊢
      rw [e4] at h2 ⊢
      exact ⟨h1, h2⟩
end Go.Proofs.Ythhhmildgnoniaa.Pairs
