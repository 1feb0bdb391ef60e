/-
  Runes of a string, cells of bytes, a strings.Builder that stays. No condition.
-/
import Derived.Test.YtcijcifhdakhoaaFmtU8
import Derived.Test.YtcijcifhdakhoaaFmtPctLaw
import Derived.Lib.RuneCountTail
import Derived.Lib.Builder
import Derived.Lib.AppendStr
import Derived.Lib.UnsafeStr
namespace Go.Proofs.YtcijcifhdakhoaaFmt.Pct
open Go.RowKit Go.Lib Go.Proofs.YtcijcifhdakhoaaFmt.U8

theorem sub_dec (s : ByteArray) (i : Nat) : Utf8.decode (s.extract i s.size) 0 = Utf8.decode s i := by
  rw [tail_decode, Nat.add_zero]
set_option maxRecDepth 100000 in
/-- A good rune: an ASCII byte alone, or bytes from 128 on. -/
theorem rune_facts {s : ByteArray} {i : Nat} (hi : i < s.size) (hg : GoodR s i) : (bt s i < 128 ∧ Utf8.decode s i = (bt s i, 1)) ∨
    (128 ≤ bt s i ∧ 128 ≤ (Utf8.decode s i).1 ∧ 1 ≤ (Utf8.decode s i).2 ∧ i + (Utf8.decode s i).2 ≤ s.size ∧ ∀ j, i ≤ j → j < i + (Utf8.decode s i).2 → 128 ≤ bt s j) := by
  rcases U8.shape hg with ⟨a, hd⟩ | ⟨a, b, c, d, e, hd⟩ | ⟨a, b, c, d, e, f, g, hd⟩ | ⟨a, b, c, d, e, f, g, k, l, hd⟩
  · exact .inl ⟨a, hd⟩
  · right
    rw [hd]
    refine ⟨by omega, by show 128 ≤ _; omega, by show 1 ≤ 2; omega, by show i + 2 ≤ _; omega, fun j h1 h2 => ?_⟩
    have h2 : j < i + 2 := h2
    rcases (show j = i ∨ j = i + 1 by omega) with rfl | rfl <;> omega
  · have hl := lo_rng (bt s i)
    have hd1 : 128 ≤ bt s i % 16 * 4096 + bt s (i + 1) % 64 * 64 := by
      unfold lo1 at d
      split at d <;> (try split at d) <;> omega
    right
    rw [hd]
    refine ⟨by omega, ?_, by show 1 ≤ 3; omega, by show i + 3 ≤ _; omega, fun j h1 h2 => ?_⟩
    · show 128 ≤ v3 s i
      unfold v3
      exact Nat.le_trans hd1 (Nat.le_add_right _ _)
    · have h2 : j < i + 3 := h2
      rcases (show j = i ∨ j = i + 1 ∨ j = i + 2 by omega) with rfl | rfl | rfl <;> omega
  · have hl := lo_rng (bt s i)
    have hd1 : 128 ≤ bt s i % 8 * 262144 + bt s (i + 1) % 64 * 4096 := by
      unfold lo1 at d
      split at d <;> (try split at d) <;> omega
    right
    rw [hd]
    refine ⟨by omega, ?_, by show 1 ≤ 4; omega, by show i + 4 ≤ _; omega, fun j h1 h2 => ?_⟩
    · show 128 ≤ v4 s i
      unfold v4
      exact Nat.le_trans hd1 (Nat.le_trans (Nat.le_add_right _ _) (Nat.le_add_right _ _))
    · have h2 : j < i + 4 := h2
      rcases (show j = i ∨ j = i + 1 ∨ j = i + 2 ∨ j = i + 3 by omega) with rfl | rfl | rfl | rfl <;> omega
def cellsN (l : List Nat) : List Value := l.map fun x : Nat => .int .u8 (x : Int)
theorem cellsN_append (a b : List Nat) : cellsN (a ++ b) = cellsN a ++ cellsN b := by simp [cellsN]
theorem cellsN_length (a : List Nat) : (cellsN a).length = a.length := by simp [cellsN]
def bytesN (l : List Nat) : List UInt8 := l.map (·.toUInt8)
theorem cells_bytes (l : List Nat) (h : ∀ x ∈ l, x < 256) : cellsN l = byteCells (bytesN l) := by
  unfold cellsN byteCells bytesN
  rw [List.map_map]
  apply List.map_congr_left
  intro x hx
  have := h x hx
  simp [Nat.mod_eq_of_lt this]
theorem ext_get (s : ByteArray) (p q j : Nat) (hq : q ≤ s.size) (hj : p + j < q) : (s.extract p q).data.toList[j]? = some (s.get! (p + j)) := by
  have e : (s.extract p q).data = s.data.extract p q := by simp
  rw [e, Array.toList_extract]
  have h1 : p + j < s.data.size := by show p + j < s.size; omega
  have : s.get! (p + j) = s.data[p + j]'h1 := by
    show s.data[p + j]! = _
    rw [getElem!_pos s.data (p + j) h1]
  rw [this]
  simp only [List.extract_eq_take_drop, List.getElem?_take, List.getElem?_drop]
  rw [if_pos (by omega)]
  simp
theorem ext_len (s : ByteArray) (p q : Nat) (hpq : p ≤ q) (hq : q ≤ s.size) : (s.extract p q).data.toList.length = q - p := by
  have e : (s.extract p q).data = s.data.extract p q := by simp
  rw [e, Array.toList_extract]
  simp only [List.extract_eq_take_drop, List.length_take, List.length_drop, Array.length_toList]
  have : s.data.size = s.size := rfl
  omega
theorem cells_ext (s : ByteArray) (p q : Nat) (hpq : p ≤ q) (hq : q ≤ s.size) : strCells (s.extract p q) = cellsN ((List.range' p (q - p)).map (bt s)) := by
  have hsz := ext_len s p q hpq hq
  apply List.ext_getElem?
  intro j
  rw [strCells, cellsN, List.map_map, List.getElem?_map, List.getElem?_map]
  by_cases h : j < q - p
  · rw [ext_get s p q j hq (by omega), List.getElem?_range' h]
    simp
  · rw [List.getElem?_eq_none (by omega), List.getElem?_eq_none (by simp; omega)]
    rfl
theorem builder_below {T e : TypeId} {B b : Nat} {p : Value} {bs : List Value} {w w' : World} (h : BuilderAt T e B b p bs w) (hb : Below w.heap.size w w') : BuilderAt T e B b p bs w' := by
  have hlt := h.lt
  obtain ⟨hB, v, hbk, hown, hne⟩ := h
  refine ⟨hB, v, (hb.block _ hlt).trans hbk, ?_, hne⟩
  exact hown.kept (row := none) ⟨hb.os, hb.tape, hb.output, hb.size, fun k hk _ => hb.block k hk⟩ (by
    cases hv : v.ownBlock with
    | none => exact .inl rfl
    | some x => exact .inr (by simp))
end Go.Proofs.YtcijcifhdakhoaaFmt.Pct
