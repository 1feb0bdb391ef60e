/-
  The relocation law's plain part: counts of bindings, the first contributing one, the recorded list. No program in sight.
-/
import Derived.Test.YtdiedidmjpihjaaRows
import Derived.WalkKit
namespace Go.Proofs.Ytdiedidmjpihjaa.Rl
open Go.RowKit

/-- How many of the first k bindings name symbol j. -/
def cnt (r : Nat → Nat) : Nat → Nat → Nat
  | 0, _ => 0
  | k + 1, j => cnt r k j + (if r k = j then 1 else 0)
theorem cnt_le (r : Nat → Nat) (k j : Nat) : cnt r k j ≤ k := by
  induction k with
  | zero => exact Nat.le_refl _
  | succ k ih => rw [cnt]; split <;> omega
theorem cnt_same (r : Nat → Nat) (k : Nat) : cnt r (k + 1) (r k) = cnt r k (r k) + 1 := by rw [cnt, if_pos rfl]
theorem cnt_other (r : Nat → Nat) (k j : Nat) (h : r k ≠ j) : cnt r (k + 1) j = cnt r k j := by rw [cnt, if_neg h, Nat.add_zero]
/-- The first of the first k bindings that contributes. -/
def fst (c : Nat → Bool) : Nat → Option Nat
  | 0 => none
  | k + 1 => match fst c k with
    | some i => some i
    | none => if c k then some k else none
theorem fst_none {c : Nat → Bool} {k : Nat} (h : ∀ i, i < k → c i = false) : fst c k = none := by
  induction k with
  | zero => rfl
  | succ k ih => rw [fst, ih (fun i hi => h i (by omega))]; simp [h k (by omega)]
theorem fst_some {c : Nat → Bool} {k i : Nat} (hi : i < k) (hc : c i = true) (h : ∀ j, j < i → c j = false) : fst c k = some i := by
  induction k with
  | zero => omega
  | succ k ih =>
    rw [fst]
    rcases Nat.lt_or_ge i k with g | g
    · rw [ih g]
    · obtain rfl : i = k := by omega
      rw [fst_none h]
      simp [hc]
theorem fst_step_some {c : Nat → Bool} {k i : Nat} (h : fst c k = some i) : fst c (k + 1) = some i := by rw [fst, h]
theorem fst_step_hit {c : Nat → Bool} {k : Nat} (h : fst c k = none) (hc : c k = true) : fst c (k + 1) = some k := by rw [fst, h]; simp [hc]
theorem fst_step_miss {c : Nat → Bool} {k : Nat} (hc : c k = false) : fst c (k + 1) = fst c k := by
  rw [fst]
  cases fst c k with
  | none => simp [hc]
  | some i => rfl
/-- What is recorded of the first k bindings. -/
def vars (lc : Nat → Int) (r : Nat → Nat) : Nat → List Value
  | 0 => []
  | k + 1 => vars lc r k ++ [.int .i32 (lc k), .int .u32 0, .int .u32 (r k : Nat)]
theorem vars_length (lc : Nat → Int) (r : Nat → Nat) (k : Nat) : (vars lc r k).length = 3 * k := by
  induction k with
  | zero => rfl
  | succ k ih => rw [vars, List.length_append, ih]; simp; omega
theorem vars_get (lc : Nat → Int) (r : Nat → Nat) (k i : Nat) (hi : i < k) :
    (vars lc r k)[3 * i]? = some (.int .i32 (lc i)) ∧ (vars lc r k)[3 * i + 1]? = some (.int .u32 0) ∧ (vars lc r k)[3 * i + 2]? = some (.int .u32 (r i : Nat)) := by
  induction k with
  | zero => omega
  | succ k ih =>
    have hl := vars_length lc r k
    rw [vars]
    rcases Nat.lt_or_ge i k with g | g
    · obtain ⟨h1, h2, h3⟩ := ih g
      rw [List.getElem?_append_left (by omega), List.getElem?_append_left (by omega), List.getElem?_append_left (by omega)]
      exact ⟨h1, h2, h3⟩
    · obtain rfl : i = k := by omega
      rw [List.getElem?_append_right (by omega), List.getElem?_append_right (by omega), List.getElem?_append_right (by omega), hl]
      simp only [Nat.sub_self, show 3 * i + 1 - 3 * i = 1 by omega, show 3 * i + 2 - 3 * i = 2 by omega]
      exact ⟨rfl, rfl, rfl⟩
end Go.Proofs.Ytdiedidmjpihjaa.Rl
