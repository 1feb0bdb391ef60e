/-
  isHex agrees with the written table at every byte: the walk of the law. No condition beyond the byte's own range.
-/
import Derived.Test.YtgonkjgmelfdaaaRows
import Derived.WalkKit
import Derived.Below
import Derived.LoopTactic
import Derived.BigQuiet
import Derived.Lib.Hide
import Derived.WalkLawsBesides
namespace Go.Proofs.Ytgonkjgmelfdaaa.fnIsHexExactTable
open Go.RowKit

def hexB (c : Int) : Bool := (decide (48 ≤ c) && decide (c ≤ 57)) || (decide (97 ≤ c) && decide (c ≤ 102)) || (decide (65 ≤ c) && decide (c ≤ 70))

theorem isHex (c : Int) (w : World) :
    Calls Try.prog 25 #[.int .u8 c] w fun e w' => e = .returned (.bool (hexB c)) ∧ w = w' := by
  go_enter Try.func25, Try.ntmps25
  go_wp2
  all_goals (go_ret; refine ⟨congrArg (fun b => Ending.returned (.bool b)) ?_, rfl⟩; rw [Bool.eq_iff_iff]; simp [hexB]; omega)

theorem zz (c : Int) (w : World) :
    Calls Try.prog 9 #[.int .u8 c] w fun e w' => e = .returned (.bool (hexB c)) ∧ w = w' := by
  go_enter Try.func9, Try.ntmps9
  go_wp2_with (go_at_call 25; refine (isHex _ _).mono ?_; rintro e w' ⟨rfl, rfl⟩)
  go_ret
  exact ⟨rfl, rfl⟩

def digs : ByteArray := ⟨#[48, 49, 50, 51, 52, 53, 54, 55, 56, 57, 97, 98, 99, 100, 101, 102, 65, 66, 67, 68, 69, 70]⟩

theorem tab_yes (c : Int) (k : Nat) (hk : k < digs.size) (h : (((digs[k].toNat : Nat) : Int) == c) = true) : true = hexB c := by
  have e : ((digs[k].toNat : Nat) : Int) = c := by simpa using h
  subst e
  have hk' : k < 22 := hk
  have all : ∀ j : Fin 22, true = hexB ((digs[j.1]'(j.2)).toNat : Int) := by decide
  exact all ⟨k, hk'⟩

theorem tab_no (c : Int) (h : ∀ j : Nat, j < 22 → ((digs.data.toList.getD j 0).toNat : Int) ≠ c) : false = hexB c := by
  have a0 := h 0 (by omega); have a1 := h 1 (by omega); have a2 := h 2 (by omega); have a3 := h 3 (by omega); have a4 := h 4 (by omega); have a5 := h 5 (by omega)
  have a6 := h 6 (by omega); have a7 := h 7 (by omega); have a8 := h 8 (by omega); have a9 := h 9 (by omega); have b0 := h 10 (by omega); have b1 := h 11 (by omega)
  have b2 := h 12 (by omega); have b3 := h 13 (by omega); have b4 := h 14 (by omega); have b5 := h 15 (by omega); have b6 := h 16 (by omega); have b7 := h 17 (by omega)
  have b8 := h 18 (by omega); have b9 := h 19 (by omega); have d0 := h 20 (by omega); have d1 := h 21 (by omega)
  clear h
  simp [digs] at a0 a1 a2 a3 a4 a5 a6 a7 a8 a9 b0 b1 b2 b3 b4 b5 b6 b7 b8 b9 d0 d1
  symm
  unfold hexB
  simp only [Bool.or_eq_false_iff, Bool.and_eq_false_iff, decide_eq_false_iff_not]
  omega

theorem tab_step (c : Int) (k : Nat) (hk : k < digs.size) (hn : ∀ j : Nat, j < k → ((digs.data.toList.getD j 0).toNat : Int) ≠ c)
    (h : (((digs[k].toNat : Nat) : Int) == c) = false) (j : Nat) (hj : j < k + 1) : ((digs.data.toList.getD j 0).toNat : Int) ≠ c := by
  by_cases e : j = k
  · subst e
    have e2 : digs.data.toList.getD j 0 = digs[j] := by
      rw [List.getD_eq_getElem?_getD, List.getElem?_eq_getElem (by simpa using hk)]; rfl
    rw [e2]
    simpa using h
  · exact hn j (by omega)

theorem hexByTable (c : Int) (w : World) :
    Calls Try.prog 10 #[.int .u8 c] w fun e w' => e = .returned (.bool (hexB c)) ∧ w = w' := by
  go_enter Try.func10, Try.ntmps10
  go_wp2
  go_loop [3] (fun i => ∃ k : Nat, k ≤ 22 ∧ i = .int .i64 k ∧ ∀ j : Nat, j < k → ((digs.data.toList.getD j 0).toNat : Int) ≠ c) (fun i => 22 - (intOf i).toNat)
  case atStart => exact ⟨0, Nat.zero_le _, rfl, fun j hj => absurd hj (Nat.not_lt_zero j)⟩
  case round =>
    obtain ⟨k, hk, rfl, hn⟩ := hrel
    by_cases hlt : k < 22
    · have HN := Lib.hid hn; clear hn
      go_wp2
      · go_ret
        exact ⟨congrArg (fun b => Ending.returned (.bool b)) (tab_yes c k hlt (by assumption)), rfl⟩
      · refine ⟨⟨k + 1, by omega, by go_num, tab_step c k hlt HN.out (by assumption)⟩, by simp [intOf]; omega⟩
    · obtain rfl : k = 22 := by omega
      have HN := Lib.hid hn; clear hn
      go_wp2
      go_ret
      exact ⟨congrArg (fun b => Ending.returned (.bool b)) (tab_no c HN.out), rfl⟩

theorem walk (a0 : Int) (_w0 : (Lit.int .u8 a0).wf = true) (w : World) :
    Calls Try.prog 3 #[.int .u8 a0] w fun e w' => e = .returned (.bool true) ∧ Below w.heap.size w w' := by
  go_enter Try.func3, Try.ntmps3
  go_wp2_with (first | (go_at_call 9; refine (zz _ _).mono ?_; rintro e w' ⟨rfl, rfl⟩) | (go_at_call 10; refine (hexByTable _ _).mono ?_; rintro e w' ⟨rfl, rfl⟩))
  go_ret
  exact ⟨congrArg (fun b => Ending.returned (.bool b)) (by simp), Below.refl _ _⟩
end Go.Proofs.Ytgonkjgmelfdaaa.fnIsHexExactTable
