/-
  The walk of FnIsSameRegexpTable: it returns true for both bools. No condition.
-/
import Derived.Test.YtkpdjdfebaaahaaRows
import Derived.WalkKit
import Derived.Below
import Derived.WalkLawsBesides
import Derived.WalkSpells
import Derived.Lib.Hide
namespace Go.Proofs.Ytkpdjdfebaaahaa.fnIsSameRegexpTable
open Go.RowKit

theorem str (p : Addr) (w : World) (h : w.cell? p = some (.string ⟨#[]⟩)) : Calls Try.prog 46 #[.pointer (some p)] w fun e w' => e = .returned (.string ⟨#[]⟩) ∧ w = w' := by
  obtain ⟨b, o, s⟩ := p
  go_enter Try.func46, Try.ntmps46
  go_wp2
  go_ret
  exact ⟨rfl, rfl⟩

theorem zeroR (w : World) : Calls Try.prog 17 #[] w fun e w' => e = .returned (.pointer (some ⟨w.heap.size, 0, none⟩)) ∧ w'.cell? ⟨w.heap.size, 0, none⟩ = some (.string ⟨#[]⟩) ∧ Below w.heap.size w w' := by
  go_enter Try.func17, Try.ntmps17
  go_wp2
  go_ret
  refine ⟨rfl, ?_, (Below.refl _ _).alloc (Nat.le_refl _) _⟩
  go_simp
theorem same00 (w : World) : Calls Try.prog 18 #[.pointer none, .pointer none] w fun e w' => e = .returned (.bool true) ∧ w = w' := by
  go_enter Try.func18, Try.ntmps18
  go_wp2
  go_ret
  exact ⟨rfl, rfl⟩
theorem same01 (p : Addr) (w : World) : Calls Try.prog 18 #[.pointer none, .pointer (some p)] w fun e w' => e = .returned (.bool false) ∧ w = w' := by
  go_enter Try.func18, Try.ntmps18
  go_wp2
  go_ret
  exact ⟨rfl, rfl⟩
theorem same10 (p : Addr) (w : World) : Calls Try.prog 18 #[.pointer (some p), .pointer none] w fun e w' => e = .returned (.bool false) ∧ w = w' := by
  go_enter Try.func18, Try.ntmps18
  go_wp2
  go_ret
  exact ⟨rfl, rfl⟩
theorem same11 (p q : Addr) (w : World) (hp : w.cell? p = some (.string ⟨#[]⟩)) (hq : w.cell? q = some (.string ⟨#[]⟩)) : Calls Try.prog 18 #[.pointer (some p), .pointer (some q)] w fun e w' => e = .returned (.bool true) ∧ w = w' := by
  go_enter Try.func18, Try.ntmps18
  go_wp2_with (first | (go_at_call 46; refine (str _ _ ?_).mono ?_; assumption; rintro e w' ⟨rfl, rfl⟩) | go_in)
  go_ret
  exact ⟨rfl, rfl⟩

def SaysB (b : Bool) (w : World) (e : Ending) (w' : World) : Prop := e = .returned (.bool b) ∧ Below w.heap.size w w'
def GivesP (w : World) (e : Ending) (w' : World) : Prop := e = .returned (.pointer (some ⟨w.heap.size, 0, none⟩)) ∧ w'.cell? ⟨w.heap.size, 0, none⟩ = some (.string ⟨#[]⟩) ∧ Below w.heap.size w w' ∧ w.heap.size < w'.heap.size
theorem zeroP (w : World) : Calls Try.prog 17 #[] w (GivesP w) := by
  refine (zeroR w).mono ?_
  rintro e w' ⟨he, hc, hb⟩
  refine ⟨he, hc, hb, ?_⟩
  apply Classical.byContradiction
  intro hh
  unfold World.cell? at hc
  have : w'.heap[w.heap.size]? = none := by simp; omega
  simp [this] at hc

theorem bl {w W w1 : World} (h : Below w.heap.size w W) (hb : Below W.heap.size W w1) : Below w.heap.size w w1 := h.trans (hb.mono h.size)

theorem zsame (a b : Bool) (w : World) : Calls Try.prog 19 #[.bool a, .bool b] w (SaysB (a == b) w) := by
  cases a <;> cases b
  · go_enter Try.func19, Try.ntmps19
    go_wp2_with fail
    refine (zeroP _).mono ?_
    rintro e w1 ⟨rfl, hc1, hb1, hz1⟩
    go_wp2_with fail
    refine (zeroP _).mono ?_
    rintro e w2 ⟨rfl, hc2, hb2, hz2⟩
    have hc1' : w2.cell? ⟨w.heap.size, 0, none⟩ = some (.string ⟨#[]⟩) := by
      rw [hb2.cell (p := ⟨w.heap.size, 0, none⟩) hz1]; exact hc1
    go_wp2_with fail
    refine (same11 _ _ _ hc1' hc2).mono ?_
    rintro e w3 ⟨rfl, rfl⟩
    clear hc1 hc1' hc2
    go_wp2_with fail
    go_ret
    exact ⟨rfl, bl hb1 hb2⟩
  · go_enter Try.func19, Try.ntmps19
    go_wp2_with fail
    refine (zeroP _).mono ?_
    rintro e w1 ⟨rfl, hc1, hb1, hz1⟩
    go_wp2_with (go_at_call 18; refine (same10 _ _).mono ?_; rintro e w3 ⟨rfl, rfl⟩)
    go_ret
    exact ⟨rfl, hb1⟩
  · go_enter Try.func19, Try.ntmps19
    go_wp2_with fail
    refine (zeroP _).mono ?_
    rintro e w1 ⟨rfl, hc1, hb1, hz1⟩
    go_wp2_with (go_at_call 18; refine (same01 _ _).mono ?_; rintro e w3 ⟨rfl, rfl⟩)
    go_ret
    exact ⟨rfl, hb1⟩
  · go_enter Try.func19, Try.ntmps19
    go_wp2_with (go_at_call 18; refine (same00 _).mono ?_; rintro e w3 ⟨rfl, rfl⟩)
    go_ret
    exact ⟨rfl, Below.refl _ _⟩

theorem walk (a0 a1 : Bool) (w : World) :
    Calls Try.prog 4 #[.bool a0, .bool a1] w fun e w' => e = .returned (.bool true) ∧ Below w.heap.size w w' := by
  have z1 := fun w => zsame a0 a1 w
  have z2 := fun w => zsame a1 a0 w
  replace z1 := Lib.hid z1
  replace z2 := Lib.hid z2
  cases a0 <;> cases a1
  all_goals
    go_enter Try.func4, Try.ntmps4
    go_wp2_with fail
    refine (zeroP _).mono ?_
    rintro e w1 ⟨rfl, hc1, hb1, hz1⟩
    go_wp2_with fail
    refine (same11 _ _ _ hc1 hc1).mono ?_
    rintro e w2 ⟨rfl, rfl⟩
    clear hc1 hz1
    go_wp2_with fail
    refine (z1.out _).mono ?_
    rintro e w2 ⟨rfl, hb2⟩
    go_wp2_with fail
    refine (z1.out _).mono ?_
    rintro e w3 ⟨rfl, hb3⟩
    go_wp2_with fail
    refine (z2.out _).mono ?_
    rintro e w4 ⟨rfl, hb4⟩
    go_wp2_with fail
    go_ret
    exact ⟨rfl, bl (bl (bl hb1 hb2) hb3) hb4⟩
end Go.Proofs.Ytkpdjdfebaaahaa.fnIsSameRegexpTable
