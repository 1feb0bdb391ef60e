/-
  isHex, zzIsHexByte, zzHexVal, zzHasPrefix and the size check of the percent-escape law. No condition beyond a string's own length.
-/
import Derived.Test.YtgeijelkojgapaaDoorPctB
import Derived.Laws.BitsLemmas
namespace Go.Proofs.YtgeijelkojgapaaDoor.Pct
open Go.RowKit Go.Lib Go.Proofs.YtgeijelkojgapaaDoor.U8

def GivesB (b : Bool) (w : World) (e : Ending) (w' : World) : Prop := e = .returned (.bool b) ∧ w' = w
theorem givesB {a b : Bool} {w : World} (h : a = b) : GivesB b w (.returned (.bool a)) w := ⟨by rw [h], rfl⟩
theorem hexB_of {c : Nat} {b : Bool} (h : ((48 ≤ c ∧ c ≤ 57) ∨ (97 ≤ c ∧ c ≤ 102) ∨ (65 ≤ c ∧ c ≤ 70)) ↔ b = true) : b = hexB c := by
  have := hexB_iff c
  cases b <;> cases hh : hexB c <;> simp_all
set_option maxRecDepth 20000 in
theorem isHex (c : Nat) (w : World) : Calls Tryd.prog 11 #[.int .u8 c] w (GivesB (hexB c) w) := by
  go_enter Tryd.func11, Tryd.ntmps11
  go_wp2_with fail
  all_goals
    go_ret
    refine givesB (hexB_of ?_)
    (first | (simp; omega) | omega)
set_option maxRecDepth 20000 in
theorem isHexByte (c : Nat) (w : World) : Calls Tryd.prog 13 #[.int .u8 c] w (GivesB (hexB c) w) := by
  go_enter Tryd.func13, Tryd.ntmps13
  go_wp2_with fail
  all_goals
    go_ret
    refine givesB (hexB_of ?_)
    (first | (simp; omega) | omega)
def GivesI (k : IntKind) (x : Int) (w : World) (e : Ending) (w' : World) : Prop := e = .returned (.int k x) ∧ w' = w
theorem givesI {k : IntKind} {x y : Int} {w : World} (h : x = y) : GivesI k y w (.returned (.int k x)) w := ⟨by rw [h], rfl⟩
set_option maxRecDepth 20000 in
theorem hexVal (c : Nat) (h : hexB c = true) (w : World) : Calls Tryd.prog 14 #[.int .u8 c] w (GivesI .u8 (hv c : Nat) w) := by
  rw [hexB_iff] at h
  have hvd := Lib.hid (show (hv c : Int) = if c ≤ 57 then (c : Int) - 48 else if 97 ≤ c then (c : Int) - 87 else (c : Int) - 55 from by unfold hv; split <;> (try split) <;> omega)
  rcases h with h | h | h
  · have h1 : 48 ≤ (c : Int) := by omega
    have h2 : (c : Int) ≤ 57 := by omega
    go_enter Tryd.func14, Tryd.ntmps14
    go_wp2_with fail
    go_ret
    refine givesI ?_
    rw [hvd.out, if_pos h.2]
  · have h1 : 48 ≤ (c : Int) := by omega
    have h2 : ¬ (c : Int) ≤ 57 := by omega
    have h3 : 97 ≤ (c : Int) := by omega
    have h4 : (c : Int) ≤ 102 := by omega
    go_enter Tryd.func14, Tryd.ntmps14
    go_wp2_with fail
    go_ret
    refine givesI ?_
    rw [hvd.out, if_neg (by omega), if_pos h.1]
    omega
  · have h1 : 48 ≤ (c : Int) := by omega
    have h2 : ¬ (c : Int) ≤ 57 := by omega
    have h3 : ¬ 97 ≤ (c : Int) := by omega
    go_enter Tryd.func14, Tryd.ntmps14
    go_wp2_with fail
    go_ret
    refine givesI ?_
    rw [hvd.out, if_neg (by omega), if_neg (by omega)]
    omega
set_option maxRecDepth 20000 in
theorem hasPre (s p : ByteArray) (w : World) (hs : s.size ≤ 100000000) (hp : p.size ≤ s.size) (he : s.extract 0 p.size = p) : Calls Tryd.prog 6 #[.string s, .string p] w (GivesB true w) := by
  have h1 : (p.size : Int) ≤ (s.size : Int) := by omega
  have h0 : (0 : Int) ≤ (p.size : Int) := by omega
  go_enter Tryd.func6, Tryd.ntmps6
  go_wp2_with fail
  go_ret
  refine givesB ?_
  simp [he]
def SomeBl (w : World) (e : Ending) (w' : World) : Prop := ∃ x : Bool, e = .returned (.bool x) ∧ w' = w
set_option maxRecDepth 20000 in
theorem bytes4 (s t : ByteArray) (w : World) (hs : s.size ≤ maxLen) (ht : t.size ≤ maxLen) : Calls Tryd.prog 4 #[.string s, .string t] w (SomeBl w) := by
  unfold maxLen at hs ht
  go_enter Tryd.func4, Tryd.ntmps4
  go_wp2_with fail
  all_goals
    go_ret
    exact ⟨_, rfl, rfl⟩
end Go.Proofs.YtgeijelkojgapaaDoor.Pct
