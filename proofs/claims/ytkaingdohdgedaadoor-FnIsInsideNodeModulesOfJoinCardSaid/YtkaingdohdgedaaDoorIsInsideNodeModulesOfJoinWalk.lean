/-
  The walk of FnIsInsideNodeModulesOfJoin: it returns true for every two strings, where utf8's two tables hold what their initialisers lay. No other condition.
-/
import Derived.Test.YtkaingdohdgedaaDoorInsF
namespace Go.Proofs.YtkaingdohdgedaaDoor.fnIsInsideNodeModulesOfJoin
open Go.RowKit Go.Lib Go.Proofs.YtkaingdohdgedaaDoor.U8 Go.Proofs.YtkaingdohdgedaaDoor.Ins

def SomeBl (w : World) (e : Ending) (w' : World) : Prop := ∃ x : Bool, e = .returned (.bool x) ∧ w' = w
set_option maxRecDepth 20000 in
theorem bytes4 (s t : ByteArray) (w : World) (hs : s.size ≤ maxLen) (ht : t.size ≤ maxLen) : Calls Tryd.prog 4 #[.string s, .string t] w (SomeBl w) := by
  unfold maxLen at hs ht
  go_enter Tryd.func4, Tryd.ntmps4
  go_wp2_with fail
  all_goals
    go_ret
    exact ⟨_, rfl, rfl⟩
theorem bool_of {a b : Bool} {p : Prop} (h : a = true ↔ p) (k : b = true ↔ p) : a = b := by
  cases a <;> cases b <;> simp_all
theorem or_of {a b c : Bool} {p q r : Prop} (hr : r ↔ (p ∨ q)) (h : c = true ↔ r) (ha : a = true ↔ p) (hb : b = true ↔ q) : c = (a || b) := by
  cases a <;> cases b <;> cases c <;> simp_all
set_option maxRecDepth 100000 in
set_option maxHeartbeats 4000000 in
theorem main (p q : ByteArray) (w : World) (hm : p.size ≤ maxLen) (hs : q.size ≤ maxLen) (hT : Utf8Tabs 1 2 w) :
    Calls Tryd.prog 3 #[.string p, .string q] w fun e w' => e = .returned (.bool true) ∧ Below w.heap.size w w' := by
  have hm' := hm
  have hs' := hs
  unfold maxLen at hm' hs'
  have hTB : ∀ W', Below w.heap.size w W' → Utf8Tabs 1 2 W' := fun _ h => Utf8Tabs_below hT h
  replace hTB := Lib.hid hTB
  go_enter Tryd.func3, Tryd.ntmps3
  go_wp2_with fail
  go_at_call 4
  refine (bytes4 p q _ hm hs).mono ?_
  rintro e w' ⟨b, rfl, rfl⟩
  cases b with
  | false =>
    go_wp2_with fail
    go_ret
    exact ⟨rfl, Below.refl _ _⟩
  | true =>
    by_cases h1 : (524288 : Int) < (p.size : Int)
    · go_wp2_with fail
      go_ret
      exact ⟨rfl, Below.refl _ _⟩
    by_cases h2 : (524288 : Int) < (q.size : Int)
    · go_wp2_with fail
      go_ret
      exact ⟨rfl, Below.refl _ _⟩
    have j1 := join_bytes p q 47 47 (by decide) (by decide)
    have j2 := join_bytes p q 92 47 (by decide) (by decide)
    have z47 : (⟨#[47]⟩ : ByteArray).size = 1 := rfl
    have z92 : (⟨#[92]⟩ : ByteArray).size = 1 := rfl
    have s1 : (⟨#[47]⟩ ++ q : ByteArray).size ≤ 2000000 := by rw [ByteArray.size_append, z47]; omega
    have s2 : (p ++ ⟨#[47]⟩ ++ q).size ≤ 2000000 := by rw [ByteArray.size_append, ByteArray.size_append, z47]; omega
    have s3 : (p ++ ⟨#[92]⟩ ++ q).size ≤ 2000000 := by rw [ByteArray.size_append, ByteArray.size_append, z92]; omega
    replace s1 := Lib.hid s1
    replace s2 := Lib.hid s2
    replace s3 := Lib.hid s3
    replace j1 := Lib.hid j1
    replace j2 := Lib.hid j2
    go_wp2_with fail
    go_at_call 5
    refine (inside _ _ s1.out hT).mono ?_
    rintro e w1 ⟨t, rfl, ht, B1⟩
    have T1 := hTB.out _ B1
    have hz1 := B1.size
    replace B1 := Lib.hid B1
    replace ht := Lib.hid ht
    go_wp2_with fail
    go_at_call 5
    refine (inside p _ (by omega) T1).mono ?_
    rintro e w2 ⟨a, rfl, ha, B2⟩
    have C2 := B1.out.trans (B2.mono hz1)
    have T2 := hTB.out _ C2
    have hz2 := C2.size
    replace C2 := Lib.hid C2
    replace ha := Lib.hid ha
    clear B2 T1
    obtain ⟨o, ho⟩ : ∃ o, (a || t) = o := ⟨_, rfl⟩
    have e3 := fun (c : Bool) (hc : c = true ↔ _) => (or_of j1.out hc ha.out ht.out).trans ho
    have e4 := fun (c : Bool) (hc : c = true ↔ _) => (or_of j2.out hc ha.out ht.out).trans ho
    replace e3 := Lib.hid e3
    replace e4 := Lib.hid e4
    replace hT := Lib.hid hT
    clear ha ht
    cases a <;> cases t <;> simp only [Bool.false_or, Bool.true_or, Bool.or_false, Bool.or_true] at ho <;> subst ho
    all_goals
      go_wp2_with fail
      go_at_call 5
      refine (inside _ _ s2.out T2).mono ?_
      rintro e w3 ⟨c, rfl, hc, B3⟩
      obtain rfl := e3.out c hc
      have C3 := C2.out.trans (B3.mono hz2)
      have T3 := hTB.out _ C3
      have hz3 := C3.size
      replace C3 := Lib.hid C3
      clear hc B3 T2
      go_wp2_with fail
      go_at_call 5
      refine (inside _ _ s3.out T3).mono ?_
      rintro e w4 ⟨d, rfl, hd, B4⟩
      obtain rfl := e4.out d hd
      have C4 := C3.out.trans (B4.mono hz3)
      replace C4 := Lib.hid C4
      clear hd B4 T3
      go_wp2_with fail
      go_ret
      exact ⟨rfl, C4.out⟩
theorem walk (W : World) (a0 : ByteArray) (w0 : a0.size ≤ maxLen) (a1 : ByteArray) (w1 : a1.size ≤ maxLen) (hT : Utf8Tabs 1 2 W) :
    Calls Tryd.prog 3 #[.string a0, .string a1] W fun e w' => e = .returned (.bool true) ∧ Below W.heap.size W w' := main a0 a1 W w0 w1 hT
end Go.Proofs.YtkaingdohdgedaaDoor.fnIsInsideNodeModulesOfJoin
