/-
  The walk of FnStmtsCareAboutScopeConcatOrderFree: it returns true for every two lists of codes. No condition.
-/
import Derived.Test.YtfjdpnjdikgofaaScope3
namespace Go.Proofs.Ytfjdpnjdikgofaa.fnStmtsCareAboutScopeConcatOrderFree
open Go.RowKit Go.Proofs.Ytfjdpnjdikgofaa.Ints Go.Proofs.Ytfjdpnjdikgofaa.Scope

theorem anyC_congr {f g : Nat → Int} (n : Nat) (h : ∀ i, i < n → f i = g i) : anyC f n = anyC g n := by
  induction n with
  | zero => rfl
  | succ n ih => rw [anyC, anyC, ih (fun i hi => h i (by omega)), h n (by omega)]
theorem anyC_cat (f g : Nat → Int) (n m : Nat) : anyC (cat f n g) (n + m) = (anyC f n || anyC g m) := by
  induction m with
  | zero =>
    rw [Nat.add_zero, anyC_congr (g := f) n (fun i hi => by simp [cat, hi])]
    simp [anyC]
  | succ m ih =>
    rw [← Nat.add_assoc, anyC, ih, anyC]
    have : cat f n g (n + m) = g m := by unfold cat; rw [if_neg (by omega), Nat.add_sub_cancel_left]
    rw [this, Bool.or_assoc]

def SomeBool (w : World) (e : Ending) (w' : World) : Prop := ∃ r : Bool, e = .returned (.bool r) ∧ w = w'
theorem bytes (o1 o2 : Option Addr) (n1 n2 c1 c2 : Nat) (w : World) (m1 : n1 ≤ maxLen) (m2 : n2 ≤ maxLen) :
    Calls Try.prog 32 #[.slice o1 n1 c1, .slice o2 n2 c2] w (SomeBool w) := by
  unfold maxLen at m1 m2
  go_enter Try.func32, Try.ntmps32
  go_wp2
  all_goals
    go_ret
    exact ⟨_, rfl, rfl⟩
theorem zzCares (o : Option Addr) (n : Nat) (f : Nat → Int) (w : World) (hn : n ≤ 131072) (hS : Stm w o n f) : Calls Try.prog 33 #[.slice o n n] w fun e w' => e = .returned (.bool (anyC f n)) ∧ Below w.heap.size w w' := by
  have H := Lib.hid (cares o n f w hn hS)
  clear hS
  go_enter Try.func33, Try.ntmps33
  go_wp2_with fail
  go_at_call 51
  refine H.out.mono ?_
  rintro e w1 ⟨rfl, B1⟩
  go_wp2_with fail
  go_ret
  exact ⟨rfl, B1⟩
theorem cat_rng {f g : Nat → Int} {n m : Nat} (hf : ∀ i, i < n → -128 ≤ f i ∧ f i ≤ 127) (hg : ∀ i, i < m → -128 ≤ g i ∧ g i ≤ 127) : ∀ i, i < n + m → -128 ≤ cat f n g i ∧ cat f n g i ≤ 127 := fun i hi => by
  unfold cat
  split
  · exact hf i (by assumption)
  · exact hg _ (by omega)

set_option maxRecDepth 100000 in
set_option maxHeartbeats 4000000 in
theorem main (o1 o2 : Option Addr) (n1 n2 c1 c2 : Nat) (f1 f2 : Nat → Int) (w : World) (m1 : n1 ≤ maxLen) (m2 : n2 ≤ maxLen) (h1 : IntsAt .i8 w o1 n1 f1) (h2 : IntsAt .i8 w o2 n2 f2) (z1 : o1 = none → n1 = 0 ∧ c1 = 0) (z2 : o2 = none → n2 = 0 ∧ c2 = 0)
    (hf1 : ∀ i, i < n1 → -128 ≤ f1 i ∧ f1 i ≤ 127) (hf2 : ∀ i, i < n2 → -128 ≤ f2 i ∧ f2 i ≤ 127) :
    Calls Try.prog 7 #[.slice o1 n1 c1, .slice o2 n2 c2] w fun e w' => e = .returned (.bool true) ∧ Below w.heap.size w w' := by
  have hm1 := m1
  have hm2 := m2
  unfold maxLen at hm1 hm2
  go_enter Try.func7, Try.ntmps7
  go_wp2_with fail
  go_at_call 32
  refine (bytes _ _ _ _ _ _ _ m1 m2).mono ?_
  rintro e w' ⟨r, rfl, rfl⟩
  cases r with
  | false =>
    go_wp2
    go_ret
    exact ⟨rfl, Below.refl _ _⟩
  | true =>
    by_cases big : n1 ≤ 65536 ∧ n2 ≤ 65536
    · obtain ⟨b1, b2⟩ := big
      clear hm1 hm2
      replace hf1 := Lib.hid hf1
      replace hf2 := Lib.hid hf2
      replace z1 := Lib.hid z1
      replace z2 := Lib.hid z2
      go_wp2_with fail
      go_at_call 34
      refine (build o1 n1 c1 f1 _ (by omega) h1 z1.out hf1.out).mono ?_
      rintro e w1 ⟨p1, rfl, B1, S1⟩
      go_wp2_with fail
      go_at_call 33
      refine (zzCares p1 n1 f1 _ (by omega) S1).mono ?_
      rintro e w2 ⟨rfl, B2⟩
      replace B2 := B1.trans (B2.mono B1.size)
      clear B1 S1
      go_wp2_with fail
      go_at_call 34
      refine (build o2 n2 c2 f2 _ (by omega) (h2.below B2) z2.out hf2.out).mono ?_
      rintro e w3 ⟨p2, rfl, B3, S3⟩
      go_wp2_with fail
      go_at_call 33
      refine (zzCares p2 n2 f2 _ (by omega) S3).mono ?_
      rintro e w4 ⟨rfl, B4⟩
      replace B3 := B2.trans (B3.mono B2.size)
      replace B4 := B3.trans (B4.mono B3.size)
      clear B2 B3 S3
      go_wp2_with fail
      go_at_call 35
      refine (concat o1 o2 n1 n2 c1 c2 f1 f2 _ b1 b2 (h1.below B4) (h2.below B4)).mono ?_
      rintro e w5 ⟨a5, q5, rfl, hq5, I5, B5⟩
      go_wp2_with fail
      go_at_call 34
      refine (build (some a5) (n1 + n2) q5 (cat f1 n1 f2) _ (by omega) I5 (fun h => by cases h) (cat_rng hf1.out hf2.out)).mono ?_
      rintro e w6 ⟨p6, rfl, B6, S6⟩
      go_wp2_with fail
      go_at_call 33
      refine (zzCares p6 (n1 + n2) _ _ (by omega) S6).mono ?_
      rintro e w7 ⟨rfl, B7⟩
      replace B5 := B4.trans (B5.mono B4.size)
      replace B6 := B5.trans (B6.mono B5.size)
      replace B7 := B6.trans (B7.mono B6.size)
      clear B4 B5 B6 S6 I5 hq5
      rw [anyC_cat]
      go_wp2_with fail
      go_at_call 35
      refine (concat o2 o1 n2 n1 c2 c1 f2 f1 _ b2 b1 (h2.below B7) (h1.below B7)).mono ?_
      rintro e w8 ⟨a8, q8, rfl, hq8, I8, B8⟩
      go_wp2_with fail
      go_at_call 34
      refine (build (some a8) (n2 + n1) q8 (cat f2 n2 f1) _ (by omega) I8 (fun h => by cases h) (cat_rng hf2.out hf1.out)).mono ?_
      rintro e w9 ⟨p9, rfl, B9, S9⟩
      go_wp2_with fail
      go_at_call 33
      refine (zzCares p9 (n2 + n1) _ _ (by omega) S9).mono ?_
      rintro e w10 ⟨rfl, B10⟩
      replace B8 := B7.trans (B8.mono B7.size)
      replace B9 := B8.trans (B9.mono B8.size)
      replace B10 := B9.trans (B10.mono B9.size)
      clear B7 B8 B9 S9 I8 hq8
      rw [anyC_cat]
      generalize anyC f1 n1 = x1 at *
      generalize anyC f2 n2 = x2 at *
      cases x1 <;> cases x2
      all_goals
        go_wp2_with fail
        go_ret
        exact ⟨rfl, B10⟩
    · go_wp2
      all_goals first | omega | (go_ret; exact ⟨rfl, Below.refl _ _⟩)

set_option maxRecDepth 100000 in
theorem walk (W : World) {H : Type} {enc : TypeId × Value → H} {base : Nat} {p0 p1 : List MemPlace} (v0 : Value) (d0 : DataW H) (k0 : Value.okWide Try.prog W .any base 106 v0) (h0 : DataW.Trod enc Try.prog W 0 (fun _ => true) true 106 v0 d0 p0)
    (v1 : Value) (d1 : DataW H) (k1 : Value.okWide Try.prog W .any base 106 v1) (h1 : DataW.Trod enc Try.prog W 0 (fun _ => true) true 106 v1 d1 p1) :
    Calls Try.prog 7 #[v0, v1] W fun e w' => e = .returned (.bool true) ∧ Below W.heap.size W w' := by
  have e1 : IntKind.i8.min = -128 := rfl
  have e2 : IntKind.i8.max = 127 := rfl
  obtain ⟨o1, n1, c1, f1, rfl, x1, y1, i1, g1, z1⟩ := openInts (k := .i8) Try.underlying106 Try.underlying166 (by kernel_rfl) k0 h0
  obtain ⟨o2, n2, c2, f2, rfl, x2, y2, i2, g2, z2⟩ := openInts (k := .i8) Try.underlying106 Try.underlying166 (by kernel_rfl) k1 h1
  exact main o1 o2 n1 n2 c1 c2 f1 f2 W (Nat.le_trans x1 y1) (Nat.le_trans x2 y2) i1 i2 z1 z2 (fun i hi => by simpa [Lit.wf, e1, e2] using g1 i hi) (fun i hi => by simpa [Lit.wf, e1, e2] using g2 i hi)
end Go.Proofs.Ytfjdpnjdikgofaa.fnStmtsCareAboutScopeConcatOrderFree
