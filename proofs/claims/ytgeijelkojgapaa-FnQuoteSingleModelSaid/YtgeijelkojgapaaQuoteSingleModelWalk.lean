/-
  The walk of FnQuoteSingleModel: it returns true for every text. No condition.
-/
import Derived.Test.YtgeijelkojgapaaQuoI
import Derived.Deep.QuietTactic
import Derived.BigQuiet
namespace Go.Proofs.Ytgeijelkojgapaa.fnQuoteSingleModel
open Go.RowKit Go.Lib Go.Proofs.Ytgeijelkojgapaa.Ints Go.Proofs.Ytgeijelkojgapaa.U8 Go.Proofs.Ytgeijelkojgapaa.QuoM Go.Proofs.Ytgeijelkojgapaa.QuoP Go.Proofs.Ytgeijelkojgapaa.QuoZ Go.Proofs.Ytgeijelkojgapaa.QuoN

def SomeB (s : ByteArray) (w : World) (e : Ending) (w' : World) : Prop := ∃ b : Bool, e = .returned (.bool b) ∧ (b = true → s.size ≤ 1048576) ∧ w = w'
theorem bytes (s : ByteArray) (a : Bool) (w : World) (m1 : s.size ≤ maxLen) : Calls Try.prog 5 #[.string s, .bool a] w (SomeB s w) := by
  unfold maxLen at m1
  by_cases h : s.size ≤ 1048576
  · go_enter Try.func5, Try.ntmps5
    go_wp2
    all_goals
      go_ret
      exact ⟨_, rfl, fun _ => h, rfl⟩
  · have h2 : 1048576 < (s.size : Int) := by omega
    go_enter Try.func5, Try.ntmps5
    go_wp2
    all_goals
      go_ret
      exact ⟨false, rfl, (fun h => by cases h), rfl⟩
theorem own_ints {B : Nat} {v : Value} {cs : List Int} {W0 w : World} (h : OwnBuf B 5 v cs.length (cells8 cs) W0 w) : ∃ o c, v = .slice o cs.length c ∧ IntsAt .u8 w o cs.length (fun i => cs.getD i 0) := by
  rcases h.1.2 with ⟨rfl, h0⟩ | ⟨g, cap, cur, fz, rfl, _, hg, _, _, _, _, _⟩
  · exact ⟨none, 0, by rw [h0], .inl h0⟩
  · refine ⟨_, cap, rfl, .inr ⟨g, 0, rfl, (h.1.lt g rfl).2, fun i hi => ?_⟩⟩
    have hc := h.1.cells (g := g) rfl i (.int .u8 (cs.getD i 0)) (by
      rw [List.getElem?_map, List.getD_eq_getElem?_getD, List.getElem?_eq_getElem hi]
      rfl)
    rwa [Go.WideShapes.add_plain] at hc
def Drawn (w wr : World) : Prop := ∃ t, wr = w.drewN t
theorem Drawn.step {w wr : World} (h : Drawn w wr) (n : Nat) : Drawn w (wr.drewN n) := by
  obtain ⟨t, rfl⟩ := h
  exact ⟨t + n, World.drewN_drewN _ _ _⟩
theorem Drawn.below {w wr : World} (h : Drawn w wr) : Below w.heap.size w wr := by
  obtain ⟨t, rfl⟩ := h
  exact ⟨rfl, rfl, rfl, Nat.le_refl _, fun _ _ => rfl⟩
def Yes (w : World) (e : Ending) (w' : World) : Prop := e = .returned (.bool true) ∧ Drawn w w'
theorem eqB (o1 o2 : Option Addr) (n c1 c2 : Nat) (f : Nat → Int) (w : World) (m1 : n ≤ 99000000) (h1 : IntsAt .u8 w o1 n f) (h2 : IntsAt .u8 w o2 n f) :
    Calls Try.prog 8 #[.slice o1 n c1, .slice o2 n c2] w (Yes w) := by
  go_enter Try.func8, Try.ntmps8
  go_wp2_with fail
  go_loopg [5] n (fun g i wr => Drawn w wr ∧ ∃ r : Nat, r ≤ n ∧ g = n - r ∧ i = .int .i64 r)
  case atStart => exact ⟨⟨0, rfl⟩, 0, Nat.zero_le _, rfl, rfl⟩
  case round =>
    obtain ⟨hD, r, hr, rfl, rfl⟩ := hrel
    rcases Nat.lt_or_ge r n with hlt | hge
    · rcases h1 with h0 | ⟨b, off, he, hb, hc⟩
      · omega
      rcases h2 with h0' | ⟨b', off', he', hb', hc'⟩
      · omega
      cases he
      cases he'
      have g1 := (hD.below.cell (p := ⟨b, off + r, none⟩) hb).trans (hc r hlt)
      have g2 := (hD.below.cell (p := ⟨b', off' + r, none⟩) hb').trans (hc' r hlt)
      have l1 : (r : Int) < (n : Int) := by omega
      clear hc hc'
      go_wp2_with fail
      go_quiet (fail)
      go_wp2_with fail
      go_roundg (n - (r + 1))
      case measure => omega
      case rel => exact ⟨hD.step _, r + 1, by omega, rfl, rfl⟩
    · have hrn : r = n := by omega
      subst hrn
      clear h1 h2
      go_wp2_with fail
      go_ret
      exact ⟨rfl, hD⟩
theorem quote1 (a : Bool) (s : ByteArray) (w : World) (hs : s.size ≤ 1048576) (hV : Valid s) : Calls Try.prog 7 #[.string s, .bool a] w (Quoted a s w) := by
  go_enter Try.func7, Try.ntmps7
  go_wp2_with fail
  go_at_call 19
  refine (QuoI.inner a s w hs hV).mono ?_
  intro e w' hq
  obtain ⟨v', cs, k, hcs, h1, h2, rfl, hb⟩ := hq
  go_wp2_with fail
  go_ret
  exact ⟨v', cs, k, hcs, h1, h2, rfl, hb⟩
theorem len_unique {s : ByteArray} {k j : Nat} (h1 : ¬ ps s k < s.size) (h2 : ∀ i, i < k → ps s i < s.size) (h3 : ¬ ps s j < s.size) (h4 : ∀ i, i < j → ps s i < s.size) : k = j := by
  rcases Nat.lt_trichotomy k j with h | h | h
  · exact absurd (h4 k h) h1
  · exact h
  · exact absurd (h2 j h) h3
theorem len_le {s : ByteArray} (a : Bool) {k : Nat} (hs : s.size ≤ 1048576) (h2 : ∀ i, i < k → ps s i < s.size) : ([39] ++ quo a s k ++ [39]).length ≤ 99000000 := by
  have hk : k ≤ s.size := by
    by_cases h0 : k = 0
    · omega
    · have h3 := h2 (k - 1) (by omega)
      have h4 := ps_ge s (k - 1) (fun j hj => h2 j (by omega))
      omega
  have := quo_len a s k
  simp
  omega
theorem walk (s : ByteArray) (m1 : s.size ≤ maxLen) (a : Bool) (w : World) :
    Calls Try.prog 3 #[.string s, .bool a] w fun e w' => e = .returned (.bool true) ∧ Below w.heap.size w w' := by
  have hm1 := m1
  unfold maxLen at hm1
  go_enter Try.func3, Try.ntmps3
  go_wp2_with fail
  go_at_call 5
  refine (bytes s a _ m1).mono ?_
  rintro e w' ⟨r, rfl, hr, rfl⟩
  cases r with
  | false =>
    clear hr
    go_wp2
    go_ret
    exact ⟨rfl, Below.refl _ _⟩
  | true =>
    have hs := hr rfl
    clear hr
    have c0 : (s.size : Int) ≤ 1048576 := by omega
    go_wp2_with fail
    go_at_call 6
    refine (valid s _ hs).mono ?_
    rintro e w' ⟨r, rfl, hr, rfl⟩
    cases r with
    | false =>
      clear hr
      go_wp2
      go_ret
      exact ⟨rfl, Below.refl _ _⟩
    | true =>
      have hV := Lib.hid (hr rfl)
      clear hr
      go_wp2_with fail
      go_at_call 7
      refine (quote1 a s _ hs hV.out).mono ?_
      rintro e w1 ⟨v1, cs1, k1, hc1, a1, b1, rfl, hb1⟩
      replace hc1 := Lib.hid hc1
      have hB1 := hb1.2.1
      obtain ⟨o1, p1, rfl, hI1⟩ := own_ints hb1
      go_wp2_with fail
      go_at_call 9
      refine (model a s _ hs hV.out).mono ?_
      rintro e w2 ⟨v2, cs2, k2, hc2, a2, b2, rfl, hb2⟩
      have hB2 := hb2.2.1
      obtain ⟨o2, p2, rfl, hI2⟩ := own_ints hb2
      obtain rfl := len_unique a1 b1 a2 b2
      obtain rfl : cs1 = cs2 := hc1.out.trans hc2.symm
      have hl : cs1.length ≤ 99000000 := by rw [hc1.out]; exact len_le a hs b1
      have hI3 := hI1.below hB2
      obtain ⟨n, hn⟩ : ∃ n, n = cs1.length := ⟨_, rfl⟩
      obtain ⟨F, hF⟩ : ∃ F, F = fun i => cs1.getD i 0 := ⟨_, rfl⟩
      rw [← hn, ← hF] at hI3 hI2
      rw [← hn] at hl ⊢
      clear hF hn
      replace hI2 := Lib.hid hI2
      replace hI3 := Lib.hid hI3
      have hBB := Lib.hid (hB1.trans (hB2.mono hB1.size))
      clear a1 b1 a2 b2 hb1 hb2 hI1 hB1 hB2
      clear hc1 hc2
      go_wp2_with fail
      go_at_call 8
      refine (eqB o1 o2 n p1 p2 F _ hl hI3.out hI2.out).mono ?_
      rintro e w' ⟨rfl, hD⟩
      have hBD := Lib.hid (hBB.out.trans (hD.below.mono (hBB.out.size)))
      go_wp2_with fail
      go_ret
      exact ⟨rfl, hBD.out⟩
end Go.Proofs.Ytgeijelkojgapaa.fnQuoteSingleModel
