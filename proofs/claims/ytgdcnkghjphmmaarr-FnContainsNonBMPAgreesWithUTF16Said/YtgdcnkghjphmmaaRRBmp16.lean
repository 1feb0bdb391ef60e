/-
  ContainsNonBMPCodePointUTF16: true exactly when a high surrogate is followed by a low one. Condition: at most 2^20 units.
-/
import Derived.Test.YtgdcnkghjphmmaaRRRowsI
import Derived.Lib.Hide
namespace Go.Proofs.YtgdcnkghjphmmaaRR.Bmp16
open Go.RowKit Go.Proofs.YtgdcnkghjphmmaaRR.Ints

def pair (f : Nat → Int) (i : Nat) : Bool := decide (55296 ≤ f i ∧ f i ≤ 56319 ∧ 56320 ≤ f (i + 1) ∧ f (i + 1) ≤ 57343)
def anyPair (f : Nat → Int) (n : Nat) : Bool := (List.range (n - 1)).any (pair f)

theorem any_true {f : Nat → Int} {n i : Nat} (h : i < n - 1) (hp : pair f i = true) : anyPair f n = true := by
  simp only [anyPair, List.any_eq_true, List.mem_range]
  exact ⟨i, h, hp⟩
theorem any_false {f : Nat → Int} {n : Nat} (h : ∀ i, i < n - 1 → pair f i = false) : anyPair f n = false := by
  simp only [anyPair, List.any_eq_false, List.mem_range]
  exact fun i hi => by simp [h i hi]

set_option maxHeartbeats 1000000 in
theorem contains (b off n cap : Nat) (f : Nat → Int) (w : World) (hn : n ≤ 1048576) (hcap : n ≤ cap) (hc : ∀ i, i < n → w.cell? ⟨b, off + i, none⟩ = some (.int .u16 (f i))) :
    Calls Try.prog 8 #[.slice (some ⟨b, off, none⟩) n cap] w fun e w' => e = .returned (.bool (anyPair f n)) ∧ w = w' := by
  rcases Nat.eq_zero_or_pos n with h0 | hpos
  · subst h0
    go_enter Try.func8, Try.ntmps8
    go_wp2
    go_ret
    exact ⟨rfl, rfl⟩
  · obtain ⟨m, rfl⟩ : ∃ m, n = m + 1 := ⟨n - 1, by omega⟩
    go_enter Try.func8, Try.ntmps8
    go_wp2
    go_loopg [16] m (fun g i wr => w = wr ∧ ∃ r : Nat, r ≤ m ∧ g = m - r ∧ i = .int .i64 r ∧ ∀ j, j < r → pair f j = false)
    case atStart => exact ⟨rfl, 0, Nat.zero_le _, rfl, rfl, fun j hj => absurd hj (by omega)⟩
    case round =>
      obtain ⟨rfl, r, hr, rfl, rfl, hq⟩ := hrel
      rcases Nat.lt_or_ge r m with hlt | hge
      · have g1 := hc r (by omega)
        have g2 := hc (r + 1) (by omega)
        have hq' : pair f r = false → ∀ j, j < r + 1 → pair f j = false := fun h j hj => by
          rcases Nat.lt_succ_iff_lt_or_eq.1 hj with h' | h'
          · exact hq j h'
          · rw [h']; exact h
        have ht : pair f r = true → anyPair f (m + 1) = true := fun h => any_true (by omega) h
        replace hq' := Lib.hid hq'
        replace ht := Lib.hid ht
        clear hc hq
        generalize hx1 : f r = x1 at g1
        generalize hx2 : f (r + 1) = x2 at g2
        replace hx1 := Lib.hid hx1
        replace hx2 := Lib.hid hx2
        go_wp2
        all_goals first
          | (go_ret; refine ⟨?_, rfl⟩; rw [ht.out (by simp only [pair, hx1.out, hx2.out, decide_eq_true_eq]; omega)]; rfl)
          | (go_roundg (m - (r + 1)) <;> first | omega | exact ⟨rfl, r + 1, by omega, rfl, rfl, hq'.out (by simp only [pair, hx1.out, hx2.out, decide_eq_false_iff_not]; omega)⟩)
      · have hrn : r = m := by omega
        subst hrn
        have hs := Lib.hid (any_false (f := f) (n := r + 1) (fun i hi => hq i (by omega)))
        clear hq hc
        go_wp2
        go_ret
        exact ⟨by rw [hs.out]; rfl, rfl⟩
end Go.Proofs.YtgdcnkghjphmmaaRR.Bmp16
