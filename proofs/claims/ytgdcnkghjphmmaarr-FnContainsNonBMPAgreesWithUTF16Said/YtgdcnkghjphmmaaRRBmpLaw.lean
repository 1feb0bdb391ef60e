/-
  The plain law: the units of a string hold a surrogate pair exactly when some rune is above 65535. No condition.
-/
import Derived.Test.YtgdcnkghjphmmaaRRToUtf16
import Derived.Test.YtgdcnkghjphmmaaRRBmp16
import Derived.Test.YtgdcnkghjphmmaaRRBmp
import Derived.Laws.BitsAllLaws
namespace Go.Proofs.YtgdcnkghjphmmaaRR.BmpLaw
open Go.RowKit Go.Proofs.YtgdcnkghjphmmaaRR.Hash Go.Proofs.YtgdcnkghjphmmaaRR.Dec Go.Proofs.YtgdcnkghjphmmaaRR.ToUtf16 Go.Proofs.YtgdcnkghjphmmaaRR.Bmp16 Go.Proofs.YtgdcnkghjphmmaaRR.Bmp

def isPair (x y : Int) : Bool := decide (55296 ≤ x ∧ x ≤ 56319 ∧ 56320 ≤ y ∧ y ≤ 57343)
def lp : List Int → Bool
  | x :: y :: t => isPair x y || lp (y :: t)
  | _ => false

theorem any_lp : ∀ xs : List Int, anyPair (fun i => xs.getD i 0) xs.length = lp xs
  | [] => rfl
  | [_] => rfl
  | x :: y :: t => by
    have ih := any_lp (y :: t)
    simp only [anyPair, List.length_cons, Nat.add_sub_cancel] at ih ⊢
    rw [List.range_succ_eq_map, List.any_cons, List.any_map, lp, ← ih]
    rfl

theorem hi_range (c : Nat) (h1 : 65535 < c) (h2 : c ≤ 1114111) : 55296 ≤ hiOf c ∧ hiOf c ≤ 56319 := by
  have e : bits BinOp.and IntKind.i32 (((c : Int) - 65536) / 1024) 1023 = (((c : Int) - 65536) / 1024) % 1024 := bits_mask .i32 31 (by decide) wraps_i32 10 (by decide) _ (by omega) (by omega)
  unfold hiOf
  rw [e]
  simp only [wrap32, IntKind.wrap, IntKind.bits, IntKind.signed]
  simp
  omega
theorem lo_range (c : Nat) (h1 : 65535 < c) (h2 : c ≤ 1114111) : 56320 ≤ loOf c ∧ loOf c ≤ 57343 := by
  have e : bits BinOp.and IntKind.i32 ((c : Int) - 65536) 1023 = ((c : Int) - 65536) % 1024 := bits_mask .i32 31 (by decide) wraps_i32 10 (by decide) _ (by omega) (by omega)
  unfold loOf
  rw [e]
  simp only [wrap32, IntKind.wrap, IntKind.bits, IntKind.signed]
  simp
  omega

theorem lp_cons (x : Int) (h : ¬ (55296 ≤ x ∧ x ≤ 56319)) (xs : List Int) : lp (x :: xs) = lp xs := by
  cases xs with
  | nil => rfl
  | cons y t =>
    have : isPair x y = false := by simp only [isPair, decide_eq_false_iff_not]; omega
    rw [lp, this, Bool.false_or]

theorem law (s : ByteArray) : ∀ (g pos : Nat), lp (units s g pos) = nb s g pos := by
  intro g
  induction g with
  | zero => intro _; rfl
  | succ g ih =>
    intro pos
    by_cases hp : pos < s.size
    · obtain ⟨_, d2, d3⟩ := dec_facts s pos hp
      rw [units, nb, if_pos hp, if_pos hp]
      by_cases hc : (Utf8.decode s pos).1 ≤ 65535
      · rw [enc, if_pos hc, List.cons_append, List.nil_append, lp_cons _ (by omega), ih]
        have : ¬ 65535 < (Utf8.decode s pos).1 := by omega
        simp [this]
      · have hc' : 65535 < (Utf8.decode s pos).1 := by omega
        obtain ⟨_, h4⟩ := d2 hc'
        have a1 := hi_range _ hc' h4
        have a2 := lo_range _ hc' h4
        rw [enc, if_neg hc, List.cons_append, List.cons_append, List.nil_append, lp]
        have : isPair (hiOf (Utf8.decode s pos).1) (loOf (Utf8.decode s pos).1) = true := by simp only [isPair, decide_eq_true_eq]; omega
        rw [this]
        simp [hc']
    · rw [units_end s _ pos hp, nb_end s _ pos hp]
      rfl
end Go.Proofs.YtgdcnkghjphmmaaRR.BmpLaw
