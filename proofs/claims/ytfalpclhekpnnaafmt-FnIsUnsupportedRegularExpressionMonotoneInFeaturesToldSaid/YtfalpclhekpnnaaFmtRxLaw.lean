/-
  The plain law of the regular expression's scan: more features stop it at the same place or earlier. No condition.
-/
import Derived.Test.YtfalpclhekpnnaaFmtU8
import Derived.Laws.BitsAllLaws
import Derived.Lib.Bytealg
import Derived.Lib.Strings
namespace Go.Proofs.YtfalpclhekpnnaaFmt.Rx
open Go.RowKit Go.Proofs.YtfalpclhekpnnaaFmt.U8

def hasB (f m : Int) : Bool := bits .and .u64 f m != 0
def tl (s : ByteArray) (i : Nat) : ByteArray := s.extract i s.size
def pf (s : ByteArray) (i : Nat) (p : ByteArray) : Bool := Lib.hasPrefix (tl s i).data.toList p.data.toList
def ix (s : ByteArray) (i : Nat) (c : UInt8) : Bool := decide (0 ≤ Lib.indexByte (tl s i).data.toList c)
def look (s : ByteArray) (i : Nat) : Bool := pf s i ⟨#[63, 60, 61]⟩ || pf s i ⟨#[63, 60, 33]⟩
def namd (s : ByteArray) (i : Nat) : Bool := pf s i ⟨#[63, 60]⟩
def prop (s : ByteArray) (i : Nat) : Bool := pf s i ⟨#[112, 123]⟩ || pf s i ⟨#[80, 123]⟩
def mLook : Int := 562949953421312
def mName : Int := 2251799813685248
def mProp : Int := 18014398509481984
/-- Does the scan stop at i, where a round bracket (a backslash) has been read? -/
def stopR (F : Int) (s : ByteArray) (i : Nat) : Bool := if look s i then hasB F mLook else if namd s i then hasB F mName && ix s i 62 else false
def stopB (F : Int) (u : Bool) (s : ByteArray) (i : Nat) : Bool := if u && prop s i then hasB F mProp && ix s i 125 else false
def cls (s : ByteArray) (i : Nat) : Nat := if i < s.size then (if bt s i = 93 then i + 1 else if bt s i = 92 then cls s (i + 2) else cls s (i + 1)) else i
  termination_by s.size - i
theorem cls_ge (s : ByteArray) (i : Nat) : i ≤ cls s i := by
  unfold cls
  split
  · split
    · omega
    · split
      · have := cls_ge s (i + 2); omega
      · have := cls_ge s (i + 1); omega
  · omega
  termination_by s.size - i
inductive Out
  | fin
  | uns
  | err
def scan (F : Int) (u : Bool) (s : ByteArray) (i d : Nat) : Out :=
  if i < s.size then
    if bt s i = 91 then scan F u s (cls s (i + 1)) d
    else if bt s i = 40 then (if stopR F s (i + 1) then .uns else scan F u s (i + 1) (d + 1))
    else if bt s i = 41 then (if d = 0 then .err else scan F u s (i + 1) (d - 1))
    else if bt s i = 92 then (if stopB F u s (i + 1) then .uns else scan F u s (i + 2) d)
    else scan F u s (i + 1) d
  else .fin
  termination_by s.size - i
  decreasing_by
  all_goals first | omega | (have := cls_ge s (i + 1); omega)
def badF (F : Int) (r : Nat) : Bool :=
  if r = 103 ∨ r = 105 ∨ r = 109 then false
  else if r = 115 then hasB F 281474976710656
  else if r = 121 ∨ r = 117 then hasB F 9007199254740992
  else if r = 100 then hasB F 1125899906842624
  else if r = 118 then hasB F 4503599627370496
  else true
theorem dec_pos (s : ByteArray) (i : Nat) (h : i < s.size) : 1 ≤ (Utf8.decode s i).2 := Hash.width_pos s i h
def flg (F : Int) (s : ByteArray) (i : Nat) : Bool := if i < s.size then (badF F (Utf8.decode s i).1 || flg F s (i + (Utf8.decode s i).2)) else false
  termination_by s.size - i
  decreasing_by
  have := dec_pos s i (by assumption)
  omega
/-- What the program answers: unsupported; an error. -/
def uns (F : Int) (u : Bool) (s fl : ByteArray) : Bool := match scan F u s 0 0 with
  | .fin => flg F fl 0
  | .uns => true
  | .err => false
def err (F : Int) (u : Bool) (s : ByteArray) : Bool := match scan F u s 0 0 with
  | .err => true
  | _ => false
section
variable {A C : Int} (hAC : ∀ m, 0 ≤ m → m < 18446744073709551616 → hasB A m = true → hasB C m = true)
  include hAC
theorem stopR_mono (s : ByteArray) (i : Nat) (h : stopR A s i = true) : stopR C s i = true := by
  unfold stopR at *
  by_cases h1 : look s i = true
  · rw [if_pos h1] at h ⊢
    exact hAC _ (by decide) (by decide) h
  rw [if_neg h1] at h ⊢
  by_cases h2 : namd s i = true
  · rw [if_pos h2] at h ⊢
    have h3 := Bool.and_eq_true_iff.1 h
    exact Bool.and_eq_true_iff.2 ⟨hAC _ (by decide) (by decide) h3.1, h3.2⟩
  · rw [if_neg h2] at h; cases h
theorem stopB_mono (u : Bool) (s : ByteArray) (i : Nat) (h : stopB A u s i = true) : stopB C u s i = true := by
  unfold stopB at *
  by_cases h1 : (u && prop s i) = true
  · rw [if_pos h1] at h ⊢
    have h3 := Bool.and_eq_true_iff.1 h
    exact Bool.and_eq_true_iff.2 ⟨hAC _ (by decide) (by decide) h3.1, h3.2⟩
  · rw [if_neg h1] at h; cases h
theorem scan_mono (u : Bool) (s : ByteArray) : ∀ (k i d : Nat), s.size - i ≤ k → scan C u s i d = .uns ∨ scan C u s i d = scan A u s i d := by
  intro k
  induction k with
  | zero =>
    intro i d hk
    right
    rw [scan.eq_1 C u s i d, scan.eq_1 A u s i d, if_neg (by omega), if_neg (by omega)]
  | succ k ih =>
    intro i d hk
    rw [scan.eq_1 C u s i d, scan.eq_1 A u s i d]
    by_cases h0 : i < s.size
    · rw [if_pos h0, if_pos h0]
      by_cases h1 : bt s i = 91
      · rw [if_pos h1, if_pos h1]
        exact ih _ _ (by have := cls_ge s (i + 1); omega)
      rw [if_neg h1, if_neg h1]
      by_cases h2 : bt s i = 40
      · rw [if_pos h2, if_pos h2]
        by_cases h3 : stopR C s (i + 1) = true
        · rw [if_pos h3]; exact .inl rfl
        · have h4 : ¬ stopR A s (i + 1) = true := fun h => h3 (stopR_mono hAC s _ h)
          rw [if_neg h3, if_neg h4]
          exact ih _ _ (by omega)
      rw [if_neg h2, if_neg h2]
      by_cases h3 : bt s i = 41
      · rw [if_pos h3, if_pos h3]
        by_cases h4 : d = 0
        · rw [if_pos h4, if_pos h4]; exact .inr rfl
        · rw [if_neg h4, if_neg h4]; exact ih _ _ (by omega)
      rw [if_neg h3, if_neg h3]
      by_cases h5 : bt s i = 92
      · rw [if_pos h5, if_pos h5]
        by_cases h6 : stopB C u s (i + 1) = true
        · rw [if_pos h6]; exact .inl rfl
        · have h7 : ¬ stopB A u s (i + 1) = true := fun h => h6 (stopB_mono hAC u s _ h)
          rw [if_neg h6, if_neg h7]
          exact ih _ _ (by omega)
      rw [if_neg h5, if_neg h5]
      exact ih _ _ (by omega)
    · rw [if_neg h0, if_neg h0]; exact .inr rfl
theorem badF_mono (r : Nat) (h : badF A r = true) : badF C r = true := by
  unfold badF at *
  by_cases h1 : r = 103 ∨ r = 105 ∨ r = 109
  · rw [if_pos h1] at h; cases h
  rw [if_neg h1] at h ⊢
  by_cases h2 : r = 115
  · rw [if_pos h2] at h ⊢; exact hAC _ (by decide) (by decide) h
  rw [if_neg h2] at h ⊢
  by_cases h3 : r = 121 ∨ r = 117
  · rw [if_pos h3] at h ⊢; exact hAC _ (by decide) (by decide) h
  rw [if_neg h3] at h ⊢
  by_cases h4 : r = 100
  · rw [if_pos h4] at h ⊢; exact hAC _ (by decide) (by decide) h
  rw [if_neg h4] at h ⊢
  by_cases h5 : r = 118
  · rw [if_pos h5] at h ⊢; exact hAC _ (by decide) (by decide) h
  rw [if_neg h5]
theorem flg_mono (s : ByteArray) : ∀ (k i : Nat), s.size - i ≤ k → flg A s i = true → flg C s i = true := by
  intro k
  induction k with
  | zero =>
    intro i hk h
    rw [flg.eq_1 A s i, if_neg (by omega)] at h
    cases h
  | succ k ih =>
    intro i hk h
    rw [flg.eq_1 A s i] at h
    rw [flg.eq_1 C s i]
    by_cases h0 : i < s.size
    · rw [if_pos h0, Bool.or_eq_true] at *
      rcases h with h | h
      · exact .inl (badF_mono hAC _ h)
      · exact .inr (ih _ (by have := dec_pos s i h0; omega) h)
    · rw [if_neg h0] at h; cases h
theorem uns_mono (u : Bool) (s fl : ByteArray) (h : uns A u s fl = true) : uns C u s fl = true := by
  unfold uns at *
  rcases scan_mono hAC u s _ 0 0 (Nat.le_refl _) with e | e
  · rw [e]
  · rw [e]
    split at h
    · exact flg_mono hAC fl _ 0 (Nat.le_refl _) h
    · rfl
    · cases h
theorem err_mono (u : Bool) (s : ByteArray) (h : err C u s = true) : err A u s = true := by
  unfold err at *
  rcases scan_mono hAC u s _ 0 0 (Nat.le_refl _) with e | e
  · rw [e] at h; cases h
  · rw [e] at h; exact h
end
end Go.Proofs.YtfalpclhekpnnaaFmt.Rx
