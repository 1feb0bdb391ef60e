/-
  What the quoted text holds: one piece a rune. No condition.
-/
import Derived.Test.YtgeijelkojgapaaQuoW
import Derived.Lib.BufSteps
namespace Go.Proofs.Ytgeijelkojgapaa.QuoM
open Go.RowKit Go.Lib Go.Proofs.Ytgeijelkojgapaa.U8 Go.Proofs.Ytgeijelkojgapaa.QuoD

def HX : ByteArray := ⟨#[48, 49, 50, 51, 52, 53, 54, 55, 56, 57, 65, 66, 67, 68, 69, 70]⟩
def hx (n : Nat) : Int := (bt HX n : Int)
def hex4 (c : Nat) : List Int := [92, 117, hx (c / 4096 % 16), hx (c / 256 % 16), hx (c / 16 % 16), hx (c % 16)]
/-- A rune that goes as it is. -/
def pr (a : Bool) (c : Nat) : Bool := if c ≤ 126 then decide (32 ≤ c) && decide (c ≠ 92) && decide (c ≠ 34) else !a && decide (c ≠ 65279)
def esc (c : Nat) : List Int :=
  if c = 8 then [92, 98] else if c = 12 then [92, 102] else if c = 10 then [92, 110] else if c = 13 then [92, 114] else if c = 9 then [92, 116] else if c = 92 then [92, 92] else if c = 34 then [34]
  else if c ≤ 65535 then hex4 c else hex4 (55296 + (c - 65536) / 1024) ++ hex4 (56320 + (c - 65536) % 1024)
/-- The bytes from p on, n of them. -/
def raw (s : ByteArray) (p : Nat) : Nat → List Int
  | 0 => []
  | n + 1 => raw s p n ++ [(bt s (p + n) : Int)]
theorem raw_len (s : ByteArray) (p n : Nat) : (raw s p n).length = n := by
  induction n with
  | zero => rfl
  | succ n ih => simp [raw, ih]
theorem raw_add (s : ByteArray) (p m n : Nat) : raw s p (m + n) = raw s p m ++ raw s (p + m) n := by
  induction n with
  | zero => simp [raw]
  | succ n ih => rw [show m + (n + 1) = (m + n) + 1 from rfl, raw, ih, raw, List.append_assoc, Nat.add_assoc]
def piece (a : Bool) (s : ByteArray) (p : Nat) : List Int := if pr a (Utf8.decode s p).1 then raw s p (Utf8.decode s p).2 else esc (Utf8.decode s p).1
/-- Where the k-th rune begins. -/
def ps (s : ByteArray) : Nat → Nat
  | 0 => 0
  | k + 1 => ps s k + (Utf8.decode s (ps s k)).2
def quo (a : Bool) (s : ByteArray) : Nat → List Int
  | 0 => []
  | k + 1 => quo a s k ++ piece a s (ps s k)
theorem ps_mono (s : ByteArray) (j k : Nat) (h : j ≤ k) : ps s j ≤ ps s k := by
  induction k with
  | zero => have : j = 0 := by omega
            subst this; exact Nat.le_refl _
  | succ k ih =>
    by_cases hj : j = k + 1
    · subst hj; exact Nat.le_refl _
    · exact Nat.le_trans (ih (by omega)) (by rw [ps]; omega)
theorem ps_ge (s : ByteArray) (k : Nat) (h : ∀ j, j < k → ps s j < s.size) : k ≤ ps s k := by
  induction k with
  | zero => exact Nat.zero_le _
  | succ k ih =>
    have h1 := ih (fun j hj => h j (by omega))
    have h2 := Hash.width_pos s (ps s k) (h k (by omega))
    rw [ps]
    omega
theorem ps_le (s : ByteArray) (k : Nat) (h : ps s k < s.size) : ps s (k + 1) ≤ s.size := (Dec.dec_facts s (ps s k) h).1
/-- Every rune from the start on is good. -/
def Valid (s : ByteArray) : Prop := ∀ k, ps s k < s.size → GoodR s (ps s k)
theorem esc_len (c : Nat) : (esc c).length ≤ 12 := by
  unfold esc
  repeat' (first | split | (simp [hex4]; done))
theorem width4 (s : ByteArray) (p : Nat) : (Utf8.decode s p).2 ≤ 4 := by
  by_cases hg : GoodR s p
  · rcases U8.shape hg with ⟨a, hd⟩ | ⟨a, b, c, d, e, hd⟩ | ⟨a, b, c, d, e, f, g, hd⟩ | ⟨a, b, c, d, e, f, g, k, l, hd⟩ <;> rw [hd] <;> simp
  · unfold GoodR at hg
    have hd : Utf8.decode s p = (65533, 1) := Classical.not_not.1 hg
    rw [hd]
    simp
theorem piece_len (a : Bool) (s : ByteArray) (p : Nat) : (piece a s p).length ≤ 12 := by
  unfold piece
  split
  · rw [raw_len]; have := width4 s p; omega
  · exact esc_len _
theorem quo_len (a : Bool) (s : ByteArray) (k : Nat) : (quo a s k).length ≤ 12 * k := by
  induction k with
  | zero => simp [quo]
  | succ k ih => rw [quo, List.length_append]; have := piece_len a s (ps s k); omega
/-- A run of runes that go as they are. -/
theorem quo_run (a : Bool) (s : ByteArray) (k n : Nat) (h : ∀ j, j < n → pr a (Utf8.decode s (ps s (k + j))).1 = true) : quo a s (k + n) = quo a s k ++ raw s (ps s k) (ps s (k + n) - ps s k) := by
  induction n with
  | zero => simp [raw]
  | succ n ih =>
    have e := ps_mono s k (k + n) (by omega)
    have e2 : ps s (k + (n + 1)) = ps s (k + n) + (Utf8.decode s (ps s (k + n))).2 := rfl
    rw [show k + (n + 1) = (k + n) + 1 from rfl, quo, ih (fun j hj => h j (by omega)), piece, if_pos (h n (by omega)), List.append_assoc]
    congr 1
    rw [show ps s ((k + n) + 1) - ps s k = (ps s (k + n) - ps s k) + (Utf8.decode s (ps s (k + n))).2 from by rw [show (k + n) + 1 = k + (n + 1) from rfl, e2]; omega, raw_add]
    congr 2
    omega
/-- A good rune below 128 is its byte. -/
theorem one_byte {s : ByteArray} {p : Nat} (hg : GoodR s p) (h : (Utf8.decode s p).1 < 128) : (Utf8.decode s p).2 = 1 ∧ bt s p = (Utf8.decode s p).1 := by
  rcases U8.shape hg with ⟨a, hd⟩ | ⟨a, b, c, d, e, hd⟩ | ⟨a, b, c, d, e, f, g, hd⟩ | ⟨a, b, c, d, e, f, g, k, l, hd⟩
  · rw [hd]; exact ⟨rfl, rfl⟩
  · rw [hd] at h
    exfalso
    simp only at h
    omega
  · rw [hd] at h
    exfalso
    obtain ⟨x, y, z, _⟩ := lo3 _ _ a b d e
    have := sum3 _ _ (bt s (p + 2)) z
    simp only [v3] at h
    omega
  · rw [hd] at h
    exfalso
    obtain ⟨x, y, z, u⟩ := lo4 _ _ a b d e
    have := (sum4 _ _ (bt s (p + 2)) (bt s (p + 3)) z u).1
    simp only [v4] at h
    omega
end Go.Proofs.Ytgeijelkojgapaa.QuoM
