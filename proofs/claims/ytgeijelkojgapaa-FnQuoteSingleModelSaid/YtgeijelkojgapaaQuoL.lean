/-
  The bytes of a good rune are its own encoding; a text's tail decodes as the text. No condition.
-/
import Derived.Test.YtgeijelkojgapaaQuoM
import Derived.Lib.RuneCountTail
namespace Go.Proofs.Ytgeijelkojgapaa.QuoL
open Go.RowKit Go.Lib Go.Proofs.Ytgeijelkojgapaa.U8 Go.Proofs.Ytgeijelkojgapaa.QuoD Go.Proofs.Ytgeijelkojgapaa.QuoM

theorem sub_dec (s : ByteArray) (i : Nat) : Utf8.decode (s.extract i s.size) 0 = Utf8.decode s i := by
  rw [tail_decode, Nat.add_zero]
theorem sub_good {s : ByteArray} {i : Nat} (h : GoodR s i) : GoodR (s.extract i s.size) 0 := by
  unfold GoodR
  rw [sub_dec]
  exact h
theorem ext_get (s : ByteArray) (p q j : Nat) (hq : q ≤ s.size) (hj : p + j < q) : (s.extract p q).data.toList[j]? = some (s.get! (p + j)) := by
  have e : (s.extract p q).data = s.data.extract p q := by simp
  rw [e, Array.toList_extract]
  have h1 : p + j < s.data.size := by show p + j < s.size; omega
  have : s.get! (p + j) = s.data[p + j]'h1 := by
    show s.data[p + j]! = _
    rw [getElem!_pos s.data (p + j) h1]
  rw [this]
  simp only [List.extract_eq_take_drop, List.getElem?_take, List.getElem?_drop]
  rw [if_pos (by omega)]
  simp
theorem raw_get (s : ByteArray) (p n j : Nat) (hj : j < n) : (raw s p n)[j]? = some (bt s (p + j) : Int) := by
  induction n with
  | zero => omega
  | succ n ih =>
    rw [raw]
    by_cases h : j < n
    · rw [List.getElem?_append_left (by rw [raw_len]; exact h), ih h]
    · have : j = n := by omega
      subst this
      rw [List.getElem?_append_right (by rw [raw_len]; exact Nat.le_refl _), raw_len]
      simp
theorem strCells_ext (s : ByteArray) (p q : Nat) (hpq : p ≤ q) (hq : q ≤ s.size) : strCells (s.extract p q) = (raw s p (q - p)).map (Value.int .u8) := by
  have hsz : (s.extract p q).data.toList.length = q - p := by
    have e : (s.extract p q).data = s.data.extract p q := by simp
    rw [e, Array.toList_extract]
    simp only [List.extract_eq_take_drop, List.length_take, List.length_drop, Array.length_toList]
    have : s.data.size = s.size := rfl
    omega
  apply List.ext_getElem?
  intro j
  rw [strCells, List.getElem?_map, List.getElem?_map]
  by_cases h : j < q - p
  · rw [ext_get s p q j hq (by omega), raw_get s p (q - p) j h]
    rfl
  · rw [List.getElem?_eq_none (by omega), List.getElem?_eq_none (by rw [raw_len]; omega)]
    rfl
def enc (c : Nat) : List Int :=
  if c < 128 then [(c : Int)] else if c < 2048 then [((192 + c / 64 : Nat) : Int), ((128 + c % 64 : Nat) : Int)]
  else if c < 65536 then [((224 + c / 4096 : Nat) : Int), ((128 + c / 64 % 64 : Nat) : Int), ((128 + c % 64 : Nat) : Int)]
  else [((240 + c / 262144 : Nat) : Int), ((128 + c / 4096 % 64 : Nat) : Int), ((128 + c / 64 % 64 : Nat) : Int), ((128 + c % 64 : Nat) : Int)]
theorem enc_good {s : ByteArray} {p : Nat} (hg : GoodR s p) : enc (Utf8.decode s p).1 = raw s p (Utf8.decode s p).2 := by
  rcases U8.shape hg with ⟨a, hd⟩ | ⟨a, b, c, d, e, hd⟩ | ⟨a, b, c, d, e, f, g, hd⟩ | ⟨a, b, c, d, e, f, g, k, l, hd⟩
  · rw [hd]
    show enc (bt s p) = raw s p 1
    simp [enc, a, raw]
  · rw [hd]
    show enc (bt s p % 32 * 64 + bt s (p + 1) % 64) = raw s p 2
    unfold enc
    rw [if_neg (by omega), if_pos (by omega)]
    simp only [raw, Nat.add_zero, List.nil_append, List.singleton_append]
    rw [show 192 + (bt s p % 32 * 64 + bt s (p + 1) % 64) / 64 = bt s p from by omega, show 128 + (bt s p % 32 * 64 + bt s (p + 1) % 64) % 64 = bt s (p + 1) from by omega]
  · rw [hd]
    obtain ⟨x, y, z, _⟩ := lo3 _ _ a b d e
    have h2 := sum3 _ _ (bt s (p + 2)) z
    show enc (bt s p % 16 * 4096 + bt s (p + 1) % 64 * 64 + bt s (p + 2) % 64) = raw s p 3
    unfold enc
    rw [if_neg (by omega), if_neg (by omega), if_pos (by omega)]
    simp only [raw, Nat.add_zero, List.nil_append, List.singleton_append]
    rw [show 224 + (bt s p % 16 * 4096 + bt s (p + 1) % 64 * 64 + bt s (p + 2) % 64) / 4096 = bt s p from by omega, show 128 + (bt s p % 16 * 4096 + bt s (p + 1) % 64 * 64 + bt s (p + 2) % 64) / 64 % 64 = bt s (p + 1) from by omega,
      show 128 + (bt s p % 16 * 4096 + bt s (p + 1) % 64 * 64 + bt s (p + 2) % 64) % 64 = bt s (p + 2) from by omega]
    rfl
  · rw [hd]
    obtain ⟨x, y, z, u⟩ := lo4 _ _ a b d e
    have h2 := (sum4 _ _ (bt s (p + 2)) (bt s (p + 3)) z u).1
    show enc (bt s p % 8 * 262144 + bt s (p + 1) % 64 * 4096 + bt s (p + 2) % 64 * 64 + bt s (p + 3) % 64) = raw s p 4
    unfold enc
    rw [if_neg (by omega), if_neg (by omega), if_neg (by omega)]
    simp only [raw, Nat.add_zero, List.nil_append, List.singleton_append]
    rw [show 240 + (bt s p % 8 * 262144 + bt s (p + 1) % 64 * 4096 + bt s (p + 2) % 64 * 64 + bt s (p + 3) % 64) / 262144 = bt s p from by omega, show 128 + (bt s p % 8 * 262144 + bt s (p + 1) % 64 * 4096 + bt s (p + 2) % 64 * 64 + bt s (p + 3) % 64) / 4096 % 64 = bt s (p + 1) from by omega,
      show 128 + (bt s p % 8 * 262144 + bt s (p + 1) % 64 * 4096 + bt s (p + 2) % 64 * 64 + bt s (p + 3) % 64) / 64 % 64 = bt s (p + 2) from by omega, show 128 + (bt s p % 8 * 262144 + bt s (p + 1) % 64 * 4096 + bt s (p + 2) % 64 * 64 + bt s (p + 3) % 64) % 64 = bt s (p + 3) from by omega]
    rfl
theorem rune_le {s : ByteArray} {p : Nat} (hg : GoodR s p) : (Utf8.decode s p).1 ≤ 1114111 := by
  rcases U8.shape hg with ⟨a, hd⟩ | ⟨a, b, c, d, e, hd⟩ | ⟨a, b, c, d, e, f, g, hd⟩ | ⟨a, b, c, d, e, f, g, k, l, hd⟩
  · rw [hd]; show bt s p ≤ _; omega
  · rw [hd]; show bt s p % 32 * 64 + bt s (p + 1) % 64 ≤ _; omega
  · rw [hd]; show bt s p % 16 * 4096 + bt s (p + 1) % 64 * 64 + bt s (p + 2) % 64 ≤ _; omega
  · rw [hd]
    obtain ⟨x, y, z, u⟩ := lo4 _ _ a b d e
    exact (sum4 _ _ (bt s (p + 2)) (bt s (p + 3)) z u).2
end Go.Proofs.Ytgeijelkojgapaa.QuoL
