/-
  The last rune of a string: an ASCII byte alone, or bytes from 128 on. No condition.
-/
import Derived.Test.YtcijcifhdakhoaaFmtPctB
import Derived.Test.YtcijcifhdakhoaaFmtInsLaw
import Derived.Shelf.Unicode.DecodeLast
namespace Go.Proofs.YtcijcifhdakhoaaFmt.Ins
open Go.RowKit Go.Lib Go.Proofs.YtcijcifhdakhoaaFmt.U8 Go.Proofs.YtcijcifhdakhoaaFmt.Pct

theorem last_facts (s : ByteArray) (h0 : 0 < s.size) : (bt s (s.size - 1) < 128 ∧ decodeLastL s.data.toList = (bt s (s.size - 1), 1)) ∨
    (128 ≤ bt s (s.size - 1) ∧ 128 ≤ (decodeLastL s.data.toList).1 ∧ 1 ≤ (decodeLastL s.data.toList).2 ∧ (decodeLastL s.data.toList).2 ≤ s.size ∧ ∀ j, s.size - (decodeLastL s.data.toList).2 ≤ j → j < s.size → 128 ≤ bt s j) := by
  have hl : s.data.toList.length = s.size := (size_eq s).symm
  have hne : s.data.toList ≠ [] := fun h => by rw [h] at hl; simp at hl; omega
  by_cases ha : bt s (s.size - 1) < 128
  · left
    refine ⟨ha, ?_⟩
    unfold decodeLastL
    rw [if_neg hne, hl, getD_get!, if_pos ha]
  · right
    have hge : 128 ≤ bt s (s.size - 1) := by omega
    refine ⟨hge, ?_⟩
    rw [decodeLastL_eq s h0 hge]
    have hst := lastStart_lt _ hne
    rw [hl] at hst
    generalize lastStart s.data.toList = st at hst ⊢
    have hd : decodeGo (s.extract st s.size) = Utf8.decode s st := by
      have e : (s.extract st s.size).size = s.size - st := by simp
      rw [decodeGo, if_neg (by omega), sub_dec]
    unfold lastOf
    rw [hd]
    have hlast : ∀ j, s.size - 1 ≤ j → j < s.size → 128 ≤ bt s j := fun j h1 h2 => by rw [show j = s.size - 1 by omega]; exact hge
    by_cases he : st + (Utf8.decode s st).2 = s.size
    · rw [if_pos he]
      by_cases hg : GoodR s st
      · rcases rune_facts hst hg with ⟨h1, h2⟩ | ⟨h1, h2, h3, h4, h5⟩
        · rw [h2] at he
          have he : st + 1 = s.size := he
          rw [show s.size - 1 = st by omega] at hge
          omega
        · exact ⟨h2, h3, by show (Utf8.decode s st).2 ≤ s.size; omega, fun j g1 g2 => h5 j (by have g1 : s.size - (Utf8.decode s st).2 ≤ j := g1; omega) (by omega)⟩
      · have hb : Utf8.decode s st = (65533, 1) := Classical.not_not.1 hg
        rw [hb]
        exact ⟨by show 128 ≤ 65533; omega, Nat.le_refl _, h0, hlast⟩
    · rw [if_neg he]
      exact ⟨by show 128 ≤ 65533; omega, Nat.le_refl _, h0, hlast⟩
theorem ins_congr {b c : Nat → Nat} {n : Nat} (h : ∀ j, j < n → b j = c j) : Ins b n ↔ Ins c n := by
  have one : ∀ {b c : Nat → Nat}, (∀ j, j < n → b j = c j) → Ins b n → Ins c n := by
    rintro b c h ⟨i, h1, h2, h3, h4⟩
    refine ⟨i, h1, by rw [← h i (by omega)]; exact h2, fun k hk => by rw [← h _ (by omega)]; exact h3 k hk, ?_⟩
    rcases Nat.lt_or_ge (i + 13) n with g | g
    · rcases h4 with h4 | h4
      · omega
      · exact .inr (by rw [← h _ g]; exact h4)
    · exact .inl (by omega)
  exact ⟨one h, one fun j hj => (h j hj).symm⟩
theorem ext_bt (s : ByteArray) (p q j : Nat) (hq : q ≤ s.size) (hj : p + j < q) : bt (s.extract p q) j = bt s (p + j) := by
  have h := ext_get s p q j hq hj
  have hlt : j < (s.extract p q).data.toList.length := (List.getElem?_eq_some_iff.1 h).1
  have e := (List.getElem?_eq_some_iff.1 h).2
  show ((s.extract p q).data[j]!).toNat = _
  rw [getElem!_pos (s.extract p q).data j (by rw [← Array.length_toList]; exact hlt)]
  have e2 : (s.extract p q).data[j]'(by rw [← Array.length_toList]; exact hlt) = s.get! (p + j) := by rw [← e]; simp
  rw [e2]
theorem ext_size (s : ByteArray) (p q : Nat) (hpq : p ≤ q) (hq : q ≤ s.size) : (s.extract p q).size = q - p := by
  rw [size_eq]; exact ext_len s p q hpq hq
theorem bt_app_left (P Q : ByteArray) (j : Nat) (h : j < P.size) : bt (P ++ Q) j = bt P j := by
  show ((P ++ Q).data[j]!).toNat = (P.data[j]!).toNat
  have h1 : j < P.data.size := h
  rw [getElem!_pos (P ++ Q).data j (by simp; omega), getElem!_pos P.data j h1]
  simp only [ByteArray.data_append]
  rw [Array.getElem_append_left h1]
theorem bt_app_right (P Q : ByteArray) (j : Nat) (h : j < Q.size) : bt (P ++ Q) (P.size + j) = bt Q j := by
  show ((P ++ Q).data[P.size + j]!).toNat = (Q.data[j]!).toNat
  have h1 : j < Q.data.size := h
  have hp : P.data.size = P.size := rfl
  rw [getElem!_pos (P ++ Q).data (P.size + j) (by simp; omega), getElem!_pos Q.data j h1]
  simp only [ByteArray.data_append]
  rw [Array.getElem_append_right (by omega)]
  congr 2
  omega
def NMB : ByteArray := ⟨#[110, 111, 100, 101, 95, 109, 111, 100, 117, 108, 101, 115]⟩
theorem nmb_bt (k : Nat) (h : k < 12) : bt NMB k = NM.getD k 0 := by
  have t : ∀ y : Fin 12, bt NMB y.val = NM.getD y.val 0 := by decide +kernel
  exact t ⟨k, h⟩
theorem ba_ext (P Q : ByteArray) (hs : P.size = Q.size) (h : ∀ j, j < P.size → bt P j = bt Q j) : P = Q := by
  apply ByteArray.ext
  have h1 : P.data.size = P.size := rfl
  have h2 : Q.data.size = Q.size := rfl
  apply Array.ext
  · omega
  · intro i hi hi2
    have e := h i (by omega)
    have e : (P.data[i]!).toNat = (Q.data[i]!).toNat := e
    rw [getElem!_pos P.data i hi, getElem!_pos Q.data i hi2] at e
    exact UInt8.toNat_inj.1 e
theorem base_iff (p : ByteArray) (l : Nat) (hl : l < p.size) : p.extract (l + 1) p.size = NMB ↔ (l + 13 = p.size ∧ ∀ k, k < 12 → bt p (l + 1 + k) = NM.getD k 0) := by
  have hz : (p.extract (l + 1) p.size).size = p.size - (l + 1) := ext_size p _ _ (by omega) (Nat.le_refl _)
  have h12 : NMB.size = 12 := rfl
  constructor
  · intro h
    have hs : l + 13 = p.size := by
      rw [h, h12] at hz
      omega
    refine ⟨hs, fun k hk => ?_⟩
    rw [← ext_bt p (l + 1) p.size k (Nat.le_refl _) (by omega), h]
    exact nmb_bt k hk
  · rintro ⟨hs, h⟩
    refine ba_ext _ _ (by omega) fun j hj => ?_
    rw [hz] at hj
    rw [ext_bt p _ _ j (Nat.le_refl _) (by omega), h j (by omega), nmb_bt j (by omega)]
theorem join_bytes (p q : ByteArray) (c : UInt8) (d : UInt8) (hc : Sl c.toNat) (hd : Sl d.toNat) : Ins (bt (p ++ ⟨#[c]⟩ ++ q)) (p ++ ⟨#[c]⟩ ++ q).size ↔ (Ins (bt p) p.size ∨ Ins (bt (⟨#[d]⟩ ++ q)) (⟨#[d]⟩ ++ q : ByteArray).size) := by
  have s1 : (⟨#[c]⟩ : ByteArray).size = 1 := rfl
  have s2 : (⟨#[d]⟩ : ByteArray).size = 1 := rfl
  have e1 : (p ++ ⟨#[c]⟩ ++ q).size = p.size + 1 + q.size := by rw [ByteArray.size_append, ByteArray.size_append, s1]
  have e2 : (⟨#[d]⟩ ++ q : ByteArray).size = 1 + q.size := by rw [ByteArray.size_append, s2]
  have e3 : (p ++ ⟨#[c]⟩).size = p.size + 1 := by rw [ByteArray.size_append, s1]
  rw [e1, e2]
  refine join (bt p) (bt q) _ _ p.size q.size (fun j h => ?_) ?_ (fun j h => ?_) ?_ (fun j h => ?_)
  · rw [bt_app_left _ _ j (by omega), bt_app_left _ _ j h]
  · rw [bt_app_left _ _ _ (by omega)]
    have := bt_app_right p ⟨#[c]⟩ 0 (by omega)
    rw [Nat.add_zero] at this
    rw [this]
    exact hc
  · rw [← e3, bt_app_right _ _ j h]
  · rw [bt_app_left _ _ 0 (by omega)]
    exact hd
  · have := bt_app_right ⟨#[d]⟩ q j h
    rw [s2] at this
    exact this
end Go.Proofs.YtcijcifhdakhoaaFmt.Ins
