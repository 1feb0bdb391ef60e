/-
  Bytes of pieces and of joined texts. No condition.
-/
import Derived.Test.YtgeijelkojgapaaPctB
namespace Go.Proofs.Ytgeijelkojgapaa.By
open Go.RowKit Go.Lib Go.Proofs.Ytgeijelkojgapaa.U8 Go.Proofs.Ytgeijelkojgapaa.Pct

theorem ext_bt (s : ByteArray) (p q j : Nat) (hq : q ≤ s.size) (hj : p + j < q) : bt (s.extract p q) j = bt s (p + j) := by
  have h := ext_get s p q j hq hj
  have hlt : j < (s.extract p q).data.toList.length := (List.getElem?_eq_some_iff.1 h).1
  have e := (List.getElem?_eq_some_iff.1 h).2
  show ((s.extract p q).data[j]!).toNat = _
  rw [getElem!_pos (s.extract p q).data j (by rw [← Array.length_toList]; exact hlt)]
  have e2 : (s.extract p q).data[j]'(by rw [← Array.length_toList]; exact hlt) = s.get! (p + j) := by rw [← e]; simp
  rw [e2]
theorem ext_size (s : ByteArray) (p q : Nat) (hpq : p ≤ q) (hq : q ≤ s.size) : (s.extract p q).size = q - p := by
  rw [size_eq]; exact ext_len s p q hpq hq
theorem bt_app_left (P Q : ByteArray) (j : Nat) (h : j < P.size) : bt (P ++ Q) j = bt P j := by
  show ((P ++ Q).data[j]!).toNat = (P.data[j]!).toNat
  have h1 : j < P.data.size := h
  rw [getElem!_pos (P ++ Q).data j (by simp; omega), getElem!_pos P.data j h1]
  simp only [ByteArray.data_append]
  rw [Array.getElem_append_left h1]
theorem bt_app_right (P Q : ByteArray) (j : Nat) (h : j < Q.size) : bt (P ++ Q) (P.size + j) = bt Q j := by
  show ((P ++ Q).data[P.size + j]!).toNat = (Q.data[j]!).toNat
  have h1 : j < Q.data.size := h
  have hp : P.data.size = P.size := rfl
  rw [getElem!_pos (P ++ Q).data (P.size + j) (by simp; omega), getElem!_pos Q.data j h1]
  simp only [ByteArray.data_append]
  rw [Array.getElem_append_right (by omega)]
  congr 2
  omega
theorem ba_ext (P Q : ByteArray) (hs : P.size = Q.size) (h : ∀ j, j < P.size → bt P j = bt Q j) : P = Q := by
  apply ByteArray.ext
  have h1 : P.data.size = P.size := rfl
  have h2 : Q.data.size = Q.size := rfl
  apply Array.ext
  · omega
  · intro i hi hi2
    have e := h i (by omega)
    have e : (P.data[i]!).toNat = (Q.data[i]!).toNat := e
    rw [getElem!_pos P.data i hi, getElem!_pos Q.data i hi2] at e
    exact UInt8.toNat_inj.1 e
end Go.Proofs.Ytgeijelkojgapaa.By
