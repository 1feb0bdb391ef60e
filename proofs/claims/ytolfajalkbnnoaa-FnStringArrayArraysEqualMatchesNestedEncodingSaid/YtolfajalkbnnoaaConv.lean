/-
  A row of bytes as a string: the conversion. No condition.
-/
import Derived.Test.YtolfajalkbnnoaaByteRows
namespace Go.Proofs.Ytolfajalkbnnoaa.Join
open Go.RowKit Go.ChangeShapes Go.WideShapes Go.ChangeAt Go.Proofs.Ytolfajalkbnnoaa.Ints

def strB (l : List UInt8) : ByteArray := ⟨l.toArray⟩
theorem nums (l : List UInt8) : strOfNums (l.map fun b => (b.toNat : Int)) = strB l := by
  unfold strOfNums strB
  congr 2
  rw [List.map_map]
  conv => rhs; rw [← List.map_id l]
  congr 1
  funext b
  simp
theorem getI (l : List UInt8) (i : Nat) : (l.map fun b => (b.toNat : Int)).getD i 0 = ((l.getD i 0).toNat : Int) := by
  by_cases h : i < l.length
  · simp [List.getD, h]
  · simp [List.getD, h]
theorem conv (a : Option Addr) (n cap : Nat) (l : List UInt8) (w : World) (h : BytesAt w a n l) : (convert 32 9 (.slice a n cap)).run Try.prog w = .ok (.string (strB l)) w := by
  have hl := h.1
  rcases h.2 with h0 | ⟨b, off, rfl, _, hc⟩
  · subst h0
    have : l = [] := List.eq_nil_of_length_eq_zero hl
    subst this
    cases a with
    | none => rw [run_convert_bytes_nil w 32 5 Try.underlying32 Try.underlying5 0 cap 9 Try.underlying9]; rfl
    | some ad =>
      have hl := run_loadCells_list (P := Try.prog) w ad [] (fun j v hj => by simp at hj)
      rw [run_convert_bytes_string w 32 9 5 _ 0 cap Try.underlying32 Try.underlying5 Try.underlying9, run_bytesToString w ad 0 cap [] hl]
      rfl
  · rw [run_convert_bytes_arg w 32 5 Try.underlying32 Try.underlying5 b off n cap (l.map fun b => (b.toNat : Int)) (by simpa using hl) (fun i hi => by rw [hc i hi, getI]) 9 Try.underlying9, nums]
theorem strB_size (l : List UInt8) : (strB l).size = l.length := by simp [strB, ByteArray.size]
theorem strB_data (l : List UInt8) : (strB l).data.toList = l := rfl
end Go.Proofs.Ytolfajalkbnnoaa.Join
