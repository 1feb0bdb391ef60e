/-
  The walk of FnApplyExtendedConfigCaseTable: it returns true for every two configs. No condition.
-/
import Derived.Test.YtodbjiiogjoogaaExt5
import Derived.ShutString
namespace Go.Proofs.Ytodbjiiogjoogaa.fnApplyExtendedConfigCaseTable
open Go.RowKit Go.WideShapes Go.ChangeAt Go.ChangeShapes Go.Proofs.Ytodbjiiogjoogaa.Ints Go.Proofs.Ytodbjiiogjoogaa.Ext
theorem walk (a0 : ByteArray) (_ : a0.size ≤ maxLen) (a1 : ByteArray) (_ : a1.size ≤ maxLen) (a2 : Int) (w2 : (Lit.int .i32 a2).wf = true) (a3 : Int) (w3 : (Lit.int .u8 a3).wf = true)
    (a4 : ByteArray) (_ : a4.size ≤ maxLen) (a5 : ByteArray) (_ : a5.size ≤ maxLen) (a6 : ByteArray) (_ : a6.size ≤ maxLen) (a7 : ByteArray) (_ : a7.size ≤ maxLen)
    (a8 : Int) (w8 : (Lit.int .i32 a8).wf = true) (a9 : Int) (w9 : (Lit.int .u8 a9).wf = true) (a10 : ByteArray) (_ : a10.size ≤ maxLen) (a11 : ByteArray) (_ : a11.size ≤ maxLen) (W : World) :
    Calls Try.prog 3 #[.string a0, .string a1, .int .i32 a2, .int .u8 a3, .string a4, .string a5, .string a6, .string a7, .int .i32 a8, .int .u8 a9, .string a10, .string a11] W fun e W' => e = .returned (.bool true) ∧ Below W.heap.size W W' := by
  have e1 : IntKind.i32.min = -2147483648 := rfl
  have e2 : IntKind.i32.max = 2147483647 := rfl
  have e3 : IntKind.u8.min = 0 := rfl
  have e4 : IntKind.u8.max = 255 := rfl
  have q2 : -2147483648 ≤ a2 ∧ a2 ≤ 2147483647 := by simpa [Lit.wf, e1, e2] using w2
  have q3 : 0 ≤ a3 ∧ a3 ≤ 255 := by simpa [Lit.wf, e3, e4] using w3
  have q8 : -2147483648 ≤ a8 ∧ a8 ≤ 2147483647 := by simpa [Lit.wf, e1, e2] using w8
  have q9 : 0 ≤ a9 ∧ a9 ≤ 255 := by simpa [Lit.wf, e3, e4] using w9
  exact main a0 a1 a4 a5 a6 a7 a10 a11 a2 a3 a8 a9 W q2 q8 q3 q9
end Go.Proofs.Ytodbjiiogjoogaa.fnApplyExtendedConfigCaseTable
