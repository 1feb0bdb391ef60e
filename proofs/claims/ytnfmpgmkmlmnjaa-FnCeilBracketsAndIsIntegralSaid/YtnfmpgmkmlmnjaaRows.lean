/-
  No cell of these rows narrows 'for every input' (looked for: loops, veiled, ifaces, maps, wideKeys, modest, calm, conditions, laid).
  DERIVED. THE GIVEN ROWS OF THIS SEAT. 9 by the template 'for every input the law returns true; each argument reads behind the call as it read before'; 0 by the template 'total and deterministic' (their statements: YtnfmpgmkmlmnjaaTotals.lean).
  GIVEN WITH THE SEED: the statements are not yours to turn. If you find one false, say at which input.
  Laid BY PROGRAM, IN A SANDBOX (cutbox-rows.mjs): the forced cells as the released guide's own fill.sh prints them over the translation f85b0111db8fc6db… (all of the seat's roots in one cut). By AI agents, Wed Nov 11 2026. No macro, syntax, notation, axiom, sorry.
-/
import Derived.Test.YtnfmpgmkmlmnjaaChecked
import GoSem.Claim
import GoSem.ClaimJoined
import GoSem.ClaimMapViews
import Derived.JoinedTies
import Derived.KernelRfl
namespace Go.Proofs.Ytnfmpgmkmlmnjaa
/- THE CELL 'sum', in the pinned program and in every row, IS THE sha256 OF THE DUMP (.gsa) THAT YtnfmpgmkmlmnjaaProg.lean LOADS. Nothing in Lean hashes anything: it is a label: what it is worth is what the hold of that sum in a sandbox is worth. -/
noncomputable def Try.pinned : Pinned := { name := "ytnfmpgmkmlmnjaa", sum := "f85b0111db8fc6db3ab6a59d1698bc7d0f6ab87d806706235bc9c7b504f9cee0", checked := Try.checked }
namespace Rows
def none {H : Type} : Left H := { results := [], args := [] }

/-- 'n011_195.FnMin2AbsorbsMax2': WHATEVER THE INPUT: true; the input reads as it did. -/
def fnMin2AbsorbsMax2Spec : ChangeSpec := { name := "fnMin2AbsorbsMax2", fn := fun _ => fun
  | [d1, d2] => { results := [.lit (.bool true)], args := [d1, d2] }
  | _ => none }
def fnMin2AbsorbsMax2Row : OpenClaim := { program := "ytnfmpgmkmlmnjaa", sum := "f85b0111db8fc6db3ab6a59d1698bc7d0f6ab87d806706235bc9c7b504f9cee0", func := "github.com/evanw/esbuild/n011_195.FnMin2AbsorbsMax2", spec := "fnMin2AbsorbsMax2", inPlace := ["math.archMax", "math.Float64bits", "math.Float64frombits", "math.archMin"], apart := false }
def FnMin2AbsorbsMax2Said : Prop := fnMin2AbsorbsMax2Row.holds Try.pinned (OpenSpec.ofChange fnMin2AbsorbsMax2Spec)

/-- ITS FALSE NEIGHBOUR: 'it returns false'. Refute it at one input. -/
def fnMin2AbsorbsMax2Wrong : ChangeSpec := { name := "fnMin2AbsorbsMax2", fn := fun _ => fun
  | [d1, d2] => { results := [.lit (.bool false)], args := [d1, d2] }
  | _ => none }
def FnMin2AbsorbsMax2WrongFalsely : Prop := fnMin2AbsorbsMax2Row.holds Try.pinned (OpenSpec.ofChange fnMin2AbsorbsMax2Wrong)

/-- 'n011_21.FnSqrtIsMonotone': WHATEVER THE INPUT: true; the input reads as it did. -/
def fnSqrtIsMonotoneSpec : ChangeSpec := { name := "fnSqrtIsMonotone", fn := fun _ => fun
  | [d1, d2] => { results := [.lit (.bool true)], args := [d1, d2] }
  | _ => none }
def fnSqrtIsMonotoneRow : OpenClaim := { program := "ytnfmpgmkmlmnjaa", sum := "f85b0111db8fc6db3ab6a59d1698bc7d0f6ab87d806706235bc9c7b504f9cee0", func := "github.com/evanw/esbuild/n011_21.FnSqrtIsMonotone", spec := "fnSqrtIsMonotone", inPlace := ["math.sqrt"], apart := false }
def FnSqrtIsMonotoneSaid : Prop := fnSqrtIsMonotoneRow.holds Try.pinned (OpenSpec.ofChange fnSqrtIsMonotoneSpec)

/-- ITS FALSE NEIGHBOUR: 'it returns false'. Refute it at one input. -/
def fnSqrtIsMonotoneWrong : ChangeSpec := { name := "fnSqrtIsMonotone", fn := fun _ => fun
  | [d1, d2] => { results := [.lit (.bool false)], args := [d1, d2] }
  | _ => none }
def FnSqrtIsMonotoneWrongFalsely : Prop := fnSqrtIsMonotoneRow.holds Try.pinned (OpenSpec.ofChange fnSqrtIsMonotoneWrong)

/-- 'n011_28.FnSubSelfTable': WHATEVER THE INPUT: true; the input reads as it did. -/
def fnSubSelfTableSpec : ChangeSpec := { name := "fnSubSelfTable", fn := fun _ => fun
  | [d] => { results := [.lit (.bool true)], args := [d] }
  | _ => none }
def fnSubSelfTableRow : OpenClaim := { program := "ytnfmpgmkmlmnjaa", sum := "f85b0111db8fc6db3ab6a59d1698bc7d0f6ab87d806706235bc9c7b504f9cee0", func := "github.com/evanw/esbuild/n011_28.FnSubSelfTable", spec := "fnSubSelfTable", apart := false }
def FnSubSelfTableSaid : Prop := fnSubSelfTableRow.holds Try.pinned (OpenSpec.ofChange fnSubSelfTableSpec)

/-- ITS FALSE NEIGHBOUR: 'it returns false'. Refute it at one input. -/
def fnSubSelfTableWrong : ChangeSpec := { name := "fnSubSelfTable", fn := fun _ => fun
  | [d] => { results := [.lit (.bool false)], args := [d] }
  | _ => none }
def FnSubSelfTableWrongFalsely : Prop := fnSubSelfTableRow.holds Try.pinned (OpenSpec.ofChange fnSubSelfTableWrong)

/-- 'n011_195.FnMin3AgreesWithMin2AnyOrder': WHATEVER THE INPUT: true; the input reads as it did. -/
def fnMin3AgreesWithMin2AnyOrderSpec : ChangeSpec := { name := "fnMin3AgreesWithMin2AnyOrder", fn := fun _ => fun
  | [d1, d2, d3] => { results := [.lit (.bool true)], args := [d1, d2, d3] }
  | _ => none }
def fnMin3AgreesWithMin2AnyOrderRow : OpenClaim := { program := "ytnfmpgmkmlmnjaa", sum := "f85b0111db8fc6db3ab6a59d1698bc7d0f6ab87d806706235bc9c7b504f9cee0", func := "github.com/evanw/esbuild/n011_195.FnMin3AgreesWithMin2AnyOrder", spec := "fnMin3AgreesWithMin2AnyOrder", inPlace := ["math.archMin", "math.Float64bits", "math.Float64frombits"], apart := false }
def FnMin3AgreesWithMin2AnyOrderSaid : Prop := fnMin3AgreesWithMin2AnyOrderRow.holds Try.pinned (OpenSpec.ofChange fnMin3AgreesWithMin2AnyOrderSpec)

/-- ITS FALSE NEIGHBOUR: 'it returns false'. Refute it at one input. -/
def fnMin3AgreesWithMin2AnyOrderWrong : ChangeSpec := { name := "fnMin3AgreesWithMin2AnyOrder", fn := fun _ => fun
  | [d1, d2, d3] => { results := [.lit (.bool false)], args := [d1, d2, d3] }
  | _ => none }
def FnMin3AgreesWithMin2AnyOrderWrongFalsely : Prop := fnMin3AgreesWithMin2AnyOrderRow.holds Try.pinned (OpenSpec.ofChange fnMin3AgreesWithMin2AnyOrderWrong)

/-- 'n011_21.FnCubedOfScaledIntegerIsExact': WHATEVER THE INPUT: true; the input reads as it did. -/
def fnCubedOfScaledIntegerIsExactSpec : ChangeSpec := { name := "fnCubedOfScaledIntegerIsExact", fn := fun _ => fun
  | [d1, d2] => { results := [.lit (.bool true)], args := [d1, d2] }
  | _ => none }
def fnCubedOfScaledIntegerIsExactRow : OpenClaim := { program := "ytnfmpgmkmlmnjaa", sum := "f85b0111db8fc6db3ab6a59d1698bc7d0f6ab87d806706235bc9c7b504f9cee0", func := "github.com/evanw/esbuild/n011_21.FnCubedOfScaledIntegerIsExact", spec := "fnCubedOfScaledIntegerIsExact", apart := false }
def FnCubedOfScaledIntegerIsExactSaid : Prop := fnCubedOfScaledIntegerIsExactRow.holds Try.pinned (OpenSpec.ofChange fnCubedOfScaledIntegerIsExactSpec)

/-- ITS FALSE NEIGHBOUR: 'it returns false'. Refute it at one input. -/
def fnCubedOfScaledIntegerIsExactWrong : ChangeSpec := { name := "fnCubedOfScaledIntegerIsExact", fn := fun _ => fun
  | [d1, d2] => { results := [.lit (.bool false)], args := [d1, d2] }
  | _ => none }
def FnCubedOfScaledIntegerIsExactWrongFalsely : Prop := fnCubedOfScaledIntegerIsExactRow.holds Try.pinned (OpenSpec.ofChange fnCubedOfScaledIntegerIsExactWrong)

/-- 'n011_268.FnAbsIdempotentNegInvariant': WHATEVER THE INPUT: true; the input reads as it did. -/
def fnAbsIdempotentNegInvariantSpec : ChangeSpec := { name := "fnAbsIdempotentNegInvariant", fn := fun _ => fun
  | [d] => { results := [.lit (.bool true)], args := [d] }
  | _ => none }
def fnAbsIdempotentNegInvariantRow : OpenClaim := { program := "ytnfmpgmkmlmnjaa", sum := "f85b0111db8fc6db3ab6a59d1698bc7d0f6ab87d806706235bc9c7b504f9cee0", func := "github.com/evanw/esbuild/n011_268.FnAbsIdempotentNegInvariant", spec := "fnAbsIdempotentNegInvariant", inPlace := ["math.Float64bits", "math.Float64frombits"], apart := false }
def FnAbsIdempotentNegInvariantSaid : Prop := fnAbsIdempotentNegInvariantRow.holds Try.pinned (OpenSpec.ofChange fnAbsIdempotentNegInvariantSpec)

/-- ITS FALSE NEIGHBOUR: 'it returns false'. Refute it at one input. -/
def fnAbsIdempotentNegInvariantWrong : ChangeSpec := { name := "fnAbsIdempotentNegInvariant", fn := fun _ => fun
  | [d] => { results := [.lit (.bool false)], args := [d] }
  | _ => none }
def FnAbsIdempotentNegInvariantWrongFalsely : Prop := fnAbsIdempotentNegInvariantRow.holds Try.pinned (OpenSpec.ofChange fnAbsIdempotentNegInvariantWrong)

/-- 'n011_157.FnWithSignFromExact': WHATEVER THE INPUT: true; the input reads as it did. -/
def fnWithSignFromExactSpec : ChangeSpec := { name := "fnWithSignFromExact", fn := fun _ => fun
  | [d1, d2] => { results := [.lit (.bool true)], args := [d1, d2] }
  | _ => none }
def fnWithSignFromExactRow : OpenClaim := { program := "ytnfmpgmkmlmnjaa", sum := "f85b0111db8fc6db3ab6a59d1698bc7d0f6ab87d806706235bc9c7b504f9cee0", func := "github.com/evanw/esbuild/n011_157.FnWithSignFromExact", spec := "fnWithSignFromExact", inPlace := ["math.Float64bits", "math.Float64frombits"], apart := false }
def FnWithSignFromExactSaid : Prop := fnWithSignFromExactRow.holds Try.pinned (OpenSpec.ofChange fnWithSignFromExactSpec)

/-- ITS FALSE NEIGHBOUR: 'it returns false'. Refute it at one input. -/
def fnWithSignFromExactWrong : ChangeSpec := { name := "fnWithSignFromExact", fn := fun _ => fun
  | [d1, d2] => { results := [.lit (.bool false)], args := [d1, d2] }
  | _ => none }
def FnWithSignFromExactWrongFalsely : Prop := fnWithSignFromExactRow.holds Try.pinned (OpenSpec.ofChange fnWithSignFromExactWrong)

/-- 'n011_41.FnLerpMonotoneInT': WHATEVER THE INPUT: true; the input reads as it did. -/
def fnLerpMonotoneInTSpec : ChangeSpec := { name := "fnLerpMonotoneInT", fn := fun _ => fun
  | [d1, d2, d3, d4] => { results := [.lit (.bool true)], args := [d1, d2, d3, d4] }
  | _ => none }
def fnLerpMonotoneInTRow : OpenClaim := { program := "ytnfmpgmkmlmnjaa", sum := "f85b0111db8fc6db3ab6a59d1698bc7d0f6ab87d806706235bc9c7b504f9cee0", func := "github.com/evanw/esbuild/n011_41.FnLerpMonotoneInT", spec := "fnLerpMonotoneInT", apart := false }
def FnLerpMonotoneInTSaid : Prop := fnLerpMonotoneInTRow.holds Try.pinned (OpenSpec.ofChange fnLerpMonotoneInTSpec)

/-- ITS FALSE NEIGHBOUR: 'it returns false'. Refute it at one input. -/
def fnLerpMonotoneInTWrong : ChangeSpec := { name := "fnLerpMonotoneInT", fn := fun _ => fun
  | [d1, d2, d3, d4] => { results := [.lit (.bool false)], args := [d1, d2, d3, d4] }
  | _ => none }
def FnLerpMonotoneInTWrongFalsely : Prop := fnLerpMonotoneInTRow.holds Try.pinned (OpenSpec.ofChange fnLerpMonotoneInTWrong)

/-- 'n011_57.FnCeilBracketsAndIsIntegral': WHATEVER THE INPUT: true; the input reads as it did. -/
def fnCeilBracketsAndIsIntegralSpec : ChangeSpec := { name := "fnCeilBracketsAndIsIntegral", fn := fun _ => fun
  | [d] => { results := [.lit (.bool true)], args := [d] }
  | _ => none }
def fnCeilBracketsAndIsIntegralRow : OpenClaim := { program := "ytnfmpgmkmlmnjaa", sum := "f85b0111db8fc6db3ab6a59d1698bc7d0f6ab87d806706235bc9c7b504f9cee0", func := "github.com/evanw/esbuild/n011_57.FnCeilBracketsAndIsIntegral", spec := "fnCeilBracketsAndIsIntegral", inPlace := ["math.archCeil", "math.archFloor", "math.Float64bits", "math.Float64frombits", "math.archTrunc"], apart := false }
def FnCeilBracketsAndIsIntegralSaid : Prop := fnCeilBracketsAndIsIntegralRow.holds Try.pinned (OpenSpec.ofChange fnCeilBracketsAndIsIntegralSpec)

/-- ITS FALSE NEIGHBOUR: 'it returns false'. Refute it at one input. -/
def fnCeilBracketsAndIsIntegralWrong : ChangeSpec := { name := "fnCeilBracketsAndIsIntegral", fn := fun _ => fun
  | [d] => { results := [.lit (.bool false)], args := [d] }
  | _ => none }
def FnCeilBracketsAndIsIntegralWrongFalsely : Prop := fnCeilBracketsAndIsIntegralRow.holds Try.pinned (OpenSpec.ofChange fnCeilBracketsAndIsIntegralWrong)

/- THE SECOND FORM. 'bulk': how many values and letters a reading holds, each counted each time it is reached (what is shared counts as often as it is met; a slice's spare places count too). A statement '..UptoSaid' is the law's where the arguments, and the package variables that the reading takes, are together of bulk at most 1048576: NARROWER than '..Said'. Prove '..Said' where nothing that the law and all that it calls make is longer than what came in: it says more and counts as full. Else prove '..UptoSaid'. A law counts once. -/
mutual
def uptoBulk {H : Type} : DataW H → Nat
  | .lit (.string bytes) => bytes.length + 1
  | .lit _ => 1
  | .nil => 1
  | .ptr d => uptoBulk d + 1
  | .slice elems spare => uptoBulkAll elems + uptoBulkAll spare + 1
  | .agg parts => uptoBulkAll parts + 1
  | .iface _ d => uptoBulk d + 1
  | .map entries => uptoBulkEntries entries + 1
  | .held _ => 1
def uptoBulkAll {H : Type} : List (DataW H) → Nat
  | [] => 0
  | d :: r => uptoBulk d + uptoBulkAll r
def uptoBulkEntries {H : Type} : List (Lit × DataW H) → Nat
  | [] => 0
  | x :: r => uptoBulkEntry x + uptoBulkEntries r
def uptoBulkEntry {H : Type} : Lit × DataW H → Nat
  | (.string bytes, d) => bytes.length + uptoBulk d + 1
  | (_, d) => uptoBulk d + 1
 end
def uptoSmall : (H : Type) → List (DataW H) → Bool := fun _ ds => decide (uptoBulkAll ds ≤ 1048576)
def OpenSpec.upto (s : _root_.Go.ChangeSpec) : _root_.Go.OpenSpec := { _root_.Go.OpenSpec.ofChange s with cond := some uptoSmall }

/-- 'n011_195.FnMin2AbsorbsMax2', WHERE WHAT IT READS IS OF BULK AT MOST 1048576: true; the input reads as it did. -/
def fnMin2AbsorbsMax2UptoRow : OpenClaim := { program := "ytnfmpgmkmlmnjaa", sum := "f85b0111db8fc6db3ab6a59d1698bc7d0f6ab87d806706235bc9c7b504f9cee0", func := "github.com/evanw/esbuild/n011_195.FnMin2AbsorbsMax2", spec := "fnMin2AbsorbsMax2", inPlace := ["math.archMax", "math.Float64bits", "math.Float64frombits", "math.archMin"], apart := false, narrowed := true }
def FnMin2AbsorbsMax2UptoSaid : Prop := fnMin2AbsorbsMax2UptoRow.holds Try.pinned (OpenSpec.upto fnMin2AbsorbsMax2Spec)

/-- 'n011_21.FnSqrtIsMonotone', WHERE WHAT IT READS IS OF BULK AT MOST 1048576: true; the input reads as it did. -/
def fnSqrtIsMonotoneUptoRow : OpenClaim := { program := "ytnfmpgmkmlmnjaa", sum := "f85b0111db8fc6db3ab6a59d1698bc7d0f6ab87d806706235bc9c7b504f9cee0", func := "github.com/evanw/esbuild/n011_21.FnSqrtIsMonotone", spec := "fnSqrtIsMonotone", inPlace := ["math.sqrt"], apart := false, narrowed := true }
def FnSqrtIsMonotoneUptoSaid : Prop := fnSqrtIsMonotoneUptoRow.holds Try.pinned (OpenSpec.upto fnSqrtIsMonotoneSpec)

/-- 'n011_28.FnSubSelfTable', WHERE WHAT IT READS IS OF BULK AT MOST 1048576: true; the input reads as it did. -/
def fnSubSelfTableUptoRow : OpenClaim := { program := "ytnfmpgmkmlmnjaa", sum := "f85b0111db8fc6db3ab6a59d1698bc7d0f6ab87d806706235bc9c7b504f9cee0", func := "github.com/evanw/esbuild/n011_28.FnSubSelfTable", spec := "fnSubSelfTable", apart := false, narrowed := true }
def FnSubSelfTableUptoSaid : Prop := fnSubSelfTableUptoRow.holds Try.pinned (OpenSpec.upto fnSubSelfTableSpec)

/-- 'n011_195.FnMin3AgreesWithMin2AnyOrder', WHERE WHAT IT READS IS OF BULK AT MOST 1048576: true; the input reads as it did. -/
def fnMin3AgreesWithMin2AnyOrderUptoRow : OpenClaim := { program := "ytnfmpgmkmlmnjaa", sum := "f85b0111db8fc6db3ab6a59d1698bc7d0f6ab87d806706235bc9c7b504f9cee0", func := "github.com/evanw/esbuild/n011_195.FnMin3AgreesWithMin2AnyOrder", spec := "fnMin3AgreesWithMin2AnyOrder", inPlace := ["math.archMin", "math.Float64bits", "math.Float64frombits"], apart := false, narrowed := true }
def FnMin3AgreesWithMin2AnyOrderUptoSaid : Prop := fnMin3AgreesWithMin2AnyOrderUptoRow.holds Try.pinned (OpenSpec.upto fnMin3AgreesWithMin2AnyOrderSpec)

/-- 'n011_21.FnCubedOfScaledIntegerIsExact', WHERE WHAT IT READS IS OF BULK AT MOST 1048576: true; the input reads as it did. -/
def fnCubedOfScaledIntegerIsExactUptoRow : OpenClaim := { program := "ytnfmpgmkmlmnjaa", sum := "f85b0111db8fc6db3ab6a59d1698bc7d0f6ab87d806706235bc9c7b504f9cee0", func := "github.com/evanw/esbuild/n011_21.FnCubedOfScaledIntegerIsExact", spec := "fnCubedOfScaledIntegerIsExact", apart := false, narrowed := true }
def FnCubedOfScaledIntegerIsExactUptoSaid : Prop := fnCubedOfScaledIntegerIsExactUptoRow.holds Try.pinned (OpenSpec.upto fnCubedOfScaledIntegerIsExactSpec)

/-- 'n011_268.FnAbsIdempotentNegInvariant', WHERE WHAT IT READS IS OF BULK AT MOST 1048576: true; the input reads as it did. -/
def fnAbsIdempotentNegInvariantUptoRow : OpenClaim := { program := "ytnfmpgmkmlmnjaa", sum := "f85b0111db8fc6db3ab6a59d1698bc7d0f6ab87d806706235bc9c7b504f9cee0", func := "github.com/evanw/esbuild/n011_268.FnAbsIdempotentNegInvariant", spec := "fnAbsIdempotentNegInvariant", inPlace := ["math.Float64bits", "math.Float64frombits"], apart := false, narrowed := true }
def FnAbsIdempotentNegInvariantUptoSaid : Prop := fnAbsIdempotentNegInvariantUptoRow.holds Try.pinned (OpenSpec.upto fnAbsIdempotentNegInvariantSpec)

/-- 'n011_157.FnWithSignFromExact', WHERE WHAT IT READS IS OF BULK AT MOST 1048576: true; the input reads as it did. -/
def fnWithSignFromExactUptoRow : OpenClaim := { program := "ytnfmpgmkmlmnjaa", sum := "f85b0111db8fc6db3ab6a59d1698bc7d0f6ab87d806706235bc9c7b504f9cee0", func := "github.com/evanw/esbuild/n011_157.FnWithSignFromExact", spec := "fnWithSignFromExact", inPlace := ["math.Float64bits", "math.Float64frombits"], apart := false, narrowed := true }
def FnWithSignFromExactUptoSaid : Prop := fnWithSignFromExactUptoRow.holds Try.pinned (OpenSpec.upto fnWithSignFromExactSpec)

/-- 'n011_41.FnLerpMonotoneInT', WHERE WHAT IT READS IS OF BULK AT MOST 1048576: true; the input reads as it did. -/
def fnLerpMonotoneInTUptoRow : OpenClaim := { program := "ytnfmpgmkmlmnjaa", sum := "f85b0111db8fc6db3ab6a59d1698bc7d0f6ab87d806706235bc9c7b504f9cee0", func := "github.com/evanw/esbuild/n011_41.FnLerpMonotoneInT", spec := "fnLerpMonotoneInT", apart := false, narrowed := true }
def FnLerpMonotoneInTUptoSaid : Prop := fnLerpMonotoneInTUptoRow.holds Try.pinned (OpenSpec.upto fnLerpMonotoneInTSpec)

/-- 'n011_57.FnCeilBracketsAndIsIntegral', WHERE WHAT IT READS IS OF BULK AT MOST 1048576: true; the input reads as it did. -/
def fnCeilBracketsAndIsIntegralUptoRow : OpenClaim := { program := "ytnfmpgmkmlmnjaa", sum := "f85b0111db8fc6db3ab6a59d1698bc7d0f6ab87d806706235bc9c7b504f9cee0", func := "github.com/evanw/esbuild/n011_57.FnCeilBracketsAndIsIntegral", spec := "fnCeilBracketsAndIsIntegral", inPlace := ["math.archCeil", "math.archFloor", "math.Float64bits", "math.Float64frombits", "math.archTrunc"], apart := false, narrowed := true }
def FnCeilBracketsAndIsIntegralUptoSaid : Prop := fnCeilBracketsAndIsIntegralUptoRow.holds Try.pinned (OpenSpec.upto fnCeilBracketsAndIsIntegralSpec)

end Rows
end Go.Proofs.Ytnfmpgmkmlmnjaa
