/-
  No cell of these rows narrows 'for every input' (looked for: loops, veiled, ifaces, maps, wideKeys, modest, calm, conditions, laid).
  DERIVED. THE GIVEN ROWS OF THIS SEAT. 6 by the template 'for every input the law returns true; each argument reads behind the call as it read before'; 0 by the template 'total and deterministic' (their statements: YtgonkjgmelfdaaaTotals.lean).
  GIVEN WITH THE SEED: the statements are not yours to turn. If you find one false, say at which input.
  Laid BY PROGRAM, IN A SANDBOX (cutbox-rows.mjs): the forced cells as the released guide's own fill.sh prints them over the translation 52d19a979a4f91b5… (all of the seat's roots in one cut). By AI agents, Wed Nov 11 2026. No macro, syntax, notation, axiom, sorry.
-/
import Derived.Test.YtgonkjgmelfdaaaChecked
import GoSem.Claim
import GoSem.ClaimJoined
import GoSem.ClaimMapViews
import Derived.JoinedTies
import Derived.KernelRfl
namespace Go.Proofs.Ytgonkjgmelfdaaa
/- THE CELL 'sum', in the pinned program and in every row, IS THE sha256 OF THE DUMP (.gsa) THAT YtgonkjgmelfdaaaProg.lean LOADS. Nothing in Lean hashes anything: it is a label: what it is worth is what the hold of that sum in a sandbox is worth. -/
noncomputable def Try.pinned : Pinned := { name := "ytgonkjgmelfdaaa", sum := "52d19a979a4f91b533a64f873a231f0fe3285c0d4f1e11d0d54a045b1cc6b40f", checked := Try.checked }
namespace Rows
def none {H : Type} : Left H := { results := [], args := [] }

/-- 'n011_51.FnIsHexExactTable': WHATEVER THE INPUT: true; the input reads as it did. -/
def fnIsHexExactTableSpec : ChangeSpec := { name := "fnIsHexExactTable", fn := fun _ => fun
  | [d] => { results := [.lit (.bool true)], args := [d] }
  | _ => none }
def fnIsHexExactTableRow : OpenClaim := { program := "ytgonkjgmelfdaaa", sum := "52d19a979a4f91b533a64f873a231f0fe3285c0d4f1e11d0d54a045b1cc6b40f", func := "github.com/evanw/esbuild/n011_51.FnIsHexExactTable", spec := "fnIsHexExactTable", apart := false }
def FnIsHexExactTableSaid : Prop := fnIsHexExactTableRow.holds Try.pinned (OpenSpec.ofChange fnIsHexExactTableSpec)

/-- ITS FALSE NEIGHBOUR: 'it returns false'. Refute it at one input. -/
def fnIsHexExactTableWrong : ChangeSpec := { name := "fnIsHexExactTable", fn := fun _ => fun
  | [d] => { results := [.lit (.bool false)], args := [d] }
  | _ => none }
def FnIsHexExactTableWrongFalsely : Prop := fnIsHexExactTableRow.holds Try.pinned (OpenSpec.ofChange fnIsHexExactTableWrong)

/-- 'n011_57.FnFloorMatchesTruncModel': WHATEVER THE INPUT: true; the input reads as it did. -/
def fnFloorMatchesTruncModelSpec : ChangeSpec := { name := "fnFloorMatchesTruncModel", fn := fun _ => fun
  | [d] => { results := [.lit (.bool true)], args := [d] }
  | _ => none }
def fnFloorMatchesTruncModelRow : OpenClaim := { program := "ytgonkjgmelfdaaa", sum := "52d19a979a4f91b533a64f873a231f0fe3285c0d4f1e11d0d54a045b1cc6b40f", func := "github.com/evanw/esbuild/n011_57.FnFloorMatchesTruncModel", spec := "fnFloorMatchesTruncModel", inPlace := ["math.archFloor", "math.Float64bits", "math.Float64frombits", "math.archTrunc"], apart := false }
def FnFloorMatchesTruncModelSaid : Prop := fnFloorMatchesTruncModelRow.holds Try.pinned (OpenSpec.ofChange fnFloorMatchesTruncModelSpec)

/-- ITS FALSE NEIGHBOUR: 'it returns false'. Refute it at one input. -/
def fnFloorMatchesTruncModelWrong : ChangeSpec := { name := "fnFloorMatchesTruncModel", fn := fun _ => fun
  | [d] => { results := [.lit (.bool false)], args := [d] }
  | _ => none }
def FnFloorMatchesTruncModelWrongFalsely : Prop := fnFloorMatchesTruncModelRow.holds Try.pinned (OpenSpec.ofChange fnFloorMatchesTruncModelWrong)

/-- 'n011_28.FnAddCommutative': WHATEVER THE INPUT: true; the input reads as it did. -/
def fnAddCommutativeSpec : ChangeSpec := { name := "fnAddCommutative", fn := fun _ => fun
  | [d1, d2] => { results := [.lit (.bool true)], args := [d1, d2] }
  | _ => none }
def fnAddCommutativeRow : OpenClaim := { program := "ytgonkjgmelfdaaa", sum := "52d19a979a4f91b533a64f873a231f0fe3285c0d4f1e11d0d54a045b1cc6b40f", func := "github.com/evanw/esbuild/n011_28.FnAddCommutative", spec := "fnAddCommutative", apart := false }
def FnAddCommutativeSaid : Prop := fnAddCommutativeRow.holds Try.pinned (OpenSpec.ofChange fnAddCommutativeSpec)

/-- ITS FALSE NEIGHBOUR: 'it returns false'. Refute it at one input. -/
def fnAddCommutativeWrong : ChangeSpec := { name := "fnAddCommutative", fn := fun _ => fun
  | [d1, d2] => { results := [.lit (.bool false)], args := [d1, d2] }
  | _ => none }
def FnAddCommutativeWrongFalsely : Prop := fnAddCommutativeRow.holds Try.pinned (OpenSpec.ofChange fnAddCommutativeWrong)

/-- 'n011_43.FnDivConstAgreesWithDiv': WHATEVER THE INPUT: true; the input reads as it did. -/
def fnDivConstAgreesWithDivSpec : ChangeSpec := { name := "fnDivConstAgreesWithDiv", fn := fun _ => fun
  | [d1, d2] => { results := [.lit (.bool true)], args := [d1, d2] }
  | _ => none }
def fnDivConstAgreesWithDivRow : OpenClaim := { program := "ytgonkjgmelfdaaa", sum := "52d19a979a4f91b533a64f873a231f0fe3285c0d4f1e11d0d54a045b1cc6b40f", func := "github.com/evanw/esbuild/n011_43.FnDivConstAgreesWithDiv", spec := "fnDivConstAgreesWithDiv", apart := false }
def FnDivConstAgreesWithDivSaid : Prop := fnDivConstAgreesWithDivRow.holds Try.pinned (OpenSpec.ofChange fnDivConstAgreesWithDivSpec)

/-- ITS FALSE NEIGHBOUR: 'it returns false'. Refute it at one input. -/
def fnDivConstAgreesWithDivWrong : ChangeSpec := { name := "fnDivConstAgreesWithDiv", fn := fun _ => fun
  | [d1, d2] => { results := [.lit (.bool false)], args := [d1, d2] }
  | _ => none }
def FnDivConstAgreesWithDivWrongFalsely : Prop := fnDivConstAgreesWithDivRow.holds Try.pinned (OpenSpec.ofChange fnDivConstAgreesWithDivWrong)

/-- 'n011_43.FnMulConstAgreesWithMul': WHATEVER THE INPUT: true; the input reads as it did. -/
def fnMulConstAgreesWithMulSpec : ChangeSpec := { name := "fnMulConstAgreesWithMul", fn := fun _ => fun
  | [d1, d2] => { results := [.lit (.bool true)], args := [d1, d2] }
  | _ => none }
def fnMulConstAgreesWithMulRow : OpenClaim := { program := "ytgonkjgmelfdaaa", sum := "52d19a979a4f91b533a64f873a231f0fe3285c0d4f1e11d0d54a045b1cc6b40f", func := "github.com/evanw/esbuild/n011_43.FnMulConstAgreesWithMul", spec := "fnMulConstAgreesWithMul", apart := false }
def FnMulConstAgreesWithMulSaid : Prop := fnMulConstAgreesWithMulRow.holds Try.pinned (OpenSpec.ofChange fnMulConstAgreesWithMulSpec)

/-- ITS FALSE NEIGHBOUR: 'it returns false'. Refute it at one input. -/
def fnMulConstAgreesWithMulWrong : ChangeSpec := { name := "fnMulConstAgreesWithMul", fn := fun _ => fun
  | [d1, d2] => { results := [.lit (.bool false)], args := [d1, d2] }
  | _ => none }
def FnMulConstAgreesWithMulWrongFalsely : Prop := fnMulConstAgreesWithMulRow.holds Try.pinned (OpenSpec.ofChange fnMulConstAgreesWithMulWrong)

/-- 'n011_51.FnValueRewrapStable': WHATEVER THE INPUT: true; the input reads as it did. -/
def fnValueRewrapStableSpec : ChangeSpec := { name := "fnValueRewrapStable", fn := fun _ => fun
  | [d] => { results := [.lit (.bool true)], args := [d] }
  | _ => none }
def fnValueRewrapStableRow : OpenClaim := { program := "ytgonkjgmelfdaaa", sum := "52d19a979a4f91b533a64f873a231f0fe3285c0d4f1e11d0d54a045b1cc6b40f", func := "github.com/evanw/esbuild/n011_51.FnValueRewrapStable", spec := "fnValueRewrapStable", apart := false }
def FnValueRewrapStableSaid : Prop := fnValueRewrapStableRow.holds Try.pinned (OpenSpec.ofChange fnValueRewrapStableSpec)

/-- ITS FALSE NEIGHBOUR: 'it returns false'. Refute it at one input. -/
def fnValueRewrapStableWrong : ChangeSpec := { name := "fnValueRewrapStable", fn := fun _ => fun
  | [d] => { results := [.lit (.bool false)], args := [d] }
  | _ => none }
def FnValueRewrapStableWrongFalsely : Prop := fnValueRewrapStableRow.holds Try.pinned (OpenSpec.ofChange fnValueRewrapStableWrong)

/- THE SECOND FORM. 'bulk': how many values and letters a reading holds, each counted each time it is reached (what is shared counts as often as it is met; a slice's spare places count too). A statement '..UptoSaid' is the law's where the arguments, and the package variables that the reading takes, are together of bulk at most 1048576: NARROWER than '..Said'. Prove '..Said' where nothing that the law and all that it calls make is longer than what came in: it says more and counts as full. Else prove '..UptoSaid'. A law counts once. -/
mutual
def uptoBulk {H : Type} : DataW H → Nat
  | .lit (.string bytes) => bytes.length + 1
  | .lit _ => 1
  | .nil => 1
  | .ptr d => uptoBulk d + 1
  | .slice elems spare => uptoBulkAll elems + uptoBulkAll spare + 1
  | .agg parts => uptoBulkAll parts + 1
  | .iface _ d => uptoBulk d + 1
  | .map entries => uptoBulkEntries entries + 1
  | .held _ => 1
def uptoBulkAll {H : Type} : List (DataW H) → Nat
  | [] => 0
  | d :: r => uptoBulk d + uptoBulkAll r
def uptoBulkEntries {H : Type} : List (Lit × DataW H) → Nat
  | [] => 0
  | x :: r => uptoBulkEntry x + uptoBulkEntries r
def uptoBulkEntry {H : Type} : Lit × DataW H → Nat
  | (.string bytes, d) => bytes.length + uptoBulk d + 1
  | (_, d) => uptoBulk d + 1
 end
def uptoSmall : (H : Type) → List (DataW H) → Bool := fun _ ds => decide (uptoBulkAll ds ≤ 1048576)
def OpenSpec.upto (s : _root_.Go.ChangeSpec) : _root_.Go.OpenSpec := { _root_.Go.OpenSpec.ofChange s with cond := some uptoSmall }

/-- 'n011_51.FnIsHexExactTable', WHERE WHAT IT READS IS OF BULK AT MOST 1048576: true; the input reads as it did. -/
def fnIsHexExactTableUptoRow : OpenClaim := { program := "ytgonkjgmelfdaaa", sum := "52d19a979a4f91b533a64f873a231f0fe3285c0d4f1e11d0d54a045b1cc6b40f", func := "github.com/evanw/esbuild/n011_51.FnIsHexExactTable", spec := "fnIsHexExactTable", apart := false, narrowed := true }
def FnIsHexExactTableUptoSaid : Prop := fnIsHexExactTableUptoRow.holds Try.pinned (OpenSpec.upto fnIsHexExactTableSpec)

/-- 'n011_57.FnFloorMatchesTruncModel', WHERE WHAT IT READS IS OF BULK AT MOST 1048576: true; the input reads as it did. -/
def fnFloorMatchesTruncModelUptoRow : OpenClaim := { program := "ytgonkjgmelfdaaa", sum := "52d19a979a4f91b533a64f873a231f0fe3285c0d4f1e11d0d54a045b1cc6b40f", func := "github.com/evanw/esbuild/n011_57.FnFloorMatchesTruncModel", spec := "fnFloorMatchesTruncModel", inPlace := ["math.archFloor", "math.Float64bits", "math.Float64frombits", "math.archTrunc"], apart := false, narrowed := true }
def FnFloorMatchesTruncModelUptoSaid : Prop := fnFloorMatchesTruncModelUptoRow.holds Try.pinned (OpenSpec.upto fnFloorMatchesTruncModelSpec)

/-- 'n011_28.FnAddCommutative', WHERE WHAT IT READS IS OF BULK AT MOST 1048576: true; the input reads as it did. -/
def fnAddCommutativeUptoRow : OpenClaim := { program := "ytgonkjgmelfdaaa", sum := "52d19a979a4f91b533a64f873a231f0fe3285c0d4f1e11d0d54a045b1cc6b40f", func := "github.com/evanw/esbuild/n011_28.FnAddCommutative", spec := "fnAddCommutative", apart := false, narrowed := true }
def FnAddCommutativeUptoSaid : Prop := fnAddCommutativeUptoRow.holds Try.pinned (OpenSpec.upto fnAddCommutativeSpec)

/-- 'n011_43.FnDivConstAgreesWithDiv', WHERE WHAT IT READS IS OF BULK AT MOST 1048576: true; the input reads as it did. -/
def fnDivConstAgreesWithDivUptoRow : OpenClaim := { program := "ytgonkjgmelfdaaa", sum := "52d19a979a4f91b533a64f873a231f0fe3285c0d4f1e11d0d54a045b1cc6b40f", func := "github.com/evanw/esbuild/n011_43.FnDivConstAgreesWithDiv", spec := "fnDivConstAgreesWithDiv", apart := false, narrowed := true }
def FnDivConstAgreesWithDivUptoSaid : Prop := fnDivConstAgreesWithDivUptoRow.holds Try.pinned (OpenSpec.upto fnDivConstAgreesWithDivSpec)

/-- 'n011_43.FnMulConstAgreesWithMul', WHERE WHAT IT READS IS OF BULK AT MOST 1048576: true; the input reads as it did. -/
def fnMulConstAgreesWithMulUptoRow : OpenClaim := { program := "ytgonkjgmelfdaaa", sum := "52d19a979a4f91b533a64f873a231f0fe3285c0d4f1e11d0d54a045b1cc6b40f", func := "github.com/evanw/esbuild/n011_43.FnMulConstAgreesWithMul", spec := "fnMulConstAgreesWithMul", apart := false, narrowed := true }
def FnMulConstAgreesWithMulUptoSaid : Prop := fnMulConstAgreesWithMulUptoRow.holds Try.pinned (OpenSpec.upto fnMulConstAgreesWithMulSpec)

/-- 'n011_51.FnValueRewrapStable', WHERE WHAT IT READS IS OF BULK AT MOST 1048576: true; the input reads as it did. -/
def fnValueRewrapStableUptoRow : OpenClaim := { program := "ytgonkjgmelfdaaa", sum := "52d19a979a4f91b533a64f873a231f0fe3285c0d4f1e11d0d54a045b1cc6b40f", func := "github.com/evanw/esbuild/n011_51.FnValueRewrapStable", spec := "fnValueRewrapStable", apart := false, narrowed := true }
def FnValueRewrapStableUptoSaid : Prop := fnValueRewrapStableUptoRow.holds Try.pinned (OpenSpec.upto fnValueRewrapStableSpec)

end Rows
end Go.Proofs.Ytgonkjgmelfdaaa
