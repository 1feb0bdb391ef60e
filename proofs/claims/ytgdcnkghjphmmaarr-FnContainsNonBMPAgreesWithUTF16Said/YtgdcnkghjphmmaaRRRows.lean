/-
  No cell of these rows narrows 'for every input' (looked for: loops, veiled, ifaces, maps, wideKeys, modest, calm, conditions, laid).
  DERIVED. THE GIVEN ROWS OF THIS SEAT. 4 by the template 'for every input the law returns true; each argument reads behind the call as it read before'; 0 by the template 'total and deterministic' (their statements: YtgdcnkghjphmmaaRRTotals.lean).
  GIVEN WITH THE SEED: the statements are not yours to turn. If you find one false, say at which input.
  Laid BY PROGRAM, IN A SANDBOX (cutbox-rows.mjs): the forced cells as the released guide's own fill.sh prints them over the translation 894e4aa91c8a2a46… (all of the seat's roots in one cut). By AI agents, Wed Nov 11 2026. No macro, syntax, notation, axiom, sorry.
-/
import Derived.Test.YtgdcnkghjphmmaaRRChecked
import GoSem.Claim
import GoSem.ClaimJoined
import GoSem.ClaimMapViews
import Derived.JoinedTies
import Derived.KernelRfl
namespace Go.Proofs.YtgdcnkghjphmmaaRR
/- THE CELL 'sum', in the pinned program and in every row, IS THE sha256 OF THE DUMP (.gsa) THAT YtgdcnkghjphmmaaRRProg.lean LOADS. Nothing in Lean hashes anything: it is a label: what it is worth is what the hold of that sum in a sandbox is worth. -/
noncomputable def Try.pinned : Pinned := { name := "ytgdcnkghjphmmaarr", sum := "894e4aa91c8a2a46154c487c2dbf6952d022664f720fbb6947d339598c142e5b", checked := Try.checked }
namespace Rows
def none {H : Type} : Left H := { results := [], args := [] }

/-- 'n011_112.FnContainsNonBMPUTF16OnEncodedString': WHATEVER THE INPUT: true; the input reads as it did. -/
def fnContainsNonBMPUTF16OnEncodedStringSpec : ChangeSpec := { name := "fnContainsNonBMPUTF16OnEncodedString", fn := fun _ => fun
  | [d] => { results := [.lit (.bool true)], args := [d] }
  | _ => none }
def fnContainsNonBMPUTF16OnEncodedStringRow : OpenClaim := { program := "ytgdcnkghjphmmaarr", sum := "894e4aa91c8a2a46154c487c2dbf6952d022664f720fbb6947d339598c142e5b", func := "github.com/evanw/esbuild/n011_112.FnContainsNonBMPUTF16OnEncodedString", spec := "fnContainsNonBMPUTF16OnEncodedString", apart := false }
def FnContainsNonBMPUTF16OnEncodedStringSaid : Prop := fnContainsNonBMPUTF16OnEncodedStringRow.holds Try.pinned (OpenSpec.ofChange fnContainsNonBMPUTF16OnEncodedStringSpec)

/-- ITS FALSE NEIGHBOUR: 'it returns false'. Refute it at one input. -/
def fnContainsNonBMPUTF16OnEncodedStringWrong : ChangeSpec := { name := "fnContainsNonBMPUTF16OnEncodedString", fn := fun _ => fun
  | [d] => { results := [.lit (.bool false)], args := [d] }
  | _ => none }
def FnContainsNonBMPUTF16OnEncodedStringWrongFalsely : Prop := fnContainsNonBMPUTF16OnEncodedStringRow.holds Try.pinned (OpenSpec.ofChange fnContainsNonBMPUTF16OnEncodedStringWrong)

/-- 'n011_132.FnContainsNonBMPAgreesWithUTF16': WHATEVER THE INPUT: true; the input reads as it did. -/
def fnContainsNonBMPAgreesWithUTF16Spec : ChangeSpec := { name := "fnContainsNonBMPAgreesWithUTF16", fn := fun _ => fun
  | [d] => { results := [.lit (.bool true)], args := [d] }
  | _ => none }
def fnContainsNonBMPAgreesWithUTF16Row : OpenClaim := { program := "ytgdcnkghjphmmaarr", sum := "894e4aa91c8a2a46154c487c2dbf6952d022664f720fbb6947d339598c142e5b", func := "github.com/evanw/esbuild/n011_132.FnContainsNonBMPAgreesWithUTF16", spec := "fnContainsNonBMPAgreesWithUTF16", apart := false }
def FnContainsNonBMPAgreesWithUTF16Said : Prop := fnContainsNonBMPAgreesWithUTF16Row.holds Try.pinned (OpenSpec.ofChange fnContainsNonBMPAgreesWithUTF16Spec)

/-- ITS FALSE NEIGHBOUR: 'it returns false'. Refute it at one input. -/
def fnContainsNonBMPAgreesWithUTF16Wrong : ChangeSpec := { name := "fnContainsNonBMPAgreesWithUTF16", fn := fun _ => fun
  | [d] => { results := [.lit (.bool false)], args := [d] }
  | _ => none }
def FnContainsNonBMPAgreesWithUTF16WrongFalsely : Prop := fnContainsNonBMPAgreesWithUTF16Row.holds Try.pinned (OpenSpec.ofChange fnContainsNonBMPAgreesWithUTF16Wrong)

/-- 'n011_153.FnUTF16EqualsUTF16EquivalenceAndSensitivity': WHATEVER THE INPUT: true; the input reads as it did. -/
def fnUTF16EqualsUTF16EquivalenceAndSensitivitySpec : ChangeSpec := { name := "fnUTF16EqualsUTF16EquivalenceAndSensitivity", fn := fun _ => fun
  | [d1, d2, d3, d4] => { results := [.lit (.bool true)], args := [d1, d2, d3, d4] }
  | _ => none }
def fnUTF16EqualsUTF16EquivalenceAndSensitivityRow : OpenClaim := { program := "ytgdcnkghjphmmaarr", sum := "894e4aa91c8a2a46154c487c2dbf6952d022664f720fbb6947d339598c142e5b", func := "github.com/evanw/esbuild/n011_153.FnUTF16EqualsUTF16EquivalenceAndSensitivity", spec := "fnUTF16EqualsUTF16EquivalenceAndSensitivity", apart := false }
def FnUTF16EqualsUTF16EquivalenceAndSensitivitySaid : Prop := fnUTF16EqualsUTF16EquivalenceAndSensitivityRow.holds Try.pinned (OpenSpec.ofChange fnUTF16EqualsUTF16EquivalenceAndSensitivitySpec)

/-- ITS FALSE NEIGHBOUR: 'it returns false'. Refute it at one input. -/
def fnUTF16EqualsUTF16EquivalenceAndSensitivityWrong : ChangeSpec := { name := "fnUTF16EqualsUTF16EquivalenceAndSensitivity", fn := fun _ => fun
  | [d1, d2, d3, d4] => { results := [.lit (.bool false)], args := [d1, d2, d3, d4] }
  | _ => none }
def FnUTF16EqualsUTF16EquivalenceAndSensitivityWrongFalsely : Prop := fnUTF16EqualsUTF16EquivalenceAndSensitivityRow.holds Try.pinned (OpenSpec.ofChange fnUTF16EqualsUTF16EquivalenceAndSensitivityWrong)

/-- 'n011_141.FnHashCombineStringInvalidBytesCollide': WHATEVER THE INPUT: true; the input reads as it did. -/
def fnHashCombineStringInvalidBytesCollideSpec : ChangeSpec := { name := "fnHashCombineStringInvalidBytesCollide", fn := fun _ => fun
  | [d1, d2] => { results := [.lit (.bool true)], args := [d1, d2] }
  | _ => none }
def fnHashCombineStringInvalidBytesCollideRow : OpenClaim := { program := "ytgdcnkghjphmmaarr", sum := "894e4aa91c8a2a46154c487c2dbf6952d022664f720fbb6947d339598c142e5b", func := "github.com/evanw/esbuild/n011_141.FnHashCombineStringInvalidBytesCollide", spec := "fnHashCombineStringInvalidBytesCollide", apart := false }
def FnHashCombineStringInvalidBytesCollideSaid : Prop := fnHashCombineStringInvalidBytesCollideRow.holds Try.pinned (OpenSpec.ofChange fnHashCombineStringInvalidBytesCollideSpec)

/-- ITS FALSE NEIGHBOUR: 'it returns false'. Refute it at one input. -/
def fnHashCombineStringInvalidBytesCollideWrong : ChangeSpec := { name := "fnHashCombineStringInvalidBytesCollide", fn := fun _ => fun
  | [d1, d2] => { results := [.lit (.bool false)], args := [d1, d2] }
  | _ => none }
def FnHashCombineStringInvalidBytesCollideWrongFalsely : Prop := fnHashCombineStringInvalidBytesCollideRow.holds Try.pinned (OpenSpec.ofChange fnHashCombineStringInvalidBytesCollideWrong)

/- THE SECOND FORM. 'bulk': how many values and letters a reading holds, each counted each time it is reached (what is shared counts as often as it is met; a slice's spare places count too). A statement '..UptoSaid' is the law's where the arguments, and the package variables that the reading takes, are together of bulk at most 1048576: NARROWER than '..Said'. Prove '..Said' where nothing that the law and all that it calls make is longer than what came in: it says more and counts as full. Else prove '..UptoSaid'. A law counts once. -/
mutual
def uptoBulk {H : Type} : DataW H → Nat
  | .lit (.string bytes) => bytes.length + 1
  | .lit _ => 1
  | .nil => 1
  | .ptr d => uptoBulk d + 1
  | .slice elems spare => uptoBulkAll elems + uptoBulkAll spare + 1
  | .agg parts => uptoBulkAll parts + 1
  | .iface _ d => uptoBulk d + 1
  | .map entries => uptoBulkEntries entries + 1
  | .held _ => 1
def uptoBulkAll {H : Type} : List (DataW H) → Nat
  | [] => 0
  | d :: r => uptoBulk d + uptoBulkAll r
def uptoBulkEntries {H : Type} : List (Lit × DataW H) → Nat
  | [] => 0
  | x :: r => uptoBulkEntry x + uptoBulkEntries r
def uptoBulkEntry {H : Type} : Lit × DataW H → Nat
  | (.string bytes, d) => bytes.length + uptoBulk d + 1
  | (_, d) => uptoBulk d + 1
 end
def uptoSmall : (H : Type) → List (DataW H) → Bool := fun _ ds => decide (uptoBulkAll ds ≤ 1048576)
def OpenSpec.upto (s : _root_.Go.ChangeSpec) : _root_.Go.OpenSpec := { _root_.Go.OpenSpec.ofChange s with cond := some uptoSmall }

/-- 'n011_112.FnContainsNonBMPUTF16OnEncodedString', WHERE WHAT IT READS IS OF BULK AT MOST 1048576: true; the input reads as it did. -/
def fnContainsNonBMPUTF16OnEncodedStringUptoRow : OpenClaim := { program := "ytgdcnkghjphmmaarr", sum := "894e4aa91c8a2a46154c487c2dbf6952d022664f720fbb6947d339598c142e5b", func := "github.com/evanw/esbuild/n011_112.FnContainsNonBMPUTF16OnEncodedString", spec := "fnContainsNonBMPUTF16OnEncodedString", apart := false, narrowed := true }
def FnContainsNonBMPUTF16OnEncodedStringUptoSaid : Prop := fnContainsNonBMPUTF16OnEncodedStringUptoRow.holds Try.pinned (OpenSpec.upto fnContainsNonBMPUTF16OnEncodedStringSpec)

/-- 'n011_132.FnContainsNonBMPAgreesWithUTF16', WHERE WHAT IT READS IS OF BULK AT MOST 1048576: true; the input reads as it did. -/
def fnContainsNonBMPAgreesWithUTF16UptoRow : OpenClaim := { program := "ytgdcnkghjphmmaarr", sum := "894e4aa91c8a2a46154c487c2dbf6952d022664f720fbb6947d339598c142e5b", func := "github.com/evanw/esbuild/n011_132.FnContainsNonBMPAgreesWithUTF16", spec := "fnContainsNonBMPAgreesWithUTF16", apart := false, narrowed := true }
def FnContainsNonBMPAgreesWithUTF16UptoSaid : Prop := fnContainsNonBMPAgreesWithUTF16UptoRow.holds Try.pinned (OpenSpec.upto fnContainsNonBMPAgreesWithUTF16Spec)

/-- 'n011_153.FnUTF16EqualsUTF16EquivalenceAndSensitivity', WHERE WHAT IT READS IS OF BULK AT MOST 1048576: true; the input reads as it did. -/
def fnUTF16EqualsUTF16EquivalenceAndSensitivityUptoRow : OpenClaim := { program := "ytgdcnkghjphmmaarr", sum := "894e4aa91c8a2a46154c487c2dbf6952d022664f720fbb6947d339598c142e5b", func := "github.com/evanw/esbuild/n011_153.FnUTF16EqualsUTF16EquivalenceAndSensitivity", spec := "fnUTF16EqualsUTF16EquivalenceAndSensitivity", apart := false, narrowed := true }
def FnUTF16EqualsUTF16EquivalenceAndSensitivityUptoSaid : Prop := fnUTF16EqualsUTF16EquivalenceAndSensitivityUptoRow.holds Try.pinned (OpenSpec.upto fnUTF16EqualsUTF16EquivalenceAndSensitivitySpec)

/-- 'n011_141.FnHashCombineStringInvalidBytesCollide', WHERE WHAT IT READS IS OF BULK AT MOST 1048576: true; the input reads as it did. -/
def fnHashCombineStringInvalidBytesCollideUptoRow : OpenClaim := { program := "ytgdcnkghjphmmaarr", sum := "894e4aa91c8a2a46154c487c2dbf6952d022664f720fbb6947d339598c142e5b", func := "github.com/evanw/esbuild/n011_141.FnHashCombineStringInvalidBytesCollide", spec := "fnHashCombineStringInvalidBytesCollide", apart := false, narrowed := true }
def FnHashCombineStringInvalidBytesCollideUptoSaid : Prop := fnHashCombineStringInvalidBytesCollideUptoRow.holds Try.pinned (OpenSpec.upto fnHashCombineStringInvalidBytesCollideSpec)

end Rows
end Go.Proofs.YtgdcnkghjphmmaaRR
