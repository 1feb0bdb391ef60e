/-
  No cell of these rows narrows 'for every input' (looked for: loops, veiled, ifaces, maps, wideKeys, modest, calm, conditions, laid).
  DERIVED. THE GIVEN ROWS OF THIS SEAT. 3 by the template 'for every input the law returns true; each argument reads behind the call as it read before'; 0 by the template 'total and deterministic' (their statements: YtolfajalkbnnoaaTotals.lean).
  GIVEN WITH THE SEED: the statements are not yours to turn. If you find one false, say at which input.
  Laid BY PROGRAM, IN A SANDBOX (cutbox-rows.mjs): the forced cells as the released guide's own fill.sh prints them over the translation d78acce913be7297… (all of the seat's roots in one cut). By AI agents, Wed Nov 11 2026. No macro, syntax, notation, axiom, sorry.
-/
import Derived.Test.YtolfajalkbnnoaaChecked
import GoSem.Claim
import GoSem.ClaimJoined
import GoSem.ClaimMapViews
import Derived.JoinedTies
import Derived.KernelRfl
namespace Go.Proofs.Ytolfajalkbnnoaa
/- THE CELL 'sum', in the pinned program and in every row, IS THE sha256 OF THE DUMP (.gsa) THAT YtolfajalkbnnoaaProg.lean LOADS. Nothing in Lean hashes anything: it is a label: what it is worth is what the hold of that sum in a sandbox is worth. -/
noncomputable def Try.pinned : Pinned := { name := "ytolfajalkbnnoaa", sum := "d78acce913be7297fb74e3c4c2920a0afe51dbd3c27b710f37e893a406d0a2eb", checked := Try.checked }
namespace Rows
def none {H : Type} : Left H := { results := [], args := [] }

/-- 'n011_141.FnJoinerAddBytesAgreesWithAddString': WHATEVER THE INPUT: true; the input reads as it did. -/
def fnJoinerAddBytesAgreesWithAddStringSpec : ChangeSpec := { name := "fnJoinerAddBytesAgreesWithAddString", fn := fun _ => fun
  | [d] => { results := [.lit (.bool true)], args := [d] }
  | _ => none }
def fnJoinerAddBytesAgreesWithAddStringRow : OpenClaim := { program := "ytolfajalkbnnoaa", sum := "d78acce913be7297fb74e3c4c2920a0afe51dbd3c27b710f37e893a406d0a2eb", func := "github.com/evanw/esbuild/n011_141.FnJoinerAddBytesAgreesWithAddString", spec := "fnJoinerAddBytesAgreesWithAddString", apart := false }
def FnJoinerAddBytesAgreesWithAddStringSaid : Prop := fnJoinerAddBytesAgreesWithAddStringRow.holds Try.pinned (OpenSpec.ofChange fnJoinerAddBytesAgreesWithAddStringSpec)

/-- ITS FALSE NEIGHBOUR: 'it returns false'. Refute it at one input. -/
def fnJoinerAddBytesAgreesWithAddStringWrong : ChangeSpec := { name := "fnJoinerAddBytesAgreesWithAddString", fn := fun _ => fun
  | [d] => { results := [.lit (.bool false)], args := [d] }
  | _ => none }
def FnJoinerAddBytesAgreesWithAddStringWrongFalsely : Prop := fnJoinerAddBytesAgreesWithAddStringRow.holds Try.pinned (OpenSpec.ofChange fnJoinerAddBytesAgreesWithAddStringWrong)

/-- 'n011_34.FnEnsureNewlineAtEndIdempotent': WHATEVER THE INPUT: true; the input reads as it did. -/
def fnEnsureNewlineAtEndIdempotentSpec : ChangeSpec := { name := "fnEnsureNewlineAtEndIdempotent", fn := fun _ => fun
  | [d1, d2, d3] => { results := [.lit (.bool true)], args := [d1, d2, d3] }
  | _ => none }
def fnEnsureNewlineAtEndIdempotentRow : OpenClaim := { program := "ytolfajalkbnnoaa", sum := "d78acce913be7297fb74e3c4c2920a0afe51dbd3c27b710f37e893a406d0a2eb", func := "github.com/evanw/esbuild/n011_34.FnEnsureNewlineAtEndIdempotent", spec := "fnEnsureNewlineAtEndIdempotent", apart := false }
def FnEnsureNewlineAtEndIdempotentSaid : Prop := fnEnsureNewlineAtEndIdempotentRow.holds Try.pinned (OpenSpec.ofChange fnEnsureNewlineAtEndIdempotentSpec)

/-- ITS FALSE NEIGHBOUR: 'it returns false'. Refute it at one input. -/
def fnEnsureNewlineAtEndIdempotentWrong : ChangeSpec := { name := "fnEnsureNewlineAtEndIdempotent", fn := fun _ => fun
  | [d1, d2, d3] => { results := [.lit (.bool false)], args := [d1, d2, d3] }
  | _ => none }
def FnEnsureNewlineAtEndIdempotentWrongFalsely : Prop := fnEnsureNewlineAtEndIdempotentRow.holds Try.pinned (OpenSpec.ofChange fnEnsureNewlineAtEndIdempotentWrong)

/-- 'n011_20.FnStringArrayArraysEqualMatchesNestedEncoding': WHATEVER THE INPUT: true; the input reads as it did. -/
def fnStringArrayArraysEqualMatchesNestedEncodingSpec : ChangeSpec := { name := "fnStringArrayArraysEqualMatchesNestedEncoding", fn := fun _ => fun
  | [d1, d2] => { results := [.lit (.bool true)], args := [d1, d2] }
  | _ => none }
def fnStringArrayArraysEqualMatchesNestedEncodingRow : OpenClaim := { program := "ytolfajalkbnnoaa", sum := "d78acce913be7297fb74e3c4c2920a0afe51dbd3c27b710f37e893a406d0a2eb", func := "github.com/evanw/esbuild/n011_20.FnStringArrayArraysEqualMatchesNestedEncoding", spec := "fnStringArrayArraysEqualMatchesNestedEncoding", apart := false }
def FnStringArrayArraysEqualMatchesNestedEncodingSaid : Prop := fnStringArrayArraysEqualMatchesNestedEncodingRow.holds Try.pinned (OpenSpec.ofChange fnStringArrayArraysEqualMatchesNestedEncodingSpec)

/-- ITS FALSE NEIGHBOUR: 'it returns false'. Refute it at one input. -/
def fnStringArrayArraysEqualMatchesNestedEncodingWrong : ChangeSpec := { name := "fnStringArrayArraysEqualMatchesNestedEncoding", fn := fun _ => fun
  | [d1, d2] => { results := [.lit (.bool false)], args := [d1, d2] }
  | _ => none }
def FnStringArrayArraysEqualMatchesNestedEncodingWrongFalsely : Prop := fnStringArrayArraysEqualMatchesNestedEncodingRow.holds Try.pinned (OpenSpec.ofChange fnStringArrayArraysEqualMatchesNestedEncodingWrong)

/- THE SECOND FORM. 'bulk': how many values and letters a reading holds, each counted each time it is reached (what is shared counts as often as it is met; a slice's spare places count too). A statement '..UptoSaid' is the law's where the arguments, and the package variables that the reading takes, are together of bulk at most 1048576: NARROWER than '..Said'. Prove '..Said' where nothing that the law and all that it calls make is longer than what came in: it says more and counts as full. Else prove '..UptoSaid'. A law counts once. -/
mutual
def uptoBulk {H : Type} : DataW H → Nat
  | .lit (.string bytes) => bytes.length + 1
  | .lit _ => 1
  | .nil => 1
  | .ptr d => uptoBulk d + 1
  | .slice elems spare => uptoBulkAll elems + uptoBulkAll spare + 1
  | .agg parts => uptoBulkAll parts + 1
  | .iface _ d => uptoBulk d + 1
  | .map entries => uptoBulkEntries entries + 1
  | .held _ => 1
def uptoBulkAll {H : Type} : List (DataW H) → Nat
  | [] => 0
  | d :: r => uptoBulk d + uptoBulkAll r
def uptoBulkEntries {H : Type} : List (Lit × DataW H) → Nat
  | [] => 0
  | x :: r => uptoBulkEntry x + uptoBulkEntries r
def uptoBulkEntry {H : Type} : Lit × DataW H → Nat
  | (.string bytes, d) => bytes.length + uptoBulk d + 1
  | (_, d) => uptoBulk d + 1
 end
def uptoSmall : (H : Type) → List (DataW H) → Bool := fun _ ds => decide (uptoBulkAll ds ≤ 1048576)
def OpenSpec.upto (s : _root_.Go.ChangeSpec) : _root_.Go.OpenSpec := { _root_.Go.OpenSpec.ofChange s with cond := some uptoSmall }

/-- 'n011_141.FnJoinerAddBytesAgreesWithAddString', WHERE WHAT IT READS IS OF BULK AT MOST 1048576: true; the input reads as it did. -/
def fnJoinerAddBytesAgreesWithAddStringUptoRow : OpenClaim := { program := "ytolfajalkbnnoaa", sum := "d78acce913be7297fb74e3c4c2920a0afe51dbd3c27b710f37e893a406d0a2eb", func := "github.com/evanw/esbuild/n011_141.FnJoinerAddBytesAgreesWithAddString", spec := "fnJoinerAddBytesAgreesWithAddString", apart := false, narrowed := true }
def FnJoinerAddBytesAgreesWithAddStringUptoSaid : Prop := fnJoinerAddBytesAgreesWithAddStringUptoRow.holds Try.pinned (OpenSpec.upto fnJoinerAddBytesAgreesWithAddStringSpec)

/-- 'n011_34.FnEnsureNewlineAtEndIdempotent', WHERE WHAT IT READS IS OF BULK AT MOST 1048576: true; the input reads as it did. -/
def fnEnsureNewlineAtEndIdempotentUptoRow : OpenClaim := { program := "ytolfajalkbnnoaa", sum := "d78acce913be7297fb74e3c4c2920a0afe51dbd3c27b710f37e893a406d0a2eb", func := "github.com/evanw/esbuild/n011_34.FnEnsureNewlineAtEndIdempotent", spec := "fnEnsureNewlineAtEndIdempotent", apart := false, narrowed := true }
def FnEnsureNewlineAtEndIdempotentUptoSaid : Prop := fnEnsureNewlineAtEndIdempotentUptoRow.holds Try.pinned (OpenSpec.upto fnEnsureNewlineAtEndIdempotentSpec)

/-- 'n011_20.FnStringArrayArraysEqualMatchesNestedEncoding', WHERE WHAT IT READS IS OF BULK AT MOST 1048576: true; the input reads as it did. -/
def fnStringArrayArraysEqualMatchesNestedEncodingUptoRow : OpenClaim := { program := "ytolfajalkbnnoaa", sum := "d78acce913be7297fb74e3c4c2920a0afe51dbd3c27b710f37e893a406d0a2eb", func := "github.com/evanw/esbuild/n011_20.FnStringArrayArraysEqualMatchesNestedEncoding", spec := "fnStringArrayArraysEqualMatchesNestedEncoding", apart := false, narrowed := true }
def FnStringArrayArraysEqualMatchesNestedEncodingUptoSaid : Prop := fnStringArrayArraysEqualMatchesNestedEncodingUptoRow.holds Try.pinned (OpenSpec.upto fnStringArrayArraysEqualMatchesNestedEncodingSpec)

end Rows
end Go.Proofs.Ytolfajalkbnnoaa
