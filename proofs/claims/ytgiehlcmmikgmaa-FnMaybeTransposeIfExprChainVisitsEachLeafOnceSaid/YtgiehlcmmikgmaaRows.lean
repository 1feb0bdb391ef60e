/-
  No cell of these rows narrows 'for every input' (looked for: loops, veiled, ifaces, maps, wideKeys, modest, calm, conditions, laid).
  DERIVED. THE GIVEN ROWS OF THIS SEAT. 3 by the template 'for every input the law returns true; each argument reads behind the call as it read before'; 0 by the template 'total and deterministic' (their statements: YtgiehlcmmikgmaaTotals.lean).
  GIVEN WITH THE SEED: the statements are not yours to turn. If you find one false, say at which input.
  Laid BY PROGRAM, IN A SANDBOX (cutbox-rows.mjs): the forced cells as the released guide's own fill.sh prints them over the translation 8d7dc9c0203063d5… (all of the seat's roots in one cut). By AI agents, Wed Nov 11 2026. No macro, syntax, notation, axiom, sorry.
-/
import Derived.Test.YtgiehlcmmikgmaaChecked
import GoSem.Claim
import GoSem.ClaimJoined
import GoSem.ClaimMapViews
import Derived.JoinedTies
import Derived.KernelRfl
namespace Go.Proofs.Ytgiehlcmmikgmaa
/- THE CELL 'sum', in the pinned program and in every row, IS THE sha256 OF THE DUMP (.gsa) THAT YtgiehlcmmikgmaaProg.lean LOADS. Nothing in Lean hashes anything: it is a label: what it is worth is what the hold of that sum in a sandbox is worth. -/
noncomputable def Try.pinned : Pinned := { name := "ytgiehlcmmikgmaa", sum := "8d7dc9c0203063d576aace73d7ddd8faa683533dbb1c6513e7f21bc74932eb11", checked := Try.checked }
namespace Rows
def none {H : Type} : Left H := { results := [], args := [] }

/-- 'n011_249.FnBindingHasObjectRestIffSomeSpreadProperty': WHATEVER THE INPUT: true; the input reads as it did. -/
def fnBindingHasObjectRestIffSomeSpreadPropertySpec : ChangeSpec := { name := "fnBindingHasObjectRestIffSomeSpreadProperty", fn := fun _ => fun
  | [d] => { results := [.lit (.bool true)], args := [d] }
  | _ => none }
def fnBindingHasObjectRestIffSomeSpreadPropertyRow : OpenClaim := { program := "ytgiehlcmmikgmaa", sum := "8d7dc9c0203063d576aace73d7ddd8faa683533dbb1c6513e7f21bc74932eb11", func := "github.com/evanw/esbuild/n011_249.FnBindingHasObjectRestIffSomeSpreadProperty", spec := "fnBindingHasObjectRestIffSomeSpreadProperty", recurses := true, plainKeys := false, apart := false }
def FnBindingHasObjectRestIffSomeSpreadPropertySaid : Prop := fnBindingHasObjectRestIffSomeSpreadPropertyRow.holds Try.pinned (OpenSpec.ofChange fnBindingHasObjectRestIffSomeSpreadPropertySpec)

/-- ITS FALSE NEIGHBOUR: 'it returns false'. Refute it at one input. -/
def fnBindingHasObjectRestIffSomeSpreadPropertyWrong : ChangeSpec := { name := "fnBindingHasObjectRestIffSomeSpreadProperty", fn := fun _ => fun
  | [d] => { results := [.lit (.bool false)], args := [d] }
  | _ => none }
def FnBindingHasObjectRestIffSomeSpreadPropertyWrongFalsely : Prop := fnBindingHasObjectRestIffSomeSpreadPropertyRow.holds Try.pinned (OpenSpec.ofChange fnBindingHasObjectRestIffSomeSpreadPropertyWrong)

/-- 'n011_266.FnMaybeTransposeIfExprChainVisitsEachLeafOnce': WHATEVER THE INPUT: true; the input reads as it did. -/
def fnMaybeTransposeIfExprChainVisitsEachLeafOnceSpec : ChangeSpec := { name := "fnMaybeTransposeIfExprChainVisitsEachLeafOnce", fn := fun _ => fun
  | [d1, d2] => { results := [.lit (.bool true)], args := [d1, d2] }
  | _ => none }
def fnMaybeTransposeIfExprChainVisitsEachLeafOnceRow : OpenClaim := { program := "ytgiehlcmmikgmaa", sum := "8d7dc9c0203063d576aace73d7ddd8faa683533dbb1c6513e7f21bc74932eb11", func := "github.com/evanw/esbuild/n011_266.FnMaybeTransposeIfExprChainVisitsEachLeafOnce", spec := "fnMaybeTransposeIfExprChainVisitsEachLeafOnce", unfollowed := true, recurses := true, plainKeys := false, apart := false }
def FnMaybeTransposeIfExprChainVisitsEachLeafOnceSaid : Prop := fnMaybeTransposeIfExprChainVisitsEachLeafOnceRow.holds Try.pinned (OpenSpec.ofChange fnMaybeTransposeIfExprChainVisitsEachLeafOnceSpec)

/-- ITS FALSE NEIGHBOUR: 'it returns false'. Refute it at one input. -/
def fnMaybeTransposeIfExprChainVisitsEachLeafOnceWrong : ChangeSpec := { name := "fnMaybeTransposeIfExprChainVisitsEachLeafOnce", fn := fun _ => fun
  | [d1, d2] => { results := [.lit (.bool false)], args := [d1, d2] }
  | _ => none }
def FnMaybeTransposeIfExprChainVisitsEachLeafOnceWrongFalsely : Prop := fnMaybeTransposeIfExprChainVisitsEachLeafOnceRow.holds Try.pinned (OpenSpec.ofChange fnMaybeTransposeIfExprChainVisitsEachLeafOnceWrong)

/-- 'n011_266.FnMaybeRelocateVarsToTopLevelExact': WHATEVER THE INPUT: true; the input reads as it did. -/
def fnMaybeRelocateVarsToTopLevelExactSpec : ChangeSpec := { name := "fnMaybeRelocateVarsToTopLevelExact", fn := fun _ => fun
  | [d1, d2, d3, d4, d5, d6, d7] => { results := [.lit (.bool true)], args := [d1, d2, d3, d4, d5, d6, d7] }
  | _ => none }
def fnMaybeRelocateVarsToTopLevelExactRow : OpenClaim := { program := "ytgiehlcmmikgmaa", sum := "8d7dc9c0203063d576aace73d7ddd8faa683533dbb1c6513e7f21bc74932eb11", func := "github.com/evanw/esbuild/n011_266.FnMaybeRelocateVarsToTopLevelExact", spec := "fnMaybeRelocateVarsToTopLevelExact", unfollowed := true, recurses := true, plainKeys := false, apart := false }
def FnMaybeRelocateVarsToTopLevelExactSaid : Prop := fnMaybeRelocateVarsToTopLevelExactRow.holds Try.pinned (OpenSpec.ofChange fnMaybeRelocateVarsToTopLevelExactSpec)

/-- ITS FALSE NEIGHBOUR: 'it returns false'. Refute it at one input. -/
def fnMaybeRelocateVarsToTopLevelExactWrong : ChangeSpec := { name := "fnMaybeRelocateVarsToTopLevelExact", fn := fun _ => fun
  | [d1, d2, d3, d4, d5, d6, d7] => { results := [.lit (.bool false)], args := [d1, d2, d3, d4, d5, d6, d7] }
  | _ => none }
def FnMaybeRelocateVarsToTopLevelExactWrongFalsely : Prop := fnMaybeRelocateVarsToTopLevelExactRow.holds Try.pinned (OpenSpec.ofChange fnMaybeRelocateVarsToTopLevelExactWrong)

/- THE SECOND FORM. 'bulk': how many values and letters a reading holds, each counted each time it is reached (what is shared counts as often as it is met; a slice's spare places count too). A statement '..UptoSaid' is the law's where the arguments, and the package variables that the reading takes, are together of bulk at most 1048576: NARROWER than '..Said'. Prove '..Said' where nothing that the law and all that it calls make is longer than what came in: it says more and counts as full. Else prove '..UptoSaid'. A law counts once. -/
mutual
def uptoBulk {H : Type} : DataW H → Nat
  | .lit (.string bytes) => bytes.length + 1
  | .lit _ => 1
  | .nil => 1
  | .ptr d => uptoBulk d + 1
  | .slice elems spare => uptoBulkAll elems + uptoBulkAll spare + 1
  | .agg parts => uptoBulkAll parts + 1
  | .iface _ d => uptoBulk d + 1
  | .map entries => uptoBulkEntries entries + 1
  | .held _ => 1
def uptoBulkAll {H : Type} : List (DataW H) → Nat
  | [] => 0
  | d :: r => uptoBulk d + uptoBulkAll r
def uptoBulkEntries {H : Type} : List (Lit × DataW H) → Nat
  | [] => 0
  | x :: r => uptoBulkEntry x + uptoBulkEntries r
def uptoBulkEntry {H : Type} : Lit × DataW H → Nat
  | (.string bytes, d) => bytes.length + uptoBulk d + 1
  | (_, d) => uptoBulk d + 1
 end
def uptoSmall : (H : Type) → List (DataW H) → Bool := fun _ ds => decide (uptoBulkAll ds ≤ 1048576)
def OpenSpec.upto (s : _root_.Go.ChangeSpec) : _root_.Go.OpenSpec := { _root_.Go.OpenSpec.ofChange s with cond := some uptoSmall }

/-- 'n011_249.FnBindingHasObjectRestIffSomeSpreadProperty', WHERE WHAT IT READS IS OF BULK AT MOST 1048576: true; the input reads as it did. -/
def fnBindingHasObjectRestIffSomeSpreadPropertyUptoRow : OpenClaim := { program := "ytgiehlcmmikgmaa", sum := "8d7dc9c0203063d576aace73d7ddd8faa683533dbb1c6513e7f21bc74932eb11", func := "github.com/evanw/esbuild/n011_249.FnBindingHasObjectRestIffSomeSpreadProperty", spec := "fnBindingHasObjectRestIffSomeSpreadProperty", recurses := true, plainKeys := false, apart := false, narrowed := true }
def FnBindingHasObjectRestIffSomeSpreadPropertyUptoSaid : Prop := fnBindingHasObjectRestIffSomeSpreadPropertyUptoRow.holds Try.pinned (OpenSpec.upto fnBindingHasObjectRestIffSomeSpreadPropertySpec)

/-- 'n011_266.FnMaybeTransposeIfExprChainVisitsEachLeafOnce', WHERE WHAT IT READS IS OF BULK AT MOST 1048576: true; the input reads as it did. -/
def fnMaybeTransposeIfExprChainVisitsEachLeafOnceUptoRow : OpenClaim := { program := "ytgiehlcmmikgmaa", sum := "8d7dc9c0203063d576aace73d7ddd8faa683533dbb1c6513e7f21bc74932eb11", func := "github.com/evanw/esbuild/n011_266.FnMaybeTransposeIfExprChainVisitsEachLeafOnce", spec := "fnMaybeTransposeIfExprChainVisitsEachLeafOnce", unfollowed := true, recurses := true, plainKeys := false, apart := false, narrowed := true }
def FnMaybeTransposeIfExprChainVisitsEachLeafOnceUptoSaid : Prop := fnMaybeTransposeIfExprChainVisitsEachLeafOnceUptoRow.holds Try.pinned (OpenSpec.upto fnMaybeTransposeIfExprChainVisitsEachLeafOnceSpec)

/-- 'n011_266.FnMaybeRelocateVarsToTopLevelExact', WHERE WHAT IT READS IS OF BULK AT MOST 1048576: true; the input reads as it did. -/
def fnMaybeRelocateVarsToTopLevelExactUptoRow : OpenClaim := { program := "ytgiehlcmmikgmaa", sum := "8d7dc9c0203063d576aace73d7ddd8faa683533dbb1c6513e7f21bc74932eb11", func := "github.com/evanw/esbuild/n011_266.FnMaybeRelocateVarsToTopLevelExact", spec := "fnMaybeRelocateVarsToTopLevelExact", unfollowed := true, recurses := true, plainKeys := false, apart := false, narrowed := true }
def FnMaybeRelocateVarsToTopLevelExactUptoSaid : Prop := fnMaybeRelocateVarsToTopLevelExactUptoRow.holds Try.pinned (OpenSpec.upto fnMaybeRelocateVarsToTopLevelExactSpec)

end Rows
end Go.Proofs.Ytgiehlcmmikgmaa
