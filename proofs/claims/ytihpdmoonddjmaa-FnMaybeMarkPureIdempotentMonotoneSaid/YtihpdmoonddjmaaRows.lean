/-
  No cell of these rows narrows 'for every input' (looked for: loops, veiled, ifaces, maps, wideKeys, modest, calm, conditions, laid).
  DERIVED. THE GIVEN ROWS OF THIS SEAT. 5 by the template 'for every input the law returns true; each argument reads behind the call as it read before'; 0 by the template 'total and deterministic' (their statements: YtihpdmoonddjmaaTotals.lean).
  GIVEN WITH THE SEED: the statements are not yours to turn. If you find one false, say at which input.
  Laid BY PROGRAM, IN A SANDBOX (cutbox-rows.mjs): the forced cells as the released guide's own fill.sh prints them over the translation d26ee73e12957f0d… (all of the seat's roots in one cut). By AI agents, Wed Nov 11 2026. No macro, syntax, notation, axiom, sorry.
-/
import Derived.Test.YtihpdmoonddjmaaChecked
import GoSem.Claim
import GoSem.ClaimJoined
import GoSem.ClaimMapViews
import Derived.JoinedTies
import Derived.KernelRfl
namespace Go.Proofs.Ytihpdmoonddjmaa
/- THE CELL 'sum', in the pinned program and in every row, IS THE sha256 OF THE DUMP (.gsa) THAT YtihpdmoonddjmaaProg.lean LOADS. Nothing in Lean hashes anything: it is a label: what it is worth is what the hold of that sum in a sandbox is worth. -/
noncomputable def Try.pinned : Pinned := { name := "ytihpdmoonddjmaa", sum := "d26ee73e12957f0db42011806bbc14f3a0c7f004f53e4002f4ca2592b8e2f0d9", checked := Try.checked }
namespace Rows
def none {H : Type} : Left H := { results := [], args := [] }

/-- 'n011_52.FnGetOrCreateNamespaceMembersMergeScript': WHATEVER THE INPUT: true; the input reads as it did. -/
def fnGetOrCreateNamespaceMembersMergeScriptSpec : ChangeSpec := { name := "fnGetOrCreateNamespaceMembersMergeScript", fn := fun _ => fun
  | [d1, d2, d3, d4, d5] => { results := [.lit (.bool true)], args := [d1, d2, d3, d4, d5] }
  | _ => none }
def fnGetOrCreateNamespaceMembersMergeScriptRow : OpenClaim := { program := "ytihpdmoonddjmaa", sum := "d26ee73e12957f0db42011806bbc14f3a0c7f004f53e4002f4ca2592b8e2f0d9", func := "github.com/evanw/esbuild/n011_52.FnGetOrCreateNamespaceMembersMergeScript", spec := "fnGetOrCreateNamespaceMembersMergeScript", plainKeys := false, apart := false }
def FnGetOrCreateNamespaceMembersMergeScriptSaid : Prop := fnGetOrCreateNamespaceMembersMergeScriptRow.holds Try.pinned (OpenSpec.ofChange fnGetOrCreateNamespaceMembersMergeScriptSpec)

/-- ITS FALSE NEIGHBOUR: 'it returns false'. Refute it at one input. -/
def fnGetOrCreateNamespaceMembersMergeScriptWrong : ChangeSpec := { name := "fnGetOrCreateNamespaceMembersMergeScript", fn := fun _ => fun
  | [d1, d2, d3, d4, d5] => { results := [.lit (.bool false)], args := [d1, d2, d3, d4, d5] }
  | _ => none }
def FnGetOrCreateNamespaceMembersMergeScriptWrongFalsely : Prop := fnGetOrCreateNamespaceMembersMergeScriptRow.holds Try.pinned (OpenSpec.ofChange fnGetOrCreateNamespaceMembersMergeScriptWrong)

/-- 'n011_94.FnExtractPrivateIndexRoundTrip': WHATEVER THE INPUT: true; the input reads as it did. -/
def fnExtractPrivateIndexRoundTripSpec : ChangeSpec := { name := "fnExtractPrivateIndexRoundTrip", fn := fun _ => fun
  | [d1, d2, d3, d4, d5, d6] => { results := [.lit (.bool true)], args := [d1, d2, d3, d4, d5, d6] }
  | _ => none }
def fnExtractPrivateIndexRoundTripRow : OpenClaim := { program := "ytihpdmoonddjmaa", sum := "d26ee73e12957f0db42011806bbc14f3a0c7f004f53e4002f4ca2592b8e2f0d9", func := "github.com/evanw/esbuild/n011_94.FnExtractPrivateIndexRoundTrip", spec := "fnExtractPrivateIndexRoundTrip", plainKeys := false, apart := false }
def FnExtractPrivateIndexRoundTripSaid : Prop := fnExtractPrivateIndexRoundTripRow.holds Try.pinned (OpenSpec.ofChange fnExtractPrivateIndexRoundTripSpec)

/-- ITS FALSE NEIGHBOUR: 'it returns false'. Refute it at one input. -/
def fnExtractPrivateIndexRoundTripWrong : ChangeSpec := { name := "fnExtractPrivateIndexRoundTrip", fn := fun _ => fun
  | [d1, d2, d3, d4, d5, d6] => { results := [.lit (.bool false)], args := [d1, d2, d3, d4, d5, d6] }
  | _ => none }
def FnExtractPrivateIndexRoundTripWrongFalsely : Prop := fnExtractPrivateIndexRoundTripRow.holds Try.pinned (OpenSpec.ofChange fnExtractPrivateIndexRoundTripWrong)

/-- 'n011_42.FnShouldLowerUsingDeclarationsExact': WHATEVER THE INPUT: true; the input reads as it did. -/
def fnShouldLowerUsingDeclarationsExactSpec : ChangeSpec := { name := "fnShouldLowerUsingDeclarationsExact", fn := fun _ => fun
  | [d1, d2, d3, d4, d5, d6] => { results := [.lit (.bool true)], args := [d1, d2, d3, d4, d5, d6] }
  | _ => none }
def fnShouldLowerUsingDeclarationsExactRow : OpenClaim := { program := "ytihpdmoonddjmaa", sum := "d26ee73e12957f0db42011806bbc14f3a0c7f004f53e4002f4ca2592b8e2f0d9", func := "github.com/evanw/esbuild/n011_42.FnShouldLowerUsingDeclarationsExact", spec := "fnShouldLowerUsingDeclarationsExact", plainKeys := false, apart := false }
def FnShouldLowerUsingDeclarationsExactSaid : Prop := fnShouldLowerUsingDeclarationsExactRow.holds Try.pinned (OpenSpec.ofChange fnShouldLowerUsingDeclarationsExactSpec)

/-- ITS FALSE NEIGHBOUR: 'it returns false'. Refute it at one input. -/
def fnShouldLowerUsingDeclarationsExactWrong : ChangeSpec := { name := "fnShouldLowerUsingDeclarationsExact", fn := fun _ => fun
  | [d1, d2, d3, d4, d5, d6] => { results := [.lit (.bool false)], args := [d1, d2, d3, d4, d5, d6] }
  | _ => none }
def FnShouldLowerUsingDeclarationsExactWrongFalsely : Prop := fnShouldLowerUsingDeclarationsExactRow.holds Try.pinned (OpenSpec.ofChange fnShouldLowerUsingDeclarationsExactWrong)

/-- 'n011_299.FnMaybeMarkPureIdempotentMonotone': WHATEVER THE INPUT: true; the input reads as it did. -/
def fnMaybeMarkPureIdempotentMonotoneSpec : ChangeSpec := { name := "fnMaybeMarkPureIdempotentMonotone", fn := fun _ => fun
  | [d1, d2, d3, d4, d5] => { results := [.lit (.bool true)], args := [d1, d2, d3, d4, d5] }
  | _ => none }
def fnMaybeMarkPureIdempotentMonotoneRow : OpenClaim := { program := "ytihpdmoonddjmaa", sum := "d26ee73e12957f0db42011806bbc14f3a0c7f004f53e4002f4ca2592b8e2f0d9", func := "github.com/evanw/esbuild/n011_299.FnMaybeMarkPureIdempotentMonotone", spec := "fnMaybeMarkPureIdempotentMonotone", recurses := true, plainKeys := false, apart := false }
def FnMaybeMarkPureIdempotentMonotoneSaid : Prop := fnMaybeMarkPureIdempotentMonotoneRow.holds Try.pinned (OpenSpec.ofChange fnMaybeMarkPureIdempotentMonotoneSpec)

/-- ITS FALSE NEIGHBOUR: 'it returns false'. Refute it at one input. -/
def fnMaybeMarkPureIdempotentMonotoneWrong : ChangeSpec := { name := "fnMaybeMarkPureIdempotentMonotone", fn := fun _ => fun
  | [d1, d2, d3, d4, d5] => { results := [.lit (.bool false)], args := [d1, d2, d3, d4, d5] }
  | _ => none }
def FnMaybeMarkPureIdempotentMonotoneWrongFalsely : Prop := fnMaybeMarkPureIdempotentMonotoneRow.holds Try.pinned (OpenSpec.ofChange fnMaybeMarkPureIdempotentMonotoneWrong)

/-- 'n011_58.FnFromConfigEachBoolDistinguishes': WHATEVER THE INPUT: true; the input reads as it did. -/
def fnFromConfigEachBoolDistinguishesSpec : ChangeSpec := { name := "fnFromConfigEachBoolDistinguishes", fn := fun _ => fun
  | [d1, d2] => { results := [.lit (.bool true)], args := [d1, d2] }
  | _ => none }
def fnFromConfigEachBoolDistinguishesRow : OpenClaim := { program := "ytihpdmoonddjmaa", sum := "d26ee73e12957f0db42011806bbc14f3a0c7f004f53e4002f4ca2592b8e2f0d9", func := "github.com/evanw/esbuild/n011_58.FnFromConfigEachBoolDistinguishes", spec := "fnFromConfigEachBoolDistinguishes", inPlace := ["math.Float64bits"], recurses := true, plainKeys := false, apart := false }
def FnFromConfigEachBoolDistinguishesSaid : Prop := fnFromConfigEachBoolDistinguishesRow.holds Try.pinned (OpenSpec.ofChange fnFromConfigEachBoolDistinguishesSpec)

/-- ITS FALSE NEIGHBOUR: 'it returns false'. Refute it at one input. -/
def fnFromConfigEachBoolDistinguishesWrong : ChangeSpec := { name := "fnFromConfigEachBoolDistinguishes", fn := fun _ => fun
  | [d1, d2] => { results := [.lit (.bool false)], args := [d1, d2] }
  | _ => none }
def FnFromConfigEachBoolDistinguishesWrongFalsely : Prop := fnFromConfigEachBoolDistinguishesRow.holds Try.pinned (OpenSpec.ofChange fnFromConfigEachBoolDistinguishesWrong)

/- THE SECOND FORM. 'bulk': how many values and letters a reading holds, each counted each time it is reached (what is shared counts as often as it is met; a slice's spare places count too). A statement '..UptoSaid' is the law's where the arguments, and the package variables that the reading takes, are together of bulk at most 1048576: NARROWER than '..Said'. Prove '..Said' where nothing that the law and all that it calls make is longer than what came in: it says more and counts as full. Else prove '..UptoSaid'. A law counts once. -/
mutual
def uptoBulk {H : Type} : DataW H → Nat
  | .lit (.string bytes) => bytes.length + 1
  | .lit _ => 1
  | .nil => 1
  | .ptr d => uptoBulk d + 1
  | .slice elems spare => uptoBulkAll elems + uptoBulkAll spare + 1
  | .agg parts => uptoBulkAll parts + 1
  | .iface _ d => uptoBulk d + 1
  | .map entries => uptoBulkEntries entries + 1
  | .held _ => 1
def uptoBulkAll {H : Type} : List (DataW H) → Nat
  | [] => 0
  | d :: r => uptoBulk d + uptoBulkAll r
def uptoBulkEntries {H : Type} : List (Lit × DataW H) → Nat
  | [] => 0
  | x :: r => uptoBulkEntry x + uptoBulkEntries r
def uptoBulkEntry {H : Type} : Lit × DataW H → Nat
  | (.string bytes, d) => bytes.length + uptoBulk d + 1
  | (_, d) => uptoBulk d + 1
 end
def uptoSmall : (H : Type) → List (DataW H) → Bool := fun _ ds => decide (uptoBulkAll ds ≤ 1048576)
def OpenSpec.upto (s : _root_.Go.ChangeSpec) : _root_.Go.OpenSpec := { _root_.Go.OpenSpec.ofChange s with cond := some uptoSmall }

/-- 'n011_52.FnGetOrCreateNamespaceMembersMergeScript', WHERE WHAT IT READS IS OF BULK AT MOST 1048576: true; the input reads as it did. -/
def fnGetOrCreateNamespaceMembersMergeScriptUptoRow : OpenClaim := { program := "ytihpdmoonddjmaa", sum := "d26ee73e12957f0db42011806bbc14f3a0c7f004f53e4002f4ca2592b8e2f0d9", func := "github.com/evanw/esbuild/n011_52.FnGetOrCreateNamespaceMembersMergeScript", spec := "fnGetOrCreateNamespaceMembersMergeScript", plainKeys := false, apart := false, narrowed := true }
def FnGetOrCreateNamespaceMembersMergeScriptUptoSaid : Prop := fnGetOrCreateNamespaceMembersMergeScriptUptoRow.holds Try.pinned (OpenSpec.upto fnGetOrCreateNamespaceMembersMergeScriptSpec)

/-- 'n011_94.FnExtractPrivateIndexRoundTrip', WHERE WHAT IT READS IS OF BULK AT MOST 1048576: true; the input reads as it did. -/
def fnExtractPrivateIndexRoundTripUptoRow : OpenClaim := { program := "ytihpdmoonddjmaa", sum := "d26ee73e12957f0db42011806bbc14f3a0c7f004f53e4002f4ca2592b8e2f0d9", func := "github.com/evanw/esbuild/n011_94.FnExtractPrivateIndexRoundTrip", spec := "fnExtractPrivateIndexRoundTrip", plainKeys := false, apart := false, narrowed := true }
def FnExtractPrivateIndexRoundTripUptoSaid : Prop := fnExtractPrivateIndexRoundTripUptoRow.holds Try.pinned (OpenSpec.upto fnExtractPrivateIndexRoundTripSpec)

/-- 'n011_42.FnShouldLowerUsingDeclarationsExact', WHERE WHAT IT READS IS OF BULK AT MOST 1048576: true; the input reads as it did. -/
def fnShouldLowerUsingDeclarationsExactUptoRow : OpenClaim := { program := "ytihpdmoonddjmaa", sum := "d26ee73e12957f0db42011806bbc14f3a0c7f004f53e4002f4ca2592b8e2f0d9", func := "github.com/evanw/esbuild/n011_42.FnShouldLowerUsingDeclarationsExact", spec := "fnShouldLowerUsingDeclarationsExact", plainKeys := false, apart := false, narrowed := true }
def FnShouldLowerUsingDeclarationsExactUptoSaid : Prop := fnShouldLowerUsingDeclarationsExactUptoRow.holds Try.pinned (OpenSpec.upto fnShouldLowerUsingDeclarationsExactSpec)

/-- 'n011_299.FnMaybeMarkPureIdempotentMonotone', WHERE WHAT IT READS IS OF BULK AT MOST 1048576: true; the input reads as it did. -/
def fnMaybeMarkPureIdempotentMonotoneUptoRow : OpenClaim := { program := "ytihpdmoonddjmaa", sum := "d26ee73e12957f0db42011806bbc14f3a0c7f004f53e4002f4ca2592b8e2f0d9", func := "github.com/evanw/esbuild/n011_299.FnMaybeMarkPureIdempotentMonotone", spec := "fnMaybeMarkPureIdempotentMonotone", recurses := true, plainKeys := false, apart := false, narrowed := true }
def FnMaybeMarkPureIdempotentMonotoneUptoSaid : Prop := fnMaybeMarkPureIdempotentMonotoneUptoRow.holds Try.pinned (OpenSpec.upto fnMaybeMarkPureIdempotentMonotoneSpec)

/-- 'n011_58.FnFromConfigEachBoolDistinguishes', WHERE WHAT IT READS IS OF BULK AT MOST 1048576: true; the input reads as it did. -/
def fnFromConfigEachBoolDistinguishesUptoRow : OpenClaim := { program := "ytihpdmoonddjmaa", sum := "d26ee73e12957f0db42011806bbc14f3a0c7f004f53e4002f4ca2592b8e2f0d9", func := "github.com/evanw/esbuild/n011_58.FnFromConfigEachBoolDistinguishes", spec := "fnFromConfigEachBoolDistinguishes", inPlace := ["math.Float64bits"], recurses := true, plainKeys := false, apart := false, narrowed := true }
def FnFromConfigEachBoolDistinguishesUptoSaid : Prop := fnFromConfigEachBoolDistinguishesUptoRow.holds Try.pinned (OpenSpec.upto fnFromConfigEachBoolDistinguishesSpec)

end Rows
end Go.Proofs.Ytihpdmoonddjmaa
