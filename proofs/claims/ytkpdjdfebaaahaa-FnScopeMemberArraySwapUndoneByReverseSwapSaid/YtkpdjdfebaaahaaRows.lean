/-
  No cell of these rows narrows 'for every input' (looked for: loops, veiled, ifaces, maps, wideKeys, modest, calm, conditions, laid).
  DERIVED. THE GIVEN ROWS OF THIS SEAT. 6 by the template 'for every input the law returns true; each argument reads behind the call as it read before'; 0 by the template 'total and deterministic' (their statements: YtkpdjdfebaaahaaTotals.lean).
  GIVEN WITH THE SEED: the statements are not yours to turn. If you find one false, say at which input.
  Laid BY PROGRAM, IN A SANDBOX (cutbox-rows.mjs): the forced cells as the released guide's own fill.sh prints them over the translation 26a3699dfa4568a9… (all of the seat's roots in one cut). By AI agents, Wed Nov 11 2026. No macro, syntax, notation, axiom, sorry.
-/
import Derived.Test.YtkpdjdfebaaahaaChecked
import GoSem.Claim
import GoSem.ClaimJoined
import GoSem.ClaimMapViews
import Derived.JoinedTies
import Derived.KernelRfl
namespace Go.Proofs.Ytkpdjdfebaaahaa
/- THE CELL 'sum', in the pinned program and in every row, IS THE sha256 OF THE DUMP (.gsa) THAT YtkpdjdfebaaahaaProg.lean LOADS. Nothing in Lean hashes anything: it is a label: what it is worth is what the hold of that sum in a sandbox is worth. -/
noncomputable def Try.pinned : Pinned := { name := "ytkpdjdfebaaahaa", sum := "26a3699dfa4568a97c49d60edc8fc049441d8871db2745704016c20d43f8c46d", checked := Try.checked }
namespace Rows
def none {H : Type} : Left H := { results := [], args := [] }

/-- 'n011_36.FnIgnoreUsageUndoesRecordUsage': WHATEVER THE INPUT: true; the input reads as it did. -/
def fnIgnoreUsageUndoesRecordUsageSpec : ChangeSpec := { name := "fnIgnoreUsageUndoesRecordUsage", fn := fun _ => fun
  | [d1, d2, d3, d4, d5, d6] => { results := [.lit (.bool true)], args := [d1, d2, d3, d4, d5, d6] }
  | _ => none }
def fnIgnoreUsageUndoesRecordUsageRow : OpenClaim := { program := "ytkpdjdfebaaahaa", sum := "26a3699dfa4568a97c49d60edc8fc049441d8871db2745704016c20d43f8c46d", func := "github.com/evanw/esbuild/n011_36.FnIgnoreUsageUndoesRecordUsage", spec := "fnIgnoreUsageUndoesRecordUsage", plainKeys := false, apart := false }
def FnIgnoreUsageUndoesRecordUsageSaid : Prop := fnIgnoreUsageUndoesRecordUsageRow.holds Try.pinned (OpenSpec.ofChange fnIgnoreUsageUndoesRecordUsageSpec)

/-- ITS FALSE NEIGHBOUR: 'it returns false'. Refute it at one input. -/
def fnIgnoreUsageUndoesRecordUsageWrong : ChangeSpec := { name := "fnIgnoreUsageUndoesRecordUsage", fn := fun _ => fun
  | [d1, d2, d3, d4, d5, d6] => { results := [.lit (.bool false)], args := [d1, d2, d3, d4, d5, d6] }
  | _ => none }
def FnIgnoreUsageUndoesRecordUsageWrongFalsely : Prop := fnIgnoreUsageUndoesRecordUsageRow.holds Try.pinned (OpenSpec.ofChange fnIgnoreUsageUndoesRecordUsageWrong)

/-- 'n011_58.FnIsSameRegexpTable': WHATEVER THE INPUT: true; the input reads as it did. -/
def fnIsSameRegexpTableSpec : ChangeSpec := { name := "fnIsSameRegexpTable", fn := fun _ => fun
  | [d1, d2] => { results := [.lit (.bool true)], args := [d1, d2] }
  | _ => none }
def fnIsSameRegexpTableRow : OpenClaim := { program := "ytkpdjdfebaaahaa", sum := "26a3699dfa4568a97c49d60edc8fc049441d8871db2745704016c20d43f8c46d", func := "github.com/evanw/esbuild/n011_58.FnIsSameRegexpTable", spec := "fnIsSameRegexpTable", plainKeys := false, apart := false }
def FnIsSameRegexpTableSaid : Prop := fnIsSameRegexpTableRow.holds Try.pinned (OpenSpec.ofChange fnIsSameRegexpTableSpec)

/-- ITS FALSE NEIGHBOUR: 'it returns false'. Refute it at one input. -/
def fnIsSameRegexpTableWrong : ChangeSpec := { name := "fnIsSameRegexpTable", fn := fun _ => fun
  | [d1, d2] => { results := [.lit (.bool false)], args := [d1, d2] }
  | _ => none }
def FnIsSameRegexpTableWrongFalsely : Prop := fnIsSameRegexpTableRow.holds Try.pinned (OpenSpec.ofChange fnIsSameRegexpTableWrong)

/-- 'n011_304.FnPrivateLoweringDistributesOverUnsupportedUnion': WHATEVER THE INPUT: true; the input reads as it did. -/
def fnPrivateLoweringDistributesOverUnsupportedUnionSpec : ChangeSpec := { name := "fnPrivateLoweringDistributesOverUnsupportedUnion", fn := fun _ => fun
  | [d1, d2, d3, d4] => { results := [.lit (.bool true)], args := [d1, d2, d3, d4] }
  | _ => none }
def fnPrivateLoweringDistributesOverUnsupportedUnionRow : OpenClaim := { program := "ytkpdjdfebaaahaa", sum := "26a3699dfa4568a97c49d60edc8fc049441d8871db2745704016c20d43f8c46d", func := "github.com/evanw/esbuild/n011_304.FnPrivateLoweringDistributesOverUnsupportedUnion", spec := "fnPrivateLoweringDistributesOverUnsupportedUnion", plainKeys := false, apart := false }
def FnPrivateLoweringDistributesOverUnsupportedUnionSaid : Prop := fnPrivateLoweringDistributesOverUnsupportedUnionRow.holds Try.pinned (OpenSpec.ofChange fnPrivateLoweringDistributesOverUnsupportedUnionSpec)

/-- ITS FALSE NEIGHBOUR: 'it returns false'. Refute it at one input. -/
def fnPrivateLoweringDistributesOverUnsupportedUnionWrong : ChangeSpec := { name := "fnPrivateLoweringDistributesOverUnsupportedUnion", fn := fun _ => fun
  | [d1, d2, d3, d4] => { results := [.lit (.bool false)], args := [d1, d2, d3, d4] }
  | _ => none }
def FnPrivateLoweringDistributesOverUnsupportedUnionWrongFalsely : Prop := fnPrivateLoweringDistributesOverUnsupportedUnionRow.holds Try.pinned (OpenSpec.ofChange fnPrivateLoweringDistributesOverUnsupportedUnionWrong)

/-- 'n011_6.FnFieldOrAccessorOrderChain': WHATEVER THE INPUT: true; the input reads as it did. -/
def fnFieldOrAccessorOrderChainSpec : ChangeSpec := { name := "fnFieldOrAccessorOrderChain", fn := fun _ => fun
  | [d1, d2] => { results := [.lit (.bool true)], args := [d1, d2] }
  | _ => none }
def fnFieldOrAccessorOrderChainRow : OpenClaim := { program := "ytkpdjdfebaaahaa", sum := "26a3699dfa4568a97c49d60edc8fc049441d8871db2745704016c20d43f8c46d", func := "github.com/evanw/esbuild/n011_6.FnFieldOrAccessorOrderChain", spec := "fnFieldOrAccessorOrderChain", plainKeys := false, apart := false }
def FnFieldOrAccessorOrderChainSaid : Prop := fnFieldOrAccessorOrderChainRow.holds Try.pinned (OpenSpec.ofChange fnFieldOrAccessorOrderChainSpec)

/-- ITS FALSE NEIGHBOUR: 'it returns false'. Refute it at one input. -/
def fnFieldOrAccessorOrderChainWrong : ChangeSpec := { name := "fnFieldOrAccessorOrderChain", fn := fun _ => fun
  | [d1, d2] => { results := [.lit (.bool false)], args := [d1, d2] }
  | _ => none }
def FnFieldOrAccessorOrderChainWrongFalsely : Prop := fnFieldOrAccessorOrderChainRow.holds Try.pinned (OpenSpec.ofChange fnFieldOrAccessorOrderChainWrong)

/-- 'n011_6.FnMergeIntoSpec': WHATEVER THE INPUT: true; the input reads as it did. -/
def fnMergeIntoSpecSpec : ChangeSpec := { name := "fnMergeIntoSpec", fn := fun _ => fun
  | [d1, d2] => { results := [.lit (.bool true)], args := [d1, d2] }
  | _ => none }
def fnMergeIntoSpecRow : OpenClaim := { program := "ytkpdjdfebaaahaa", sum := "26a3699dfa4568a97c49d60edc8fc049441d8871db2745704016c20d43f8c46d", func := "github.com/evanw/esbuild/n011_6.FnMergeIntoSpec", spec := "fnMergeIntoSpec", plainKeys := false, apart := false }
def FnMergeIntoSpecSaid : Prop := fnMergeIntoSpecRow.holds Try.pinned (OpenSpec.ofChange fnMergeIntoSpecSpec)

/-- ITS FALSE NEIGHBOUR: 'it returns false'. Refute it at one input. -/
def fnMergeIntoSpecWrong : ChangeSpec := { name := "fnMergeIntoSpec", fn := fun _ => fun
  | [d1, d2] => { results := [.lit (.bool false)], args := [d1, d2] }
  | _ => none }
def FnMergeIntoSpecWrongFalsely : Prop := fnMergeIntoSpecRow.holds Try.pinned (OpenSpec.ofChange fnMergeIntoSpecWrong)

/-- 'n011_271.FnScopeMemberArraySwapUndoneByReverseSwap': WHATEVER THE INPUT: true; the input reads as it did. -/
def fnScopeMemberArraySwapUndoneByReverseSwapSpec : ChangeSpec := { name := "fnScopeMemberArraySwapUndoneByReverseSwap", fn := fun _ => fun
  | [d1, d2, d3, d4, d5] => { results := [.lit (.bool true)], args := [d1, d2, d3, d4, d5] }
  | _ => none }
def fnScopeMemberArraySwapUndoneByReverseSwapRow : OpenClaim := { program := "ytkpdjdfebaaahaa", sum := "26a3699dfa4568a97c49d60edc8fc049441d8871db2745704016c20d43f8c46d", func := "github.com/evanw/esbuild/n011_271.FnScopeMemberArraySwapUndoneByReverseSwap", spec := "fnScopeMemberArraySwapUndoneByReverseSwap", plainKeys := false, apart := false }
def FnScopeMemberArraySwapUndoneByReverseSwapSaid : Prop := fnScopeMemberArraySwapUndoneByReverseSwapRow.holds Try.pinned (OpenSpec.ofChange fnScopeMemberArraySwapUndoneByReverseSwapSpec)

/-- ITS FALSE NEIGHBOUR: 'it returns false'. Refute it at one input. -/
def fnScopeMemberArraySwapUndoneByReverseSwapWrong : ChangeSpec := { name := "fnScopeMemberArraySwapUndoneByReverseSwap", fn := fun _ => fun
  | [d1, d2, d3, d4, d5] => { results := [.lit (.bool false)], args := [d1, d2, d3, d4, d5] }
  | _ => none }
def FnScopeMemberArraySwapUndoneByReverseSwapWrongFalsely : Prop := fnScopeMemberArraySwapUndoneByReverseSwapRow.holds Try.pinned (OpenSpec.ofChange fnScopeMemberArraySwapUndoneByReverseSwapWrong)

/- THE SECOND FORM. 'bulk': how many values and letters a reading holds, each counted each time it is reached (what is shared counts as often as it is met; a slice's spare places count too). A statement '..UptoSaid' is the law's where the arguments, and the package variables that the reading takes, are together of bulk at most 1048576: NARROWER than '..Said'. Prove '..Said' where nothing that the law and all that it calls make is longer than what came in: it says more and counts as full. Else prove '..UptoSaid'. A law counts once. -/
mutual
def uptoBulk {H : Type} : DataW H → Nat
  | .lit (.string bytes) => bytes.length + 1
  | .lit _ => 1
  | .nil => 1
  | .ptr d => uptoBulk d + 1
  | .slice elems spare => uptoBulkAll elems + uptoBulkAll spare + 1
  | .agg parts => uptoBulkAll parts + 1
  | .iface _ d => uptoBulk d + 1
  | .map entries => uptoBulkEntries entries + 1
  | .held _ => 1
def uptoBulkAll {H : Type} : List (DataW H) → Nat
  | [] => 0
  | d :: r => uptoBulk d + uptoBulkAll r
def uptoBulkEntries {H : Type} : List (Lit × DataW H) → Nat
  | [] => 0
  | x :: r => uptoBulkEntry x + uptoBulkEntries r
def uptoBulkEntry {H : Type} : Lit × DataW H → Nat
  | (.string bytes, d) => bytes.length + uptoBulk d + 1
  | (_, d) => uptoBulk d + 1
 end
def uptoSmall : (H : Type) → List (DataW H) → Bool := fun _ ds => decide (uptoBulkAll ds ≤ 1048576)
def OpenSpec.upto (s : _root_.Go.ChangeSpec) : _root_.Go.OpenSpec := { _root_.Go.OpenSpec.ofChange s with cond := some uptoSmall }

/-- 'n011_36.FnIgnoreUsageUndoesRecordUsage', WHERE WHAT IT READS IS OF BULK AT MOST 1048576: true; the input reads as it did. -/
def fnIgnoreUsageUndoesRecordUsageUptoRow : OpenClaim := { program := "ytkpdjdfebaaahaa", sum := "26a3699dfa4568a97c49d60edc8fc049441d8871db2745704016c20d43f8c46d", func := "github.com/evanw/esbuild/n011_36.FnIgnoreUsageUndoesRecordUsage", spec := "fnIgnoreUsageUndoesRecordUsage", plainKeys := false, apart := false, narrowed := true }
def FnIgnoreUsageUndoesRecordUsageUptoSaid : Prop := fnIgnoreUsageUndoesRecordUsageUptoRow.holds Try.pinned (OpenSpec.upto fnIgnoreUsageUndoesRecordUsageSpec)

/-- 'n011_58.FnIsSameRegexpTable', WHERE WHAT IT READS IS OF BULK AT MOST 1048576: true; the input reads as it did. -/
def fnIsSameRegexpTableUptoRow : OpenClaim := { program := "ytkpdjdfebaaahaa", sum := "26a3699dfa4568a97c49d60edc8fc049441d8871db2745704016c20d43f8c46d", func := "github.com/evanw/esbuild/n011_58.FnIsSameRegexpTable", spec := "fnIsSameRegexpTable", plainKeys := false, apart := false, narrowed := true }
def FnIsSameRegexpTableUptoSaid : Prop := fnIsSameRegexpTableUptoRow.holds Try.pinned (OpenSpec.upto fnIsSameRegexpTableSpec)

/-- 'n011_304.FnPrivateLoweringDistributesOverUnsupportedUnion', WHERE WHAT IT READS IS OF BULK AT MOST 1048576: true; the input reads as it did. -/
def fnPrivateLoweringDistributesOverUnsupportedUnionUptoRow : OpenClaim := { program := "ytkpdjdfebaaahaa", sum := "26a3699dfa4568a97c49d60edc8fc049441d8871db2745704016c20d43f8c46d", func := "github.com/evanw/esbuild/n011_304.FnPrivateLoweringDistributesOverUnsupportedUnion", spec := "fnPrivateLoweringDistributesOverUnsupportedUnion", plainKeys := false, apart := false, narrowed := true }
def FnPrivateLoweringDistributesOverUnsupportedUnionUptoSaid : Prop := fnPrivateLoweringDistributesOverUnsupportedUnionUptoRow.holds Try.pinned (OpenSpec.upto fnPrivateLoweringDistributesOverUnsupportedUnionSpec)

/-- 'n011_6.FnFieldOrAccessorOrderChain', WHERE WHAT IT READS IS OF BULK AT MOST 1048576: true; the input reads as it did. -/
def fnFieldOrAccessorOrderChainUptoRow : OpenClaim := { program := "ytkpdjdfebaaahaa", sum := "26a3699dfa4568a97c49d60edc8fc049441d8871db2745704016c20d43f8c46d", func := "github.com/evanw/esbuild/n011_6.FnFieldOrAccessorOrderChain", spec := "fnFieldOrAccessorOrderChain", plainKeys := false, apart := false, narrowed := true }
def FnFieldOrAccessorOrderChainUptoSaid : Prop := fnFieldOrAccessorOrderChainUptoRow.holds Try.pinned (OpenSpec.upto fnFieldOrAccessorOrderChainSpec)

/-- 'n011_6.FnMergeIntoSpec', WHERE WHAT IT READS IS OF BULK AT MOST 1048576: true; the input reads as it did. -/
def fnMergeIntoSpecUptoRow : OpenClaim := { program := "ytkpdjdfebaaahaa", sum := "26a3699dfa4568a97c49d60edc8fc049441d8871db2745704016c20d43f8c46d", func := "github.com/evanw/esbuild/n011_6.FnMergeIntoSpec", spec := "fnMergeIntoSpec", plainKeys := false, apart := false, narrowed := true }
def FnMergeIntoSpecUptoSaid : Prop := fnMergeIntoSpecUptoRow.holds Try.pinned (OpenSpec.upto fnMergeIntoSpecSpec)

/-- 'n011_271.FnScopeMemberArraySwapUndoneByReverseSwap', WHERE WHAT IT READS IS OF BULK AT MOST 1048576: true; the input reads as it did. -/
def fnScopeMemberArraySwapUndoneByReverseSwapUptoRow : OpenClaim := { program := "ytkpdjdfebaaahaa", sum := "26a3699dfa4568a97c49d60edc8fc049441d8871db2745704016c20d43f8c46d", func := "github.com/evanw/esbuild/n011_271.FnScopeMemberArraySwapUndoneByReverseSwap", spec := "fnScopeMemberArraySwapUndoneByReverseSwap", plainKeys := false, apart := false, narrowed := true }
def FnScopeMemberArraySwapUndoneByReverseSwapUptoSaid : Prop := fnScopeMemberArraySwapUndoneByReverseSwapUptoRow.holds Try.pinned (OpenSpec.upto fnScopeMemberArraySwapUndoneByReverseSwapSpec)

end Rows
end Go.Proofs.Ytkpdjdfebaaahaa
