/-
  No cell of these rows narrows 'for every input' (looked for: loops, veiled, ifaces, maps, wideKeys, modest, calm, conditions, laid).
  DERIVED. THE GIVEN ROWS OF THIS SEAT. 2 by the template 'for every input the law returns true; each argument reads behind the call as it read before'; 0 by the template 'total and deterministic' (their statements: YtfliibbhdfiloaaTotals.lean).
  GIVEN WITH THE SEED: the statements are not yours to turn. If you find one false, say at which input.
  Laid BY PROGRAM, IN A SANDBOX (cutbox-rows.mjs): the forced cells as the released guide's own fill.sh prints them over the translation 4712db45bcadcfa3… (all of the seat's roots in one cut). By AI agents, Wed Nov 11 2026. No macro, syntax, notation, axiom, sorry.
-/
import Derived.Test.YtfliibbhdfiloaaChecked
import GoSem.Claim
import GoSem.ClaimJoined
import GoSem.ClaimMapViews
import Derived.JoinedTies
import Derived.KernelRfl
namespace Go.Proofs.Ytfliibbhdfiloaa
/- THE CELL 'sum', in the pinned program and in every row, IS THE sha256 OF THE DUMP (.gsa) THAT YtfliibbhdfiloaaProg.lean LOADS. Nothing in Lean hashes anything: it is a label: what it is worth is what the hold of that sum in a sandbox is worth. -/
noncomputable def Try.pinned : Pinned := { name := "ytfliibbhdfiloaa", sum := "4712db45bcadcfa30e9fe8b790bccd1e00e8dad386de600df5d83e21badcdab4", checked := Try.checked }
namespace Rows
def none {H : Type} : Left H := { results := [], args := [] }

/-- 'n011_155.FnSerializerLeaveAnyRotationThenEnterAll': WHATEVER THE INPUT: true; the input reads as it did. -/
def fnSerializerLeaveAnyRotationThenEnterAllSpec : ChangeSpec := { name := "fnSerializerLeaveAnyRotationThenEnterAll", fn := fun _ => fun
  | [d1, d2, d3] => { results := [.lit (.bool true)], args := [d1, d2, d3] }
  | _ => none }
def fnSerializerLeaveAnyRotationThenEnterAllRow : OpenClaim := { program := "ytfliibbhdfiloaa", sum := "4712db45bcadcfa30e9fe8b790bccd1e00e8dad386de600df5d83e21badcdab4", func := "github.com/evanw/esbuild/n011_155.FnSerializerLeaveAnyRotationThenEnterAll", spec := "fnSerializerLeaveAnyRotationThenEnterAll", inPlace := ["(*sync.WaitGroup).Add", "internal/race.ReleaseMerge", "internal/race.Disable", "internal/race.Enable", "internal/synctest.IsInBubble", "internal/synctest.Associate[sync.WaitGroup]", "sync.fatal", "sync/atomic.OrUint64", "sync/atomic.AddUint64", "internal/race.Read", "sync/atomic.LoadUint64", "sync/atomic.StoreUint64", "internal/synctest.Disassociate[sync.WaitGroup]", "sync.runtime_Semrelease", "(*sync.WaitGroup).Wait", "internal/race.Acquire", "internal/synctest.IsAssociated[sync.WaitGroup]", "sync/atomic.CompareAndSwapUint64", "internal/race.Write", "sync.runtime_SemacquireWaitGroup", "(*sync.WaitGroup).Done"], apart := false }
def FnSerializerLeaveAnyRotationThenEnterAllSaid : Prop := fnSerializerLeaveAnyRotationThenEnterAllRow.holds Try.pinned (OpenSpec.ofChange fnSerializerLeaveAnyRotationThenEnterAllSpec)

/-- ITS FALSE NEIGHBOUR: 'it returns false'. Refute it at one input. -/
def fnSerializerLeaveAnyRotationThenEnterAllWrong : ChangeSpec := { name := "fnSerializerLeaveAnyRotationThenEnterAll", fn := fun _ => fun
  | [d1, d2, d3] => { results := [.lit (.bool false)], args := [d1, d2, d3] }
  | _ => none }
def FnSerializerLeaveAnyRotationThenEnterAllWrongFalsely : Prop := fnSerializerLeaveAnyRotationThenEnterAllRow.holds Try.pinned (OpenSpec.ofChange fnSerializerLeaveAnyRotationThenEnterAllWrong)

/-- 'n011_17.FnDoneAgreesWithAddMinusOne': WHATEVER THE INPUT: true; the input reads as it did. -/
def fnDoneAgreesWithAddMinusOneSpec : ChangeSpec := { name := "fnDoneAgreesWithAddMinusOne", fn := fun _ => fun
  | [d] => { results := [.lit (.bool true)], args := [d] }
  | _ => none }
def fnDoneAgreesWithAddMinusOneRow : OpenClaim := { program := "ytfliibbhdfiloaa", sum := "4712db45bcadcfa30e9fe8b790bccd1e00e8dad386de600df5d83e21badcdab4", func := "github.com/evanw/esbuild/n011_17.FnDoneAgreesWithAddMinusOne", spec := "fnDoneAgreesWithAddMinusOne", inPlace := ["sync/atomic.AddInt32"], apart := false }
def FnDoneAgreesWithAddMinusOneSaid : Prop := fnDoneAgreesWithAddMinusOneRow.holds Try.pinned (OpenSpec.ofChange fnDoneAgreesWithAddMinusOneSpec)

/-- ITS FALSE NEIGHBOUR: 'it returns false'. Refute it at one input. -/
def fnDoneAgreesWithAddMinusOneWrong : ChangeSpec := { name := "fnDoneAgreesWithAddMinusOne", fn := fun _ => fun
  | [d] => { results := [.lit (.bool false)], args := [d] }
  | _ => none }
def FnDoneAgreesWithAddMinusOneWrongFalsely : Prop := fnDoneAgreesWithAddMinusOneRow.holds Try.pinned (OpenSpec.ofChange fnDoneAgreesWithAddMinusOneWrong)

/- THE SECOND FORM. 'bulk': how many values and letters a reading holds, each counted each time it is reached (what is shared counts as often as it is met; a slice's spare places count too). A statement '..UptoSaid' is the law's where the arguments, and the package variables that the reading takes, are together of bulk at most 1048576: NARROWER than '..Said'. Prove '..Said' where nothing that the law and all that it calls make is longer than what came in: it says more and counts as full. Else prove '..UptoSaid'. A law counts once. -/
mutual
def uptoBulk {H : Type} : DataW H → Nat
  | .lit (.string bytes) => bytes.length + 1
  | .lit _ => 1
  | .nil => 1
  | .ptr d => uptoBulk d + 1
  | .slice elems spare => uptoBulkAll elems + uptoBulkAll spare + 1
  | .agg parts => uptoBulkAll parts + 1
  | .iface _ d => uptoBulk d + 1
  | .map entries => uptoBulkEntries entries + 1
  | .held _ => 1
def uptoBulkAll {H : Type} : List (DataW H) → Nat
  | [] => 0
  | d :: r => uptoBulk d + uptoBulkAll r
def uptoBulkEntries {H : Type} : List (Lit × DataW H) → Nat
  | [] => 0
  | x :: r => uptoBulkEntry x + uptoBulkEntries r
def uptoBulkEntry {H : Type} : Lit × DataW H → Nat
  | (.string bytes, d) => bytes.length + uptoBulk d + 1
  | (_, d) => uptoBulk d + 1
 end
def uptoSmall : (H : Type) → List (DataW H) → Bool := fun _ ds => decide (uptoBulkAll ds ≤ 1048576)
def OpenSpec.upto (s : _root_.Go.ChangeSpec) : _root_.Go.OpenSpec := { _root_.Go.OpenSpec.ofChange s with cond := some uptoSmall }

/-- 'n011_155.FnSerializerLeaveAnyRotationThenEnterAll', WHERE WHAT IT READS IS OF BULK AT MOST 1048576: true; the input reads as it did. -/
def fnSerializerLeaveAnyRotationThenEnterAllUptoRow : OpenClaim := { program := "ytfliibbhdfiloaa", sum := "4712db45bcadcfa30e9fe8b790bccd1e00e8dad386de600df5d83e21badcdab4", func := "github.com/evanw/esbuild/n011_155.FnSerializerLeaveAnyRotationThenEnterAll", spec := "fnSerializerLeaveAnyRotationThenEnterAll", inPlace := ["(*sync.WaitGroup).Add", "internal/race.ReleaseMerge", "internal/race.Disable", "internal/race.Enable", "internal/synctest.IsInBubble", "internal/synctest.Associate[sync.WaitGroup]", "sync.fatal", "sync/atomic.OrUint64", "sync/atomic.AddUint64", "internal/race.Read", "sync/atomic.LoadUint64", "sync/atomic.StoreUint64", "internal/synctest.Disassociate[sync.WaitGroup]", "sync.runtime_Semrelease", "(*sync.WaitGroup).Wait", "internal/race.Acquire", "internal/synctest.IsAssociated[sync.WaitGroup]", "sync/atomic.CompareAndSwapUint64", "internal/race.Write", "sync.runtime_SemacquireWaitGroup", "(*sync.WaitGroup).Done"], apart := false, narrowed := true }
def FnSerializerLeaveAnyRotationThenEnterAllUptoSaid : Prop := fnSerializerLeaveAnyRotationThenEnterAllUptoRow.holds Try.pinned (OpenSpec.upto fnSerializerLeaveAnyRotationThenEnterAllSpec)

/-- 'n011_17.FnDoneAgreesWithAddMinusOne', WHERE WHAT IT READS IS OF BULK AT MOST 1048576: true; the input reads as it did. -/
def fnDoneAgreesWithAddMinusOneUptoRow : OpenClaim := { program := "ytfliibbhdfiloaa", sum := "4712db45bcadcfa30e9fe8b790bccd1e00e8dad386de600df5d83e21badcdab4", func := "github.com/evanw/esbuild/n011_17.FnDoneAgreesWithAddMinusOne", spec := "fnDoneAgreesWithAddMinusOne", inPlace := ["sync/atomic.AddInt32"], apart := false, narrowed := true }
def FnDoneAgreesWithAddMinusOneUptoSaid : Prop := fnDoneAgreesWithAddMinusOneUptoRow.holds Try.pinned (OpenSpec.upto fnDoneAgreesWithAddMinusOneSpec)

end Rows
end Go.Proofs.Ytfliibbhdfiloaa
