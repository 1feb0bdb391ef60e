/-
  maybeMarkKnownGlobalConstructorAsPure over a node whose parts are known: there is one answer q, whatever the flag was, and the flag becomes 'flag or q'; nothing else turns. No condition beyond the ones stated.
-/
import Derived.Test.YtihpdmoonddjmaaRowsI
import Derived.Lib.Hide
import Derived.Laws.Cover3
import Derived.WalkLawsBesides
import Derived.WalkSpells
import Derived.Laws.EntriesVeiled
import Derived.Laws.AppendOwn
import Derived.RegionTactic
import Derived.Deep.RegionHeld3
import Derived.Deep.DeepCutAuto
import Derived.Outline
namespace Go.Proofs.Ytihpdmoonddjmaa.Pure
open Go.RowKit Go.Proofs.Ytihpdmoonddjmaa.Ints

/-- A type assertion to a pointer type. -/
theorem ta_ptr {P : Program} {T e : TypeId} (hT : P.underlying T = some (.pointer e)) (hz : ∀ w : World, (zeroValue T).run P w = .ok (.pointer none) w) (x t : TypeId) (v : Value) (w : World) :
    (Instr.typeAssert (.iface t v) x T true).run P w = .ok (if t = T then .tuple #[v, .bool true] else .tuple #[.pointer none, .bool false]) w := by
  by_cases h : t = T
  · simp [Instr.typeAssert, run_underlying hT, h]
  · simp [Instr.typeAssert, run_underlying hT, h, hz]
theorem ta_EAnnotation (t : TypeId) (v : Value) (w : World) : (Instr.typeAssert (.iface t v) 37 338 true).run Try.prog w = .ok (if t = 338 then .tuple #[v, .bool true] else .tuple #[.pointer none, .bool false]) w :=
  ta_ptr Try.underlying338 (fun _ => by kernel_rfl) _ _ _ _
theorem ta_EInlinedEnum (t : TypeId) (v : Value) (w : World) : (Instr.typeAssert (.iface t v) 37 342 true).run Try.prog w = .ok (if t = 342 then .tuple #[v, .bool true] else .tuple #[.pointer none, .bool false]) w :=
  ta_ptr Try.underlying342 (fun _ => by kernel_rfl) _ _ _ _
theorem ta_ENull (t : TypeId) (v : Value) (w : World) : (Instr.typeAssert (.iface t v) 37 294 true).run Try.prog w = .ok (if t = 294 then .tuple #[v, .bool true] else .tuple #[.pointer none, .bool false]) w :=
  ta_ptr Try.underlying294 (fun _ => by kernel_rfl) _ _ _ _
theorem ta_EUndefined (t : TypeId) (v : Value) (w : World) : (Instr.typeAssert (.iface t v) 37 296 true).run Try.prog w = .ok (if t = 296 then .tuple #[v, .bool true] else .tuple #[.pointer none, .bool false]) w :=
  ta_ptr Try.underlying296 (fun _ => by kernel_rfl) _ _ _ _
theorem ta_EBoolean (t : TypeId) (v : Value) (w : World) : (Instr.typeAssert (.iface t v) 37 298 true).run Try.prog w = .ok (if t = 298 then .tuple #[v, .bool true] else .tuple #[.pointer none, .bool false]) w :=
  ta_ptr Try.underlying298 (fun _ => by kernel_rfl) _ _ _ _
theorem ta_ENumber (t : TypeId) (v : Value) (w : World) : (Instr.typeAssert (.iface t v) 37 301 true).run Try.prog w = .ok (if t = 301 then .tuple #[v, .bool true] else .tuple #[.pointer none, .bool false]) w :=
  ta_ptr Try.underlying301 (fun _ => by kernel_rfl) _ _ _ _
theorem ta_EString (t : TypeId) (v : Value) (w : World) : (Instr.typeAssert (.iface t v) 37 304 true).run Try.prog w = .ok (if t = 304 then .tuple #[v, .bool true] else .tuple #[.pointer none, .bool false]) w :=
  ta_ptr Try.underlying304 (fun _ => by kernel_rfl) _ _ _ _
theorem ta_EBigInt (t : TypeId) (v : Value) (w : World) : (Instr.typeAssert (.iface t v) 37 310 true).run Try.prog w = .ok (if t = 310 then .tuple #[v, .bool true] else .tuple #[.pointer none, .bool false]) w :=
  ta_ptr Try.underlying310 (fun _ => by kernel_rfl) _ _ _ _
theorem ta_ETemplate (t : TypeId) (v : Value) (w : World) : (Instr.typeAssert (.iface t v) 37 345 true).run Try.prog w = .ok (if t = 345 then .tuple #[v, .bool true] else .tuple #[.pointer none, .bool false]) w :=
  ta_ptr Try.underlying345 (fun _ => by kernel_rfl) _ _ _ _
theorem ta_EIf (t : TypeId) (v : Value) (w : World) : (Instr.typeAssert (.iface t v) 37 349 true).run Try.prog w = .ok (if t = 349 then .tuple #[v, .bool true] else .tuple #[.pointer none, .bool false]) w :=
  ta_ptr Try.underlying349 (fun _ => by kernel_rfl) _ _ _ _
theorem ta_EUnary (t : TypeId) (v : Value) (w : World) : (Instr.typeAssert (.iface t v) 37 353 true).run Try.prog w = .ok (if t = 353 then .tuple #[v, .bool true] else .tuple #[.pointer none, .bool false]) w :=
  ta_ptr Try.underlying353 (fun _ => by kernel_rfl) _ _ _ _
theorem ta_EBinary (t : TypeId) (v : Value) (w : World) : (Instr.typeAssert (.iface t v) 37 357 true).run Try.prog w = .ok (if t = 357 then .tuple #[v, .bool true] else .tuple #[.pointer none, .bool false]) w :=
  ta_ptr Try.underlying357 (fun _ => by kernel_rfl) _ _ _ _
theorem ta_EArray (t : TypeId) (v : Value) (w : World) : (Instr.typeAssert (.iface t v) 37 307 true).run Try.prog w = .ok (if t = 307 then .tuple #[v, .bool true] else .tuple #[.pointer none, .bool false]) w :=
  ta_ptr Try.underlying307 (fun _ => by kernel_rfl) _ _ _ _
theorem ta_EIdentifier (t : TypeId) (v : Value) (w : World) : (Instr.typeAssert (.iface t v) 37 64 true).run Try.prog w = .ok (if t = 64 then .tuple #[v, .bool true] else .tuple #[.pointer none, .bool false]) w :=
  ta_ptr Try.underlying64 (fun _ => by kernel_rfl) _ _ _ _
def Kind8 (t : TypeId) : Prop := t = 294 ∨ t = 296 ∨ t = 298 ∨ t = 301 ∨ t = 304 ∨ t = 307 ∨ t = 64 ∨ t = 310
def prim (t : TypeId) : Int := if t = 294 then 2 else if t = 296 then 3 else if t = 298 then 4 else if t = 301 then 5 else if t = 304 then 6 else if t = 310 then 7 else 0
set_option maxRecDepth 100000 in
set_option maxHeartbeats 2000000 in
theorem known (t : TypeId) (h : Kind8 t) (a : Addr) (w : World) : Calls Try.prog 56 #[.iface t (.pointer (some a))] w fun e w' => e = .returned (.int .u8 (prim t)) ∧ w = w' := by
  have h0 := ta_EAnnotation
  have h1 := ta_EInlinedEnum
  have h2 := ta_ENull
  have h3 := ta_EUndefined
  have h4 := ta_EBoolean
  have h5 := ta_ENumber
  have h6 := ta_EString
  have h7 := ta_EBigInt
  have h8 := ta_ETemplate
  have h9 := ta_EIf
  have h10 := ta_EUnary
  have h11 := ta_EBinary
  have h12 := ta_EArray
  have h13 := ta_EIdentifier
  rcases h with rfl | rfl | rfl | rfl | rfl | rfl | rfl | rfl
  all_goals
    go_enter Try.func56, Try.ntmps56
    go_wp2
    go_ret
    exact ⟨rfl, rfl⟩
end Go.Proofs.Ytihpdmoonddjmaa.Pure
