/-
  The statements that FnCaseBodyFallThroughWrapAndAppend builds, and what caseBodyCouldHaveFallThrough answers of a list by its last statement. Condition: at most 65537 statements.
-/
import Derived.Test.YtfjdpnjdikgofaaRowsI
import Derived.Lib.Hide
import Derived.Laws.Cover3
import Derived.WalkLawsBesides
import Derived.WalkSpells
import Derived.Laws.MakeOwn
import Derived.OwnWalk
import Derived.Laws.OwnMore
import Derived.Maps.AppendAt
import Derived.Outline
namespace Go.Proofs.Ytfjdpnjdikgofaa.Case
open Go.RowKit Go.ChangeShapes Go.WideShapes Go.ChangeAt Go.Proofs.Ytfjdpnjdikgofaa.Ints

theorem ta_ptr {P : Program} {T e : TypeId} (hT : P.underlying T = some (.pointer e)) (hz : ∀ w : World, (zeroValue T).run P w = .ok (.pointer none) w) (x t : TypeId) (v : Value) (w : World) :
    (Instr.typeAssert (.iface t v) x T true).run P w = .ok (if t = T then .tuple #[v, .bool true] else .tuple #[.pointer none, .bool false]) w := by
  by_cases h : t = T
  · simp [Instr.typeAssert, run_underlying hT, h]
  · simp [Instr.typeAssert, run_underlying hT, h, hz]
theorem ta_SBlock (t : TypeId) (v : Value) (w : World) : (Instr.typeAssert (.iface t v) 31 270 true).run Try.prog w = .ok (if t = 270 then .tuple #[v, .bool true] else .tuple #[.pointer none, .bool false]) w :=
  ta_ptr Try.underlying270 (fun _ => by kernel_rfl) _ _ _ _
theorem ta_SBreak (t : TypeId) (v : Value) (w : World) : (Instr.typeAssert (.iface t v) 31 324 true).run Try.prog w = .ok (if t = 324 then .tuple #[v, .bool true] else .tuple #[.pointer none, .bool false]) w :=
  ta_ptr Try.underlying324 (fun _ => by kernel_rfl) _ _ _ _
theorem ta_SContinue (t : TypeId) (v : Value) (w : World) : (Instr.typeAssert (.iface t v) 31 328 true).run Try.prog w = .ok (if t = 328 then .tuple #[v, .bool true] else .tuple #[.pointer none, .bool false]) w :=
  ta_ptr Try.underlying328 (fun _ => by kernel_rfl) _ _ _ _
theorem ta_SReturn (t : TypeId) (v : Value) (w : World) : (Instr.typeAssert (.iface t v) 31 273 true).run Try.prog w = .ok (if t = 273 then .tuple #[v, .bool true] else .tuple #[.pointer none, .bool false]) w :=
  ta_ptr Try.underlying273 (fun _ => by kernel_rfl) _ _ _ _
theorem ta_SThrow (t : TypeId) (v : Value) (w : World) : (Instr.typeAssert (.iface t v) 31 321 true).run Try.prog w = .ok (if t = 321 then .tuple #[v, .bool true] else .tuple #[.pointer none, .bool false]) w :=
  ta_ptr Try.underlying321 (fun _ => by kernel_rfl) _ _ _ _
def Leaf (t : TypeId) (r : Bool) : Prop := ((t = 324 ∨ t = 328 ∨ t = 273 ∨ t = 321) ∧ r = false) ∨ ((t = 289 ∨ t = 276) ∧ r = true)
/-- What the list s says by its last statement, blocks opened at most d times. -/
def Flat (w : World) (s : Value) (r : Bool) : Prop := (∃ o c, s = .slice o 0 c ∧ r = true) ∨ ∃ b n c t B, s = .slice (some ⟨b, 0, none⟩) (n + 1) c ∧ n ≤ 65537 ∧ w.cell? ⟨b, n * 2, none⟩ = some (.iface t (.pointer (some ⟨B, 0, none⟩))) ∧ Leaf t r
def Fall : Nat → World → Value → Bool → Prop
  | 0, w, s, r => Flat w s r
  | d + 1, w, s, r => Flat w s r ∨ ∃ b n c B s', s = .slice (some ⟨b, 0, none⟩) (n + 1) c ∧ n ≤ 65537 ∧ w.cell? ⟨b, n * 2, none⟩ = some (.iface 270 (.pointer (some ⟨B, 0, none⟩))) ∧ w.cell? ⟨B, 0, none⟩ = some s' ∧ Fall d w s' r
theorem Flat.below {w w' : World} {s : Value} {r : Bool} (h : Flat w s r) (hB : Below w.heap.size w w') : Flat w' s r := by
  rcases h with h | ⟨b, n, c, t, B, h1, h2, h3, h4⟩
  · exact .inl h
  · exact .inr ⟨b, n, c, t, B, h1, h2, (hB.cell (lt_of_cell h3)).trans h3, h4⟩
theorem Fall.below {w w' : World} (hB : Below w.heap.size w w') : ∀ {d : Nat} {s : Value} {r : Bool}, Fall d w s r → Fall d w' s r
  | 0, _, _, h => Flat.below h hB
  | d + 1, _, _, h => by
    rcases h with h | ⟨b, n, c, B, s', h1, h2, h3, h4, h5⟩
    · exact .inl (h.below hB)
    · exact .inr ⟨b, n, c, B, s', h1, h2, (hB.cell (lt_of_cell h3)).trans h3, (hB.cell (lt_of_cell h4)).trans h4, Fall.below hB h5⟩
theorem Fall.slice {w : World} : ∀ {d : Nat} {s : Value} {r : Bool}, Fall d w s r → ∃ o n c, s = .slice o n c
  | 0, _, _, h => by
    rcases h with ⟨o, c, h, _⟩ | ⟨b, n, c, t, B, h, _⟩
    · exact ⟨_, _, _, h⟩
    · exact ⟨_, _, _, h⟩
  | d + 1, _, _, h => by
    rcases h with (⟨o, c, h, _⟩ | ⟨b, n, c, t, B, h, _⟩) | ⟨b, n, c, B, s', h, _⟩
    · exact ⟨_, _, _, h⟩
    · exact ⟨_, _, _, h⟩
    · exact ⟨_, _, _, h⟩
theorem Fall.up {w : World} {d : Nat} {s : Value} {r : Bool} (h : Flat w s r) : Fall d w s r := by
  cases d with
  | zero => exact h
  | succ d => exact .inl h
set_option maxRecDepth 100000 in
set_option maxHeartbeats 2000000 in
theorem fall (d : Nat) (s : Value) (r : Bool) (w : World) (h : Fall d w s r) : Calls Try.prog 55 #[s] w fun e w' => e = .returned (.bool r) ∧ w = w' := by
  have t0 := ta_SBlock
  have t1 := ta_SBreak
  have t2 := ta_SContinue
  have t3 := ta_SReturn
  have t4 := ta_SThrow
  go_enter Try.func55, Try.ntmps55
  go_wp2_with fail
  go_loopg [0] d (fun gk u wr => w = wr ∧ Fall gk w u r)
  case atStart => exact ⟨rfl, h⟩
  case round =>
    clear h
    obtain ⟨rfl, h⟩ := hrel
    have flat : Flat w u0 r ∨ ∃ d', gk = d' + 1 ∧ ∃ b n c B s', u0 = .slice (some ⟨b, 0, none⟩) (n + 1) c ∧ n ≤ 65537 ∧ w.cell? ⟨b, n * 2, none⟩ = some (.iface 270 (.pointer (some ⟨B, 0, none⟩))) ∧ w.cell? ⟨B, 0, none⟩ = some s' ∧ Fall d' w s' r := by
      cases gk with
      | zero => exact .inl h
      | succ d' =>
        rcases h with h | h
        · exact .inl h
        · exact .inr ⟨d', rfl, h⟩
    clear h
    rcases flat with (⟨o, c, rfl, rfl⟩ | ⟨b, n, c, t, B, rfl, hn, hc, hL⟩) | ⟨d', rfl, b, n, c, B, s', rfl, hn, hc, hs, hF⟩
    · go_wp2_with fail
      go_ret
      exact ⟨rfl, rfl⟩
    · rcases hL with ⟨rfl | rfl | rfl | rfl, rfl⟩ | ⟨rfl | rfl, rfl⟩
      all_goals
        go_wp2_with fail
        go_ret
        exact ⟨rfl, rfl⟩
    · obtain ⟨o', n', c', rfl⟩ := hF.slice
      have hBl : B < w.heap.size := lt_of_cell hs
      replace hF := Lib.hid hF
      go_wp2_with fail
      go_roundg d'
      case measure => omega
      case rel => exact ⟨rfl, hF.out⟩
end Go.Proofs.Ytfjdpnjdikgofaa.Case
