/-
  The relocation law's small functions: the size check, the mode, a location, Assign, JoinWithComma, StopsHoisting. Condition: lengths.
-/
import Derived.Test.YtdiedidmjpihjaaRlLaw
import Derived.Test.YtdiedidmjpihjaaBools
import Derived.Test.YtdiedidmjpihjaaBuild2
import Derived.Test.YtdiedidmjpihjaaBut
import Derived.LoopN
import Derived.Deep.LoopGhost
import Derived.BigQuiet
import Derived.BigRegion
import Derived.Deep.QuietTactic
import Derived.Deep.Draws
namespace Go.Proofs.Ytdiedidmjpihjaa.Rl
open Go.RowKit Go.ChangeShapes Go.WideShapes Go.ChangeAt Go.Proofs.Ytdiedidmjpihjaa.Ints

def SomeBool (w : World) (e : Ending) (w' : World) : Prop := ∃ r : Bool, e = .returned (.bool r) ∧ w = w'
set_option maxRecDepth 20000 in
set_option maxHeartbeats 4000000 in
theorem bytes (x d : Value) (o1 o2 o3 o4 : Option Addr) (n1 n2 n3 n4 c1 c2 c3 c4 : Nat) (y : Value) (w : World) (h1 : n1 ≤ maxLen) (h2 : n2 ≤ maxLen) (h3 : n3 ≤ maxLen) (h4 : n4 ≤ maxLen) :
    Calls Try.prog 4 #[x, d, .slice o1 n1 c1, .slice o2 n2 c2, .slice o3 n3 c3, .slice o4 n4 c4, y] w (SomeBool w) := by
  unfold maxLen at h1 h2 h3 h4
  by_cases p1 : (1048576 : Int) < (n1 : Int)
  · go_enter Try.func4, Try.ntmps4
    go_wp2_with fail
    go_ret
    exact ⟨_, rfl, rfl⟩
  by_cases p2 : (1048576 : Int) < (n2 : Int)
  · go_enter Try.func4, Try.ntmps4
    go_wp2_with fail
    go_ret
    exact ⟨_, rfl, rfl⟩
  by_cases p3 : (1048576 : Int) < (n3 : Int)
  · go_enter Try.func4, Try.ntmps4
    go_wp2_with fail
    all_goals
      go_ret
      exact ⟨_, rfl, rfl⟩
  by_cases p4 : (1048576 : Int) < (n4 : Int)
  · go_enter Try.func4, Try.ntmps4
    go_wp2_with fail
    all_goals
      go_ret
      exact ⟨_, rfl, rfl⟩
  go_enter Try.func4, Try.ntmps4
  go_wp2_with fail
  all_goals
    go_ret
    exact ⟨_, rfl, rfl⟩
theorem mode (x : Int) (h0 : 0 ≤ x) (h1 : x ≤ 255) (w : World) : Calls Try.prog 12 #[.int .u8 x] w fun e w' => e = .returned (.int .u8 (x % 3)) ∧ w = w' := by
  rcases (show x % 3 = 0 ∨ x % 3 = 1 ∨ x % 3 = 2 by omega) with h | h | h
  · have hm : x.tmod 3 = 0 := by rw [Int.tmod_eq_emod_of_nonneg h0]; exact h
    go_enter Try.func12, Try.ntmps12
    go_wp2_with fail
    go_ret
    exact ⟨by rw [h]; rfl, rfl⟩
  · have hm : x.tmod 3 = 1 := by rw [Int.tmod_eq_emod_of_nonneg h0]; exact h
    go_enter Try.func12, Try.ntmps12
    go_wp2_with fail
    go_ret
    exact ⟨by rw [h]; rfl, rfl⟩
  · have hm : x.tmod 3 = 2 := by rw [Int.tmod_eq_emod_of_nonneg h0]; exact h
    go_enter Try.func12, Try.ntmps12
    go_wp2_with fail
    go_ret
    exact ⟨by rw [h]; rfl, rfl⟩
/-- A location: of the list, or the number itself. -/
def lc (m : Nat) (g : Nat → Int) (k : Nat) : Int := if k < m then g k else k
theorem raw (o : Option Addr) (m cap k : Nat) (g : Nat → Int) (w : World) (hI : IntsAt .i32 w o m g) (hm : m ≤ 65536) (hk : k ≤ 65536) :
    Calls Try.prog 10 #[.slice o m cap, .int .i64 k] w fun e w' => e = .returned (.int .i32 (lc m g k)) ∧ w' = w := by
  rcases Nat.lt_or_ge k m with h | h
  · have hl : lc m g k = g k := if_pos h
    rcases hI with h0 | ⟨b, off, rfl, _, hc⟩
    · omega
    · have h1 := hc k h
      clear hc
      go_enter Try.func10, Try.ntmps10
      go_wp2_with fail
      go_ret
      exact ⟨by rw [hl]; rfl, rfl⟩
  · have hl : lc m g k = k := if_neg (by omega)
    have hc : IntKind.i32.wrap (k : Int) = (k : Int) := by simp [IntKind.wrap, IntKind.bits, IntKind.signed]; omega
    replace hI := Lib.hid hI
    go_enter Try.func10, Try.ntmps10
    go_wp2_with fail
    go_ret
    exact ⟨by rw [hl]; rfl, rfl⟩
def Ex (l : Int) (v : Value) : Value := .agg #[v, .int .i32 l]
/-- An expression that is there, at l. -/
def SomeAt (l : Int) (w : World) (e : Ending) (w' : World) : Prop := ∃ t p, e = .returned (.agg #[.iface t p, .int .i32 l]) ∧ Below w.heap.size w w'
theorem b3 (w : World) (x y z : Obj) : Below w.heap.size w (((w.alloc x).alloc y).alloc z) := (((Below.refl _ _).alloc (Nat.le_refl _) _).alloc (by simp) _).alloc (by simp; omega) _
theorem b4 (w : World) (x y z u : Obj) : Below w.heap.size w ((((w.alloc x).alloc y).alloc z).alloc u) := (b3 w x y z).alloc (by simp; omega) _
set_option maxRecDepth 20000 in
theorem assign (a b : Value) (l m : Int) (w : World) : Calls Try.prog 19 #[.agg #[a, .int .i32 l], .agg #[b, .int .i32 m]] w (SomeAt l w) := by
  go_enter Try.func19, Try.ntmps19
  go_wp2_with fail
  exact bodyPost_ret (v := .agg #[.iface 251 (.pointer (some ⟨w.heap.size + 1 + 1 + 1, 0, none⟩)), .int .i32 l]) (by simp [results, Try.results19, go_sem]) rfl ⟨_, _, rfl, b4 _ _ _ _ _⟩
set_option maxRecDepth 20000 in
theorem join0 (x : Value) (t : TypeId) (p : Value) (m : Int) (w : World) : Calls Try.prog 18 #[.agg #[.nilIface, x], .agg #[.iface t p, .int .i32 m]] w (SomeAt m w) := by
  go_enter Try.func18, Try.ntmps18
  go_wp2_with fail
  exact bodyPost_ret (v := .agg #[.iface t p, .int .i32 m]) (by simp [results, Try.results18, go_sem]) rfl ⟨_, _, rfl, b3 _ _ _ _⟩
set_option maxRecDepth 20000 in
theorem join1 (s : TypeId) (q : Value) (l : Int) (t : TypeId) (p : Value) (m : Int) (w : World) : Calls Try.prog 18 #[.agg #[.iface s q, .int .i32 l], .agg #[.iface t p, .int .i32 m]] w (SomeAt l w) := by
  go_enter Try.func18, Try.ntmps18
  go_wp2_with fail
  exact bodyPost_ret (v := .agg #[.iface 251 (.pointer (some ⟨w.heap.size + 1 + 1 + 1, 0, none⟩)), .int .i32 l]) (by simp [results, Try.results18, go_sem]) rfl ⟨_, _, rfl, b4 _ _ _ _ _⟩
theorem stops (k : Int) (w : World) : Calls Try.prog 14 #[.int .u8 k] w fun e w' => e = .returned (.bool (decide (6 ≤ k))) ∧ w' = w := by
  go_enter Try.func14, Try.ntmps14
  go_wp2_with fail
  go_ret
  exact ⟨by simp, rfl⟩
end Go.Proofs.Ytdiedidmjpihjaa.Rl
