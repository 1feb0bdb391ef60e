/-
  The contracts of the wrapper F64: NewF64, Value and the arithmetic methods. No condition.
-/
import Derived.Test.YtknidlahblfnnaaDoorRows
import Derived.Test.YtknidlahblfnnaaDoorFl
import Derived.BigQuiet
import Derived.Laws.ResultCell
namespace Go.Proofs.YtknidlahblfnnaaDoor.F64
open Go.RowKit Fl

def GivesF (p : Nat → Prop) (w : World) (e : Ending) (w' : World) : Prop := ∃ r, p r ∧ e = .returned (.agg #[.float .f64 r]) ∧ Below w.heap.size w w'

theorem newF64 (x : Nat) (w : World) : Calls Tryd.prog 4 #[.float .f64 x] w fun e w' => e = .returned (.agg #[.float .f64 x]) ∧ w.alloc (.cells #[.float .f64 x] 24) = w' := by
  go_enter Tryd.func4, Tryd.ntmps4
  go_wp2
  exact bodyPost_ret (v := .agg #[.float .f64 x]) (by simp [results, Tryd.results4, go_sem]) rfl ⟨rfl, rfl⟩

theorem value (x : Nat) (w : World) : Calls Tryd.prog 6 #[.agg #[.float .f64 x]] w fun e w' => e = .returned (.float .f64 x) ∧ w.alloc (.cells #[.float .f64 x] 24) = w' := by
  go_enter Tryd.func6, Tryd.ntmps6
  go_wp2
  go_ret
  exact ⟨rfl, rfl⟩








end Go.Proofs.YtknidlahblfnnaaDoor.F64
