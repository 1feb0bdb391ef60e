/-
  Contracts for FnPrivateLoweringDistributesOverUnsupportedUnion: what privateSymbolNeedsToBeLowered gives for a private kind. No other condition.
-/
import Derived.Test.YtkpdjdfebaaahaaRows
import Derived.WalkKit
import Derived.Below
import Derived.WalkLawsBesides
import Derived.WalkSpells
import Derived.Lib.Hide
import Derived.BigQuiet
import Derived.Deep.QuietTactic
import Derived.Laws.BitsAllLaws
import Derived.Great.BuildSlice
namespace Go.Proofs.Ytkpdjdfebaaahaa.fnPrivateLoweringDistributesOverUnsupportedUnion
open Go.RowKit

def feat (k : Int) : Int := if k = 8 then 1024 else if k = 9 then 2048 else if k ≤ 12 then 256 else if k = 13 then 8192 else if k = 14 then 16384 else 4096
theorem feature (k : Int) (h1 : 8 ≤ k) (h2 : k ≤ 17) (w : World) : Calls Try.prog 48 #[.int .u8 k] w fun e w' => e = .returned (.int .u64 (feat k)) ∧ w = w' := by
  have : k = 8 ∨ k = 9 ∨ k = 10 ∨ k = 11 ∨ k = 12 ∨ k = 13 ∨ k = 14 ∨ k = 15 ∨ k = 16 ∨ k = 17 := by omega
  rcases this with rfl | rfl | rfl | rfl | rfl | rfl | rfl | rfl | rfl | rfl
  all_goals
    clear h1 h2
    go_enter Try.func48, Try.ntmps48
    go_wp2
    go_ret
    exact ⟨rfl, rfl⟩
theorem hasJ (a b : Int) (r : Bool) (hr : (bits .and .u64 a b != 0) = r) (w : World) : Calls Try.prog 47 #[.int .u64 a, .int .u64 b] w fun e w' => e = .returned (.bool r) ∧ w = w' := by
  subst hr
  go_enter Try.func47, Try.ntmps47
  go_wp2
  go_ret
  exact ⟨rfl, rfl⟩
theorem hasF (a b : Int) (w : World) : Calls Try.prog 49 #[.int .u16 a, .int .u16 b] w fun e w' => e = .returned (.bool (bits .and .u16 a b != 0)) ∧ w = w' := by
  go_enter Try.func49, Try.ntmps49
  go_wp2
  go_ret
  exact ⟨rfl, rfl⟩
def low (k f u : Int) : Bool := (bits .and .u64 u (feat k) != 0) || (bits .and .u16 f 8 != 0)

set_option maxHeartbeats 1000000 in
theorem needs (P Q S : Nat) (k f u : Int) (h1 : 8 ≤ k) (h2 : k ≤ 17) (w : World) (c1 : w.cell? ⟨P, 106, none⟩ = some (.slice (some ⟨S, 0, none⟩) 1 1)) (c2 : w.cell? ⟨Q, 1, none⟩ = some (.int .u32 0)) (c3 : w.cell? ⟨P, 23, none⟩ = some (.int .u64 u))
    (c4 : w.cell? ⟨S, 8, none⟩ = some (.int .u8 k)) (c5 : w.cell? ⟨S, 7, none⟩ = some (.int .u16 f)) :
    Calls Try.prog 39 #[.pointer (some ⟨P, 0, none⟩), .pointer (some ⟨Q, 0, none⟩)] w fun e w' => e = .returned (.bool (low k f u)) ∧ Below w.heap.size w w' := by
  cases hb : (bits .and .u64 u (feat k) != 0)
  all_goals
    have HB := Lib.hid hb
    clear hb
    go_enter Try.func39, Try.ntmps39
    go_wp2_with fail
    go_quiet (fail)
    obtain ⟨W, hW⟩ : ∃ W, W = w.drewN nq := ⟨_, rfl⟩
    have hB : Below w.heap.size w W := by rw [hW]; exact below_drewN (Below.refl _ _) _
    have d3 : W.cell? ⟨P, 23, none⟩ = some (.int .u64 u) := by rw [hW]; exact c3
    have d4 : W.cell? ⟨S, 8, none⟩ = some (.int .u8 k) := by rw [hW]; exact c4
    have d5 : W.cell? ⟨S, 7, none⟩ = some (.int .u16 f) := by rw [hW]; exact c5
    rw [← hW]
    clear hW c1 c2 c3 c4 c5
    go_wp2_with fail
    go_quiet ((first | (go_at_call 48; exact Calls.quiet_of_same ((feature _ h1 h2 _).mono fun _ _ h => ⟨h.1, h.2.symm⟩)) | (go_at_call 47; exact Calls.quiet_of_same ((hasJ _ _ _ HB.out _).mono fun _ _ h => ⟨h.1, h.2.symm⟩)) | (go_at_call 49; exact Calls.quiet_of_same ((hasF _ _ _).mono fun _ _ h => ⟨h.1, h.2.symm⟩))))
    go_wp2_with fail
    go_ret
    refine ⟨congrArg (fun b => Ending.returned (.bool b)) ?_, below_drewN hB _⟩
    unfold low
    rw [HB.out]
    rfl

/-- What is known of the parser that the export builds. -/
theorem parser_cells (a : Option Addr) (l c : Nat) : ∃ C : Array Value, Try.prog.built 199 [(9, .slice a l c)] = some C ∧ C.size = 353 ∧ C[106]? = some (.slice a l c) ∧ C[23]? = some (.int .u64 0) := by
  have h1 : (Try.prog.built 199 [(9, .slice a l c)]).isSome = true := by kernel_rfl
  obtain ⟨C, hC⟩ := Option.isSome_iff_exists.1 h1
  have h2 : (Try.prog.built 199 [(9, .slice a l c)]).map (·.size) = some 353 := by kernel_rfl
  have h3 : (Try.prog.built 199 [(9, .slice a l c)]).bind (·[106]?) = some (.slice a l c) := by kernel_rfl
  have h4 : (Try.prog.built 199 [(9, .slice a l c)]).bind (·[23]?) = some (.int .u64 0) := by kernel_rfl
  rw [hC] at h2 h3 h4
  exact ⟨C, hC, by simpa using h2, h3, h4⟩

end Go.Proofs.Ytkpdjdfebaaahaa.fnPrivateLoweringDistributesOverUnsupportedUnion
