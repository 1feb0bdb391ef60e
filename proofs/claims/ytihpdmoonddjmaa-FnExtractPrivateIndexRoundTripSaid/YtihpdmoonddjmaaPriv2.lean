/-
  Contracts: what extractPrivateIndex answers over a parser whose unsupported features are none, and the parser that is built. No condition beyond the ones stated.
-/
import Derived.Test.YtihpdmoonddjmaaPriv
namespace Go.Proofs.Ytihpdmoonddjmaa.Priv
open Go.RowKit Go.Proofs.Ytihpdmoonddjmaa.Ints

def Kinds (k : Int) : Prop := (8 ≤ k ∧ k ≤ 17) ∨ k = 27
def feat (k : Int) : Int := if k = 27 then 0 else if k = 8 then 1024 else if k = 9 then 2048 else if k ≤ 12 then 256 else if k = 13 then 8192 else if k = 14 then 16384 else 4096
theorem kinds_cases {k : Int} (h : Kinds k) : k = 8 ∨ k = 9 ∨ k = 10 ∨ k = 11 ∨ k = 12 ∨ k = 13 ∨ k = 14 ∨ k = 15 ∨ k = 16 ∨ k = 17 ∨ k = 27 := by unfold Kinds at h; omega
theorem feature (k : Int) (h : Kinds k) (w : World) : Calls Try.prog 60 #[.int .u8 k] w fun e w' => e = .returned (.int .u64 (feat k)) ∧ w = w' := by
  rcases kinds_cases h with rfl | rfl | rfl | rfl | rfl | rfl | rfl | rfl | rfl | rfl | rfl
  all_goals
    clear h
    go_enter Try.func60, Try.ntmps60
    go_wp2
    go_ret
    exact ⟨rfl, rfl⟩
theorem feat_none (k : Int) (h : Kinds k) : (bits .and .u64 0 (feat k) != 0) = false := by
  rcases kinds_cases h with rfl | rfl | rfl | rfl | rfl | rfl | rfl | rfl | rfl | rfl | rfl <;> decide +kernel
theorem hasJ (a b : Int) (r : Bool) (hr : (bits .and .u64 a b != 0) = r) (w : World) : Calls Try.prog 54 #[.int .u64 a, .int .u64 b] w fun e w' => e = .returned (.bool r) ∧ w = w' := by
  subst hr
  go_enter Try.func54, Try.ntmps54
  go_wp2
  go_ret
  exact ⟨rfl, rfl⟩
theorem hasF (m : Bool) (w : World) : Calls Try.prog 61 #[.int .u16 (cond m 8 0), .int .u16 8] w fun e w' => e = .returned (.bool m) ∧ w = w' := by
  have h : (bits .and .u16 (cond m 8 0) 8 != 0) = m := by cases m <;> decide +kernel
  have H := Lib.hid h
  clear h
  go_enter Try.func61, Try.ntmps61
  go_wp2
  go_ret
  exact ⟨by rw [H.out]; rfl, rfl⟩

set_option maxHeartbeats 1000000 in
theorem needs (P Q S : Nat) (k : Int) (m : Bool) (hk : Kinds k) (w : World) (c1 : w.cell? ⟨P, 106, none⟩ = some (.slice (some ⟨S, 0, none⟩) 9 9)) (c2 : w.cell? ⟨Q, 1, none⟩ = some (.int .u32 0)) (c3 : w.cell? ⟨P, 23, none⟩ = some (.int .u64 0))
    (c4 : w.cell? ⟨S, 8, none⟩ = some (.int .u8 k)) (c5 : w.cell? ⟨S, 7, none⟩ = some (.int .u16 (cond m 8 0))) :
    Calls Try.prog 53 #[.pointer (some ⟨P, 0, none⟩), .pointer (some ⟨Q, 0, none⟩)] w fun e w' => e = .returned (.bool m) ∧ Below w.heap.size w w' := by
  have HB := Lib.hid (feat_none k hk)
  replace hk := Lib.hid hk
  go_enter Try.func53, Try.ntmps53
  go_wp2_with fail
  go_quiet (fail)
  obtain ⟨W, hW⟩ : ∃ W, W = w.drewN nq := ⟨_, rfl⟩
  have hB : Below w.heap.size w W := by rw [hW]; exact below_drewN (Below.refl _ _) _
  have d3 : W.cell? ⟨P, 23, none⟩ = some (.int .u64 0) := by rw [hW]; exact c3
  have d4 : W.cell? ⟨S, 8, none⟩ = some (.int .u8 k) := by rw [hW]; exact c4
  have d5 : W.cell? ⟨S, 7, none⟩ = some (.int .u16 (cond m 8 0)) := by rw [hW]; exact c5
  rw [← hW]
  clear hW c1 c2 c3 c4 c5
  go_wp2_with fail
  go_quiet ((first | (go_at_call 60; exact Calls.quiet_of_same ((feature _ hk.out _).mono fun _ _ h => ⟨h.1, h.2.symm⟩)) | (go_at_call 54; exact Calls.quiet_of_same ((hasJ _ _ _ HB.out _).mono fun _ _ h => ⟨h.1, h.2.symm⟩)) | (go_at_call 61; exact Calls.quiet_of_same ((hasF _ _).mono fun _ _ h => ⟨h.1, h.2.symm⟩))))
  go_wp2_with fail
  go_ret
  exact ⟨rfl, below_drewN hB _⟩
end Go.Proofs.Ytihpdmoonddjmaa.Priv
