/-
  The walk of FnFieldOrAccessorOrderChain: it returns true for every two bytes. No condition beyond a byte's range.
-/
import Derived.Test.YtkpdjdfebaaahaaRows
import Derived.WalkKit
import Derived.Below
import Derived.WalkLawsBesides
import Derived.Lib.Hide
namespace Go.Proofs.Ytkpdjdfebaaahaa.fnFieldOrAccessorOrderChain
open Go.RowKit

theorem has (a b : Int) (r : Bool) (hr : (bits .and .u8 a b != 0) = r) (w : World) : Calls Try.prog 50 #[.int .u8 a, .int .u8 b] w fun e w' => e = .returned (.bool r) ∧ w = w' := by
  subst hr
  go_enter Try.func50, Try.ntmps50
  go_wp2
  go_ret
  exact ⟨rfl, rfl⟩

def ord (k : Int) (r : Bool) : Int := if k = 4 then (if r then 0 else 1) else (if r then 2 else 3)
theorem order (k a : Int) (hk : k = 4 ∨ k = 0) (r : Bool) (hr : (bits .and .u8 a 2 != 0) = r) (w : World) : Calls Try.prog 40 #[.int .u8 k, .int .u8 a] w fun e w' => e = .returned (.tuple #[.int .i64 (ord k r), .bool true]) ∧ w = w' := by
  replace hr := Lib.hid hr
  rcases hk with rfl | rfl <;> cases r
  all_goals
    go_enter Try.func40, Try.ntmps40
    go_wp2_with (go_at_call 50; refine (has _ _ _ hr.out _).mono ?_; rintro e w' ⟨rfl, rfl⟩)
    go_ret2
    exact ⟨rfl, rfl⟩
theorem zorder (k a : Int) (hk : k = 4 ∨ k = 0) (r : Bool) (hr : (bits .and .u8 a 2 != 0) = r) (w : World) : Calls Try.prog 22 #[.int .u8 k, .int .u8 a] w fun e w' => e = .returned (.tuple #[.int .i64 (ord k r), .bool true]) ∧ w = w' := by
  replace hr := Lib.hid hr
  replace hk := Lib.hid hk
  go_enter Try.func22, Try.ntmps22
  go_wp2_with (go_at_call 40; refine (order _ _ hk.out _ hr.out _).mono ?_; rintro e w' ⟨rfl, rfl⟩)
  go_ret2
  exact ⟨rfl, rfl⟩

theorem or_all : ∀ f : Fin 256, (bits .and .u8 (bits .or .u8 (f.1 : Int) 2) 2 != 0) = true := by decide +kernel
theorem not_all : ∀ f : Fin 256, (bits .and .u8 (bits .andNot .u8 (f.1 : Int) 2) 2 != 0) = false := by decide +kernel
theorem or_2 (f : Int) (h0 : 0 ≤ f) (h1 : f ≤ 255) : (bits .and .u8 (bits .or .u8 f 2) 2 != 0) = true := by
  obtain ⟨n, rfl⟩ := Int.eq_ofNat_of_zero_le h0
  exact or_all ⟨n, by omega⟩
theorem not_2 (f : Int) (h0 : 0 ≤ f) (h1 : f ≤ 255) : (bits .and .u8 (bits .andNot .u8 f 2) 2 != 0) = false := by
  obtain ⟨n, rfl⟩ := Int.eq_ofNat_of_zero_le h0
  exact not_all ⟨n, by omega⟩

theorem wf_u8 {a : Int} (h : (Lit.int .u8 a).wf = true) : 0 ≤ a ∧ a ≤ 255 := by
  simpa [Lit.wf, IntKind.min, IntKind.max, IntKind.signed, IntKind.bits] using h

theorem o1 (a : Int) (h : (bits .and .u8 a 2 != 0) = true) (w : World) : Calls Try.prog 22 #[.int .u8 4, .int .u8 a] w fun e w' => e = .returned (.tuple #[.int .i64 0, .bool true]) ∧ w = w' := zorder 4 a (.inl rfl) true h w
theorem o2 (a : Int) (h : (bits .and .u8 a 2 != 0) = false) (w : World) : Calls Try.prog 22 #[.int .u8 4, .int .u8 a] w fun e w' => e = .returned (.tuple #[.int .i64 1, .bool true]) ∧ w = w' := zorder 4 a (.inl rfl) false h w
theorem o3 (a : Int) (h : (bits .and .u8 a 2 != 0) = true) (w : World) : Calls Try.prog 22 #[.int .u8 0, .int .u8 a] w fun e w' => e = .returned (.tuple #[.int .i64 2, .bool true]) ∧ w = w' := zorder 0 a (.inr rfl) true h w
theorem o4 (a : Int) (h : (bits .and .u8 a 2 != 0) = false) (w : World) : Calls Try.prog 22 #[.int .u8 0, .int .u8 a] w fun e w' => e = .returned (.tuple #[.int .i64 3, .bool true]) ∧ w = w' := zorder 0 a (.inr rfl) false h w

set_option maxHeartbeats 1000000 in
theorem walk (a0 : Int) (w0 : (Lit.int .u8 a0).wf = true) (a1 : Int) (w1 : (Lit.int .u8 a1).wf = true) (w : World) :
    Calls Try.prog 6 #[.int .u8 a0, .int .u8 a1] w fun e w' => e = .returned (.bool true) ∧ Below w.heap.size w w' := by
  obtain ⟨f0, f1⟩ := wf_u8 w0
  obtain ⟨g0, g1⟩ := wf_u8 w1
  have h1 := Lib.hid (or_2 a0 f0 f1)
  have h2 := Lib.hid (not_2 a1 g0 g1)
  have h3 := Lib.hid (or_2 a1 g0 g1)
  have h4 := Lib.hid (not_2 a0 f0 f1)
  go_enter Try.func6, Try.ntmps6
  go_wp2_with fail
  refine (o1 _ h1.out _).mono ?_
  rintro e w' ⟨rfl, rfl⟩
  go_wp2_with fail
  refine (o2 _ h2.out _).mono ?_
  rintro e w' ⟨rfl, rfl⟩
  go_wp2_with fail
  refine (o3 _ h3.out _).mono ?_
  rintro e w' ⟨rfl, rfl⟩
  go_wp2_with fail
  refine (o4 _ h4.out _).mono ?_
  rintro e w' ⟨rfl, rfl⟩
  go_wp2_with fail
  go_ret
  exact ⟨rfl, Below.refl _ _⟩
end Go.Proofs.Ytkpdjdfebaaahaa.fnFieldOrAccessorOrderChain
