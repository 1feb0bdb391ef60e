/-
  The size check of FnFromConfigEachBoolDistinguishes: it returns some bool and changes nothing that was there. Condition: lengths that fit.
-/
import Derived.Test.YtimmcjjkfhambaaCfg9
namespace Go.Proofs.Ytimmcjjkfhambaa.Cfg
open Go.RowKit Go.ChangeShapes Go.WideShapes Go.ChangeAt Go.Proofs.Ytimmcjjkfhambaa.Ints
def SomeBl (w : World) (e : Ending) (w' : World) : Prop := ∃ x : Bool, e = .returned (.bool x) ∧ Below w.heap.size w w'
set_option maxHeartbeats 2000000 in
theorem bytes4 (b : Int) (env : ByteArray) (fe ov ms : Int) (mn rn : Bool) (o : Option Addr) (n cap : Nat) (f : Nat → ByteArray) (kk : Int) (w : World) (hn : n ≤ maxLen) (he : env.size ≤ maxLen) (hI : StrsAt w o n f) (hs : ∀ i, i < n → (f i).size ≤ maxLen) :
    Calls Try.prog 4 #[.agg #[.int .u16 b, .string env, .int .u64 fe, .int .u64 ov, .int .u64 ms, .bool mn, .bool rn, .slice o n cap], .int .u8 kk] w (SomeBl w) := by
  unfold maxLen at hn he
  have hb0 : Below w.heap.size w (w.alloc (.cells #[.int .u16 b, .string env, .int .u64 fe, .int .u64 ov, .int .u64 ms, .bool mn, .bool rn, .slice o n cap] 26)) := (Below.refl _ _).alloc (Nat.le_refl _) _
  have hr0 : (w.alloc (.cells #[.int .u16 b, .string env, .int .u64 fe, .int .u64 ov, .int .u64 ms, .bool mn, .bool rn, .slice o n cap] 26)).rowIs w.heap.size 26 8 (cfgC b env fe ov ms mn rn (.slice o n cap)) := cfg_row (heap_alloc_new _ _)
  go_enter Try.func4, Try.ntmps4
  go_upto_region 1 with fail
  generalize (w.alloc (.cells #[.int .u16 b, .string env, .int .u64 fe, .int .u64 ov, .int .u64 ms, .bool mn, .bool rn, .slice o n cap] 26)) = w0 at hb0 hr0 ⊢
  have c1 : w0.cell? ⟨w.heap.size, 1, none⟩ = some (.string env) := hr0.cell (i := 1) (by omega)
  have c7 : w0.cell? ⟨w.heap.size, 7, none⟩ = some (.slice o n cap) := hr0.cell (i := 7) (by omega)
  replace hr0 := Lib.hid hr0
  by_cases p1 : (1048576 : Int) < (env.size : Int)
  · go_wp2_with fail
    go_ret
    exact ⟨_, rfl, hb0⟩
  by_cases p2 : (1048576 : Int) < (n : Int)
  · go_wp2_with fail
    go_ret
    exact ⟨_, rfl, hb0⟩
  by_cases p3 : (1048576 : Int) < (env.size : Int) + (n : Int)
  · go_wp2_with fail
    go_ret
    exact ⟨_, rfl, hb0⟩
  go_wp2_with fail
  go_loopg [5, 6] n (fun gk t i wr => ∃ r : Nat, r ≤ n ∧ gk = n - r ∧ i = .int .i64 r ∧ (∃ x : Int, t = .int .i64 x ∧ 0 ≤ x ∧ x ≤ 1048576) ∧ wr = w0)
  case atStart => exact ⟨0, Nat.zero_le _, rfl, rfl, ⟨_, rfl, by omega, by omega⟩, rfl⟩
  case round =>
    obtain ⟨r, hr, rfl, rfl, ⟨x, rfl, hx0, hx1⟩, rfl⟩ := hrel
    rcases Nat.lt_or_ge r n with hlt | hge
    · have hIw := hI.below hb0
      rcases hIw with h0 | ⟨bb, off, he, hbb, hc⟩
      · omega
      · subst he
        have g2 := hc r hlt
        have hsz := hs r hlt
        unfold maxLen at hsz
        replace hI := Lib.hid hI
        replace hs := Lib.hid hs
        clear hc
        by_cases p4 : (1048576 : Int) < ((f r).size : Int)
        · go_wp2_with fail
          go_ret
          exact ⟨_, rfl, hb0⟩
        by_cases p5 : (1048576 : Int) < x + ((f r).size : Int)
        · go_wp2_with fail
          go_ret
          exact ⟨_, rfl, hb0⟩
        · go_wp2_with fail
          go_roundg (n - (r + 1))
          case measure => omega
          case rel => exact ⟨r + 1, by omega, rfl, rfl, ⟨_, rfl, by omega, by omega⟩, rfl⟩
    · have hrn : n = r := by omega
      subst hrn
      replace hI := Lib.hid hI
      replace hs := Lib.hid hs
      go_wp2_with fail
      go_ret
      exact ⟨_, rfl, hb0⟩
end Go.Proofs.Ytimmcjjkfhambaa.Cfg
