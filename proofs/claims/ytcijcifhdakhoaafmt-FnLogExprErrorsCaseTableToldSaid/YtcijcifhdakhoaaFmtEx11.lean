/-
  The harness's small functions. No condition.
-/
import Derived.Test.YtcijcifhdakhoaaFmtEx10
import Derived.Deep.DeepAppendRoom
namespace Go.Proofs.YtcijcifhdakhoaaFmt.Ex
open Go.RowKit Go.Lib Go.Proofs.YtcijcifhdakhoaaFmt.Ints Go.Proofs.YtcijcifhdakhoaaFmt.Lg
open Go.Extern.Stop Go.Stop Go.Extern

theorem bytes (s : ByteArray) (hs : s.size ≤ 9223372036854775807) (d0 d1 a0 a1 s0 s1 : Int) (w : World) : Calls Tryf.prog 4 #[.string s, .int .i32 d0, .int .i32 d1, .int .i32 a0, .int .i32 a1, .int .i32 s0, .int .i32 s1] w fun y w' => y = .returned (.bool (decide (s.size ≤ 1048576))) ∧ w' = w := by
  by_cases h : s.size ≤ 1048576
  · have d2 : ¬ (1048576 : Int) < (s.size : Int) := by omega
    have d3 : IntKind.i64.wrap (s.size : Int) = (s.size : Int) := U8.wraps_i64 _ (by omega) (by omega)
    rw [decide_eq_true h]
    clear h
    go_enter Tryf.func4, Tryf.ntmps4
    go_wp2
    go_ret
    exact ⟨rfl, rfl⟩
  · have d2 : (1048576 : Int) < (s.size : Int) := by omega
    have d3 : 1048576 < s.size := by omega
    rw [decide_eq_false h]
    clear h
    go_enter Tryf.func4, Tryf.ntmps4
    go_wp2
    go_ret
    exact ⟨rfl, rfl⟩
theorem i32_wf {a : Int} (h : (Lit.int .i32 a).wf = true) : -2147483648 ≤ a ∧ a < 2147483648 := by
  have : -2147483648 ≤ a ∧ a ≤ 2147483647 := by simpa [Lit.wf, IntKind.min, IntKind.max, IntKind.signed, IntKind.bits] using h
  omega
def FitS (b : Bool) (w : World) (y : Ending) (w' : World) : Prop := y = .returned (.bool b) ∧ w' = w
theorem spanFits (a b n : Int) (ha : a < 2147483648) (hb0 : 0 < b) (hb : b < 2147483648) (hn : 0 ≤ n) (w : World) : Calls Tryf.prog 5 #[.int .i32 a, .int .i32 b, .int .i64 n] w (FitS (decide (0 ≤ a ∧ a + b ≤ n)) w) := by
  by_cases h0 : a < 0
  · rw [decide_eq_false (by omega)]
    go_enter Tryf.func5, Tryf.ntmps5
    go_wp2
    go_ret
    exact ⟨rfl, rfl⟩
  · have e0 : ¬ b < 0 := by omega
    obtain ⟨x, rfl⟩ := Int.eq_ofNat_of_zero_le (by omega : 0 ≤ a)
    obtain ⟨y, rfl⟩ := Int.eq_ofNat_of_zero_le (by omega : 0 ≤ b)
    have w1 : IntKind.i64.wrap (x : Int) = (x : Int) := U8.wraps_i64 _ (by omega) (by omega)
    have w2 : IntKind.i64.wrap (y : Int) = (y : Int) := U8.wraps_i64 _ (by omega) (by omega)
    have w3 : IntKind.i64.wrap ((x : Int) + (y : Int)) = (x : Int) + (y : Int) := U8.wraps_i64 _ (by omega) (by omega)
    have ed : decide (0 ≤ (x : Int) ∧ (x : Int) + (y : Int) ≤ n) = decide ((x : Int) + (y : Int) ≤ n) := by
      apply decide_eq_decide.2
      omega
    rw [ed]
    clear ed
    go_enter Tryf.func5, Tryf.ntmps5
    go_wp2
    go_ret
    exact ⟨rfl, rfl⟩
def Rng (a b : Int) (w : World) (y : Ending) (w' : World) : Prop := y = .returned (.agg #[.int .i32 a, .int .i32 b]) ∧ Below w.heap.size w w'
theorem rng (a b : Int) (w : World) : Calls Tryf.prog 8 #[.int .i32 a, .int .i32 b] w (Rng a b w) := by
  go_enter Tryf.func8, Tryf.ntmps8
  go_wp2
  refine bodyPost_ret (v := .agg #[.int .i32 a, .int .i32 b]) (by simp [results, Tryf.results8, go_sem]) rfl ?_
  exact ⟨rfl, by go_grown⟩
def NewE (d0 d1 a0 a1 s0 s1 : Int) (w : World) (y : Ending) (w' : World) : Prop := ∃ E, y = .returned (.pointer (some ⟨E, 0, none⟩)) ∧ ErrB E d0 d1 a0 a1 s0 s1 w' ∧ Below w.heap.size w w'
theorem new_fin {d0 d1 a0 a1 s0 s1 : Int} {w : World} (w1 : World) (E : Nat) (hE : E = w1.heap.size) (hb : Below w.heap.size w w1) : NewE d0 d1 a0 a1 s0 s1 w (.returned (.pointer (some ⟨E, 0, none⟩))) (w1.alloc (.cells #[.int .i32 d0, .int .i32 d1, .int .i32 a0, .int .i32 a1, .int .i32 s0, .int .i32 s1, .slice none 0 0] 167)) := by
  subst hE
  exact ⟨_, rfl, heap_alloc_new _ _, hb.alloc hb.size _⟩
theorem newErrs (d0 d1 a0 a1 s0 s1 : Int) (w : World) : Calls Tryf.prog 7 #[.agg #[.int .i32 d0, .int .i32 d1], .agg #[.int .i32 a0, .int .i32 a1], .agg #[.int .i32 s0, .int .i32 s1], .slice none 0 0] w (NewE d0 d1 a0 a1 s0 s1 w) := by
  go_enter Tryf.func7, Tryf.ntmps7
  go_wp2
  go_ret
  exact new_fin (((w.alloc (.cells #[.int .i32 d0, .int .i32 d1] 31)).alloc (.cells #[.int .i32 a0, .int .i32 a1] 31)).alloc (.cells #[.int .i32 s0, .int .i32 s1] 31)) (w.heap.size + 1 + 1 + 1) (by simp) (by go_grown)
theorem zzLog {Q : Ending → World → Prop} (P E : Nat) (w : World) (h : Calls Tryf.prog 14 #[pt P, pt E] w (fun y w' => y = .returned (.tuple #[]) ∧ Q y w')) :
    Calls Tryf.prog 9 #[pt P, pt E] w (fun y w' => y = .returned (.tuple #[]) ∧ Q y w') := by
  replace h := Lib.hid h
  unfold pt at *
  go_enter Tryf.func9, Tryf.ntmps9
  go_wp2_with fail
  refine h.out.mono ?_
  rintro y w2 ⟨rfl, hq⟩
  replace hq := Lib.hid hq
  clear h
  go_wp2_with fail
  go_end0
  exact ⟨rfl, hq.out⟩
theorem mk02 (w : World) : (Instr.makeSlice 36 (.int .i64 0) (.int .i64 2)).run Tryf.prog w = .ok (.slice (some ⟨w.heap.size, 0, none⟩) 0 2) (w.alloc (.cells #[.int .i64 0, .int .i64 0] 3)) := by kernel_rfl
end Go.Proofs.YtcijcifhdakhoaaFmt.Ex
