/-
  The walk of FnCubedOfScaledIntegerIsExact: it returns true for every pair of integers. No condition.
-/
import Derived.Test.YtnfmpgmkmlmnjaaExact
import Derived.Test.YtnfmpgmkmlmnjaaHeld4
import Derived.LoopTactic
namespace Go.Proofs.Ytnfmpgmkmlmnjaa.fnCubedOfScaledIntegerIsExact
open Go.RowKit Fl Small2 Exact Held4

/-- the loops of zzPow2 -/
theorem up (j : Int) (h1 : -1000 ≤ j) (h2 : j < 1000) (w : World) : fval .mul (P2 j) 4611686018427387904 w = P2 (j + 1) := P2_double (by omega) (by omega) (fval_FR _ _ _ _)
theorem down (j : Int) (h1 : -1000 < j) (h2 : j ≤ 1000) (w : World) : fval .quo (P2 j) 4611686018427387904 w = P2 (j - 1) := P2_half (by omega) (by omega) (fval_FR _ _ _ _)

set_option maxHeartbeats 1000000 in
theorem pow2 (k : Int) (h1 : -1000 ≤ k) (h2 : k ≤ 1000) (w : World) : Calls Try.prog 23 #[.int .i64 k] w fun e w' => e = .returned (.float .f64 (P2 k)) ∧ ∃ n, w' = w.drewN n := by
  go_enter Try.func23, Try.ntmps23
  go_wp2
  go_loopw [0, 3] (fun i p wr => ∃ (j : Int) (n : Nat), -1000 ≤ j ∧ j ≤ 1000 ∧ (j = k ∨ (0 ≤ j ∧ j ≤ k)) ∧ i = .int .i64 j ∧ p = .float .f64 (P2 (k - j)) ∧ wr = w.drewN n) (fun i _ _ => (intOf i).toNat)
  case atStart => exact ⟨k, 0, h1, h2, .inl rfl, rfl, by rw [Int.sub_self, P2_zero], rfl⟩
  case round =>
    obtain ⟨j, n, j1, j2, j3, rfl, rfl, rfl⟩ := hrel
    by_cases hj : 0 < j
    · have hu := up (k - j) (by omega) (by omega)
      replace j3 := Lib.hid j3
      go_wp2
      have hj3 := j3.out
      refine ⟨⟨j - 1, _, by omega, by omega, .inr (by omega), rfl, ?_, rfl⟩, by simp [intOf]; omega⟩
      have : k - j + 1 = k - (j - 1) := by omega
      rw [this]
    · replace j3 := Lib.hid j3
      go_wp2
      go_loopw [0, 3] (fun i p wr => ∃ (j : Int) (n : Nat), -1000 ≤ j ∧ j ≤ 0 ∧ (k ≤ j ∨ j = 0) ∧ i = .int .i64 j ∧ p = .float .f64 (P2 (k - j)) ∧ wr = w.drewN n) (fun i _ _ => (-(intOf i)).toNat)
      case atStart => exact ⟨j, n, j1, by omega, by have := j3.out; omega, rfl, rfl, rfl⟩
      case round =>
        obtain ⟨i, n2, i1, i2, i3, rfl, rfl, rfl⟩ := hrel
        by_cases hi : i < 0
        · have hu := down (k - i) (by omega) (by omega)
          replace i3 := Lib.hid i3
          go_wp2
          have hi3 := i3.out
          refine ⟨⟨i + 1, _, by omega, by omega, by omega, rfl, ?_, rfl⟩, by simp [intOf]; omega⟩
          have : k - i - 1 = k - (i + 1) := by omega
          rw [this]
        · have : i = 0 := by omega
          subst this
          go_wp2
          go_ret
          exact ⟨congrArg (fun b => Ending.returned (.float .f64 b)) (by first | rfl | rw [Int.sub_zero]), _, rfl⟩

/-- x * x * x -/
def FC (x r : Nat) : Prop := ∃ m, FR .mul x x m ∧ FR .mul m x r

set_option maxHeartbeats 1000000 in
theorem cubed (a : Nat) (w : World) : Calls Try.prog 24 #[.agg #[.float .f64 a]] w (F64.GivesF (FC a) w) := by
  go_enter Try.func24, Try.ntmps24
  go_wp2
  have hS : ∃ W, W = (w.alloc (Obj.cells #[Value.float FloatKind.f64 a] 27)).alloc (Obj.cells #[Value.float FloatKind.f64 0] 27) ∧
      (W.cell? ⟨w.heap.size, 0, none⟩ = some (.float .f64 a) ∧ W.cell? ⟨w.heap.size + 1, 0, none⟩ = some (.float .f64 (cv W ⟨w.heap.size + 1, 0, none⟩)) ∧ W.frozen? ⟨w.heap.size + 1, 0, none⟩ = false ∧ Below w.heap.size w W ∧ w.heap.size + 1 < W.heap.size) := by
    refine ⟨_, rfl, ?_, ?_, ?_, ?_, ?_⟩
    · go_simp
    · refine cv_of (r := 0) ?_
      go_simp
    · go_simp
    · repeat (first | exact Below.refl _ _ | refine bla ?_ _)
    · simp
  obtain ⟨W, hW, hS⟩ := hS
  rw [← hW]
  clear hW
  go_region_held3 (fun w' => w'.cell? ⟨w.heap.size, 0, none⟩ = some (.float .f64 a) ∧ w'.cell? ⟨w.heap.size + 1, 0, none⟩ = some (.float .f64 (cv w' ⟨w.heap.size + 1, 0, none⟩)) ∧ w'.frozen? ⟨w.heap.size + 1, 0, none⟩ = false ∧ Below w.heap.size w w' ∧ w.heap.size + 1 < w'.heap.size)
    (first | exact hS | exact keep2s rfl (by assumption) | exact keep2 (by assumption) (by first | assumption | exact Below.refl _ _ | exact (Below.refl _ _).drew | exact (Below.refl _ _).alloc (Nat.le_refl _) _ | exact below_drewN (Below.refl _ _) _))
    (first | (go_at_call 46; refine (F64.mul _ _ _).mono ?_; rintro e w1 ⟨m, hm, rfl, hb1⟩))
  rename_i w0 m0 hm0 hb0 hH
  have k1 := keep2 (keep2 hS (Below.refl _ _).drew) hb0
  have k2 := keep2 k1 hb1
  have hc := World.cell?_setCell_same' w1 ⟨w.heap.size + 1, 0, none⟩ (.float .f64 m) (by rw [k2.2.1]; rfl)
  have hB := (keep2s (r := m) rfl k2).2.2.2.1
  have HR : FC a m := ⟨m0, hm0, hm⟩
  clear hH k1 k2 hb1 hb0 hS hm hm0
  go_wp2
  exact bodyPost_ret (v := .agg #[.float .f64 m]) (by simp [results, Try.results24, go_sem, hc]) rfl ⟨m, HR, rfl, hB⟩

theorem same21 (x y : Nat) (w : World) : Calls Try.prog 25 #[.float .f64 x, .float .f64 y] w (Same.Says (same x y) w) := by
  cases hx : nan x <;> cases hy : nan y
  case false.false =>
    cases he : (D.order x y != some .eq) with
    | true =>
      have HS := Lib.hid (same_ne hx he)
      go_enter Try.func25, Try.ntmps25
      go_wp2_with (go_at_call 47; refine (Same.isNaN21 _ _).mono ?_; rintro e w' ⟨rfl, rfl⟩)
      go_ret
      exact Same.says_of0 HS.out.symm
    | false =>
      cases hz : zero x with
      | true =>
        have HS := Lib.hid (same_eq1 hx he hz)
        go_enter Try.func25, Try.ntmps25
        go_wp2_with (first | (go_at_call 47; refine (Same.isNaN21 _ _).mono ?_; rintro e w' ⟨rfl, rfl⟩) | (go_at_call 48; refine (Same.sign21 _ _).mono ?_; rintro e w' ⟨rfl, n, rfl⟩))
        go_ret
        refine Same.says_of ?_ _
        rw [HS.out]
        try simp [hx, hy]
      | false =>
        have HS := Lib.hid (same_eq0 hx he hz)
        go_enter Try.func25, Try.ntmps25
        go_wp2_with (go_at_call 47; refine (Same.isNaN21 _ _).mono ?_; rintro e w' ⟨rfl, rfl⟩)
        go_ret
        exact Same.says_of0 HS.out.symm
  all_goals
    go_enter Try.func25, Try.ntmps25
    go_wp2_with (go_at_call 47; refine (Same.isNaN21 _ _).mono ?_; rintro e w' ⟨rfl, rfl⟩)
    go_ret
    exact Same.says_of0 (by simp [same, hx, hy])

/-- what the law compares -/
theorem got_want (n k : Int) (h1 : -131072 ≤ n) (h2 : n ≤ 131072) (h3 : -100 ≤ k) (h4 : k ≤ 100) {x r q : Nat} (hx : FR .mul (floatOfInt .f64 n) (P2 k) x) (hr : FC x r)
    (hq : FR .mul (floatOfInt .f64 (n * n * n)) (P2 (3 * k)) q) : same r q = true := by
  have hof : ∀ z : Int, floatOfInt .f64 z = D.word (decide (z < 0)) (Ie.rung z.natAbs 0) := by
    intro z
    show D.write (.number _ _ 0) = _
    rw [D_eq, Ie.write_number]
  have logb : ∀ {a : Nat} {b : Nat}, a < 2 ^ b → a.log2 ≤ b := by
    intro a b h
    by_cases h0 : a = 0
    · subst h0; exact Nat.zero_le _
    · exact Nat.le_of_lt ((Nat.log2_lt h0).2 h)
  have a1 : n.natAbs ≤ 2 ^ 17 := by omega
  have a2 : n.natAbs * n.natAbs ≤ 2 ^ 34 := Nat.le_trans (Nat.mul_le_mul a1 a1) (by decide)
  have a3 : n.natAbs * n.natAbs * n.natAbs ≤ 2 ^ 51 := Nat.le_trans (Nat.mul_le_mul a2 a1) (by decide)
  have e0 : Ex (floatOfInt .f64 n) (decide (n < 0)) n.natAbs 0 := by rw [hof]; exact ex_of _ (by omega) (by decide) (by have := logb (a := n.natAbs) (b := 18) (by omega); omega)
  have hxv := e0.mul (P2_ex k (by omega) (by omega)) hx
  rw [Nat.mul_one, Int.zero_add, Bool.xor_false] at hxv
  have ex : Ex x (decide (n < 0)) n.natAbs k := by rw [hxv]; exact ex_of _ (by omega) (by omega) (by have := logb (a := n.natAbs) (b := 18) (by omega); omega)
  obtain ⟨m, hm, hr⟩ := hr
  have hmv := ex.mul ex hm
  have em : Ex m (decide (n < 0) ^^ decide (n < 0)) (n.natAbs * n.natAbs) (k + k) := by rw [hmv]; exact ex_of _ (by omega) (by omega) (by have := logb (a := n.natAbs * n.natAbs) (b := 35) (by omega); omega)
  have hrv := em.mul ex hr
  have abs3 : (n * n * n).natAbs = n.natAbs * n.natAbs * n.natAbs := by rw [Int.natAbs_mul, Int.natAbs_mul]
  have e3 : Ex (floatOfInt .f64 (n * n * n)) (decide (n * n * n < 0)) (n.natAbs * n.natAbs * n.natAbs) 0 := by rw [hof, abs3]; exact ex_of _ (by omega) (by decide) (by have := logb (a := n.natAbs * n.natAbs * n.natAbs) (b := 52) (by omega); omega)
  have hqv := e3.mul (P2_ex (3 * k) (by omega) (by omega)) hq
  rw [Nat.mul_one, Int.zero_add, Bool.xor_false] at hqv
  have sg : decide (n * n * n < 0) = (decide (n < 0) ^^ decide (n < 0) ^^ decide (n < 0)) := by
    have hnn : 0 ≤ n * n := by
      rcases Int.le_total 0 n with h | h
      · exact Int.mul_nonneg h h
      · have := Int.mul_nonneg (show 0 ≤ -n by omega) (show 0 ≤ -n by omega)
        rw [Int.neg_mul_neg] at this; exact this
    by_cases h0 : n = 0
    · subst h0; decide
    · have hpos : 0 < n * n := by
        rcases Int.lt_or_gt_of_ne h0 with h | h
        · have := Int.mul_pos (show 0 < -n by omega) (show 0 < -n by omega)
          rw [Int.neg_mul_neg] at this; exact this
        · exact Int.mul_pos h h
      by_cases hn : n < 0
      · have : n * n * n < 0 := Int.mul_neg_of_pos_of_neg hpos hn
        rw [decide_eq_true this, decide_eq_true hn]; rfl
      · have : 0 < n * n * n := Int.mul_pos hpos (by omega)
        rw [decide_eq_false (by omega), decide_eq_false hn]; rfl
  have : r = q := by
    rw [hrv, hqv, sg]
    congr 2
    omega
  rw [this]
  exact same_refl _

set_option maxHeartbeats 2000000 in
theorem walk (a0 : Int) (w0 : (Lit.int .i64 a0).wf = true) (a1 : Int) (w1 : (Lit.int .i64 a1).wf = true) (w : World) :
    Calls Try.prog 7 #[.int .i64 a0, .int .i64 a1] w fun e w' => e = .returned (.bool true) ∧ Below w.heap.size w w' := by
  by_cases h1 : a0 < -131072
  · go_enter Try.func7, Try.ntmps7
    go_wp2_with fail
    go_ret
    exact ⟨rfl, Below.refl _ _⟩
  by_cases h2 : 131072 < a0
  · go_enter Try.func7, Try.ntmps7
    go_wp2_with fail
    go_ret
    exact ⟨rfl, Below.refl _ _⟩
  by_cases h3 : a1 < -100
  · go_enter Try.func7, Try.ntmps7
    go_wp2_with fail
    go_ret
    exact ⟨rfl, Below.refl _ _⟩
  by_cases h4 : 100 < a1
  · go_enter Try.func7, Try.ntmps7
    go_wp2_with fail
    go_ret
    exact ⟨rfl, Below.refl _ _⟩
  have G := Lib.hid (fun x r q (hx : FR .mul (floatOfInt .f64 a0) (P2 a1) x) (hr : FC x r) (hq : FR .mul (floatOfInt .f64 (a0 * a0 * a0)) (P2 (3 * a1)) q) => got_want a0 a1 (by omega) (by omega) (by omega) (by omega) hx hr hq)
  have b1 : -17179869184 ≤ a0 * a0 ∧ a0 * a0 ≤ 17179869184 := by
    have e : (a0 * a0).natAbs = a0.natAbs * a0.natAbs := Int.natAbs_mul _ _
    have : a0.natAbs * a0.natAbs ≤ 131072 * 131072 := Nat.mul_le_mul (by omega) (by omega)
    omega
  have b2 : -2251799813685248 ≤ a0 * a0 * a0 ∧ a0 * a0 * a0 ≤ 2251799813685248 := by
    have e : (a0 * a0 * a0).natAbs = (a0 * a0).natAbs * a0.natAbs := Int.natAbs_mul _ _
    have : (a0 * a0).natAbs * a0.natAbs ≤ 17179869184 * 131072 := Nat.mul_le_mul (by omega) (by omega)
    omega
  obtain ⟨b11, b12⟩ := b1
  obtain ⟨b21, b22⟩ := b2
  go_enter Try.func7, Try.ntmps7
  go_wp2_with (first | (go_at_call 23; refine (pow2 _ (by omega) (by omega) _).mono ?_; rintro e w' ⟨rfl, n, rfl⟩) | (go_at_call 16; refine (F64.newF64 _ _).mono ?_; rintro e w' ⟨rfl, rfl⟩) | (go_at_call 18; refine (F64.value _ _).mono ?_; rintro e w1 ⟨rfl, rfl⟩) | (go_at_call 24; refine (cubed _ _).mono ?_; rintro e w1 ⟨r, hr, rfl, hb⟩; replace hr := Lib.hid hr) | (go_at_call 25; refine (same21 _ _ _).mono ?_; rintro e w1 ⟨rfl, n, rfl⟩))
  go_ret
  refine ⟨congrArg (fun b => Ending.returned (.bool b)) (G.out _ _ _ (fval_FR _ _ _ _) hr.out (fval_FR _ _ _ _)), ?_⟩
  repeat (first | exact Below.refl _ _ | refine below_drewN ?_ _ | refine bla ?_ _ | refine bl ?_ (by assumption))
end Go.Proofs.Ytnfmpgmkmlmnjaa.fnCubedOfScaledIntegerIsExact
