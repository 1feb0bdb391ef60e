/-
  The walks of math.sin, a theorem a road and an octant. Conditions: the rules that each names.
-/
import Derived.Test.YtknidlahblfnnaaDoorCeW4
namespace Go.Proofs.YtknidlahblfnnaaDoor.Ce
open Go Go.RowKit Fl Small2 Mono Ieee

set_option maxHeartbeats 4000000 in
theorem sinE0 (x a n y p u1 v1 u2 v2 u3 z t k1 g1 h1 g2 h2 g3 h3 g4 h4 g5 h5 k2 r : Nat) (sg : Bool) (w : World) (G : Gl w) (hx : x < 2 ^ 64) (ha : Ie.rg x = a) (hn : nan x = false) (hi : inf x = false)
    (hz : zero x = false) (hs : (D.order x 0 == some .lt) = sg) (hna : sg = true → fneg x = a) (hnb : sg = false → x = a)
    (hge : (D.order a 4737786807993761792 == some .gt || D.order a 4737786807993761792 == some .eq) = false)
    (cv : floatToIntVal .f64 p .u64 = some (n : Int)) (ci : floatOfInt .f64 (n : Int) = y) (par : bits .and .u64 (n : Int) 1 = 0) (oct : bits .and .u64 (n : Int) 7 = 0)
    (f0 : ∀ w, fval .mul a 4608412980311869571 w = p) (f0c : fcnt .mul a 4608412980311869571 = 0)
    (f1 : ∀ w, fval .mul y 4605249456957292544 w = u1) (f1c : fcnt .mul y 4605249456957292544 = 0)
    (f2 : ∀ w, fval .sub a u1 w = v1) (f2c : fcnt .sub a u1 = 0)
    (f3 : ∀ w, fval .mul y 4495793288086814720 w = u2) (f3c : fcnt .mul y 4495793288086814720 = 0)
    (f4 : ∀ w, fval .sub v1 u2 w = v2) (f4c : fcnt .sub v1 u2 = 0)
    (f5 : ∀ w, fval .mul y 4388835458085048688 w = u3) (f5c : fcnt .mul y 4388835458085048688 = 0)
    (f6 : ∀ w, fval .sub v2 u3 w = z) (f6c : fcnt .sub v2 u3 = 0)
    (f7 : ∀ w, fval .mul z z w = t) (f7c : fcnt .mul z z = 0)
    (f8 : ∀ w, fval .mul z t w = k1) (f8c : fcnt .mul z t = 0)
    (f9 : ∀ w, fval .mul 4460209587652500685 t w = g1) (f9c : fcnt .mul 4460209587652500685 t = 0)
    (f10 : ∀ w, fval .add g1 13716528389658582877 w = h1) (f10c : fcnt .add g1 13716528389658582877 = 0)
    (f11 : ∀ w, fval .mul h1 t w = g2) (f11c : fcnt .mul h1 t = 0)
    (f12 : ∀ w, fval .add g2 4523617212962785441 w = h2) (f12c : fcnt .add g2 4523617212962785441 = 0)
    (f13 : ∀ w, fval .mul h2 t w = g3) (f13c : fcnt .mul h2 t = 0)
    (f14 : ∀ w, fval .add g3 13774824197404483331 w = h3) (f14c : fcnt .add g3 13774824197404483331 = 0)
    (f15 : ∀ w, fval .mul h3 t w = g4) (f15c : fcnt .mul h3 t = 0)
    (f16 : ∀ w, fval .add g4 4575957461383575504 w = h4) (f16c : fcnt .add g4 4575957461383575504 = 0)
    (f17 : ∀ w, fval .mul h4 t w = g5) (f17c : fcnt .mul h4 t = 0)
    (f18 : ∀ w, fval .add g5 13818544856648471880 w = h5) (f18c : fcnt .add g5 13818544856648471880 = 0)
    (f19 : ∀ w, fval .mul k1 h5 w = k2) (f19c : fcnt .mul k1 h5 = 0)
    (f20 : ∀ w, fval .add z k2 w = r) (f20c : fcnt .add z k2 = 0) :
    Calls Tryd.prog 19 #[.float .f64 x] w fun e w' => e = .returned (.float .f64 (if sg then fneg r else r)) ∧ ∃ n, w.drewN n = w' := by
  obtain ⟨g0, g1, g2, g3, g4, g5, k0, k1', k2', k3', k4', k5', hT⟩ := G
  have hcv := fun w => run_convert_float_int (P := Tryd.prog) w 22 33 .f64 .u64 p n (by kernel_rfl) Tryd.underlying33 cv
  cases sg
  · obtain rfl := hnb rfl
    go_enter Tryd.func19, Tryd.ntmps19
    go_wp2_with (first | (go_at_call 20; refine (mathIsNaN _ _).mono ?_; rintro e w' ⟨rfl, rfl⟩) | (go_at_call 21; refine (mathIsInf _ hx hn _).mono ?_; rintro e w' ⟨rfl, rfl⟩) | (go_at_call 23; refine (mathAbs _ hx _).mono ?_; rintro e w' ⟨rfl, rfl⟩))
    go_ret
    exact ⟨rfl, _, rfl⟩
  · obtain rfl := hna rfl
    go_enter Tryd.func19, Tryd.ntmps19
    go_wp2_with (first | (go_at_call 20; refine (mathIsNaN _ _).mono ?_; rintro e w' ⟨rfl, rfl⟩) | (go_at_call 21; refine (mathIsInf _ hx hn _).mono ?_; rintro e w' ⟨rfl, rfl⟩) | (go_at_call 23; refine (mathAbs _ hx _).mono ?_; rintro e w' ⟨rfl, rfl⟩))
    go_ret
    exact ⟨rfl, _, rfl⟩
set_option maxHeartbeats 4000000 in
theorem sinE2 (x a n y p u1 v1 u2 v2 u3 z t k1 k2 k3 g1 h1 g2 h2 g3 h3 g4 h4 g5 h5 k4 r : Nat) (sg : Bool) (w : World) (G : Gl w) (hx : x < 2 ^ 64) (ha : Ie.rg x = a) (hn : nan x = false) (hi : inf x = false)
    (hz : zero x = false) (hs : (D.order x 0 == some .lt) = sg) (hna : sg = true → fneg x = a) (hnb : sg = false → x = a)
    (hge : (D.order a 4737786807993761792 == some .gt || D.order a 4737786807993761792 == some .eq) = false)
    (cv : floatToIntVal .f64 p .u64 = some (n : Int)) (ci : floatOfInt .f64 (n : Int) = y) (par : bits .and .u64 (n : Int) 1 = 0) (oct : bits .and .u64 (n : Int) 7 = 2)
    (f0 : ∀ w, fval .mul a 4608412980311869571 w = p) (f0c : fcnt .mul a 4608412980311869571 = 0)
    (f1 : ∀ w, fval .mul y 4605249456957292544 w = u1) (f1c : fcnt .mul y 4605249456957292544 = 0)
    (f2 : ∀ w, fval .sub a u1 w = v1) (f2c : fcnt .sub a u1 = 0)
    (f3 : ∀ w, fval .mul y 4495793288086814720 w = u2) (f3c : fcnt .mul y 4495793288086814720 = 0)
    (f4 : ∀ w, fval .sub v1 u2 w = v2) (f4c : fcnt .sub v1 u2 = 0)
    (f5 : ∀ w, fval .mul y 4388835458085048688 w = u3) (f5c : fcnt .mul y 4388835458085048688 = 0)
    (f6 : ∀ w, fval .sub v2 u3 w = z) (f6c : fcnt .sub v2 u3 = 0)
    (f7 : ∀ w, fval .mul z z w = t) (f7c : fcnt .mul z z = 0)
    (f8 : ∀ w, fval .mul 4602678819172646912 t w = k1) (f8c : fcnt .mul 4602678819172646912 t = 0)
    (f9 : ∀ w, fval .sub 4607182418800017408 k1 w = k2) (f9c : fcnt .sub 4607182418800017408 k1 = 0)
    (f10 : ∀ w, fval .mul t t w = k3) (f10c : fcnt .mul t t = 0)
    (f11 : ∀ w, fval .mul 13666448263388469915 t w = g1) (f11c : fcnt .mul 13666448263388469915 t = 0)
    (f12 : ∀ w, fval .add g1 4477121864728985349 w = h1) (f12c : fcnt .add g1 4477121864728985349 = 0)
    (f13 : ∀ w, fval .mul h1 t w = g2) (f13c : fcnt .mul h1 t = 0)
    (f14 : ∀ w, fval .add g2 13732177093698800582 w = h2) (f14c : fcnt .add g2 13732177093698800582 = 0)
    (f15 : ∀ w, fval .mul h2 t w = g3) (f15c : fcnt .mul h2 t = 0)
    (f16 : ∀ w, fval .add g3 4537941361668146421 w = h3) (f16c : fcnt .add g3 4537941361668146421 = 0)
    (f17 : ∀ w, fval .mul h3 t w = g4) (f17c : fcnt .mul h3 t = 0)
    (f18 : ∀ w, fval .add g4 13787419979223748497 w = h4) (f18c : fcnt .add g4 13787419979223748497 = 0)
    (f19 : ∀ w, fval .mul h4 t w = g5) (f19c : fcnt .mul h4 t = 0)
    (f20 : ∀ w, fval .add g5 4586165620538955083 w = h5) (f20c : fcnt .add g5 4586165620538955083 = 0)
    (f21 : ∀ w, fval .mul k3 h5 w = k4) (f21c : fcnt .mul k3 h5 = 0)
    (f22 : ∀ w, fval .add k2 k4 w = r) (f22c : fcnt .add k2 k4 = 0) :
    Calls Tryd.prog 19 #[.float .f64 x] w fun e w' => e = .returned (.float .f64 (if sg then fneg r else r)) ∧ ∃ n, w.drewN n = w' := by
  obtain ⟨g0, g1, g2, g3, g4, g5, k0, k1', k2', k3', k4', k5', hT⟩ := G
  have hcv := fun w => run_convert_float_int (P := Tryd.prog) w 22 33 .f64 .u64 p n (by kernel_rfl) Tryd.underlying33 cv
  cases sg
  · obtain rfl := hnb rfl
    go_enter Tryd.func19, Tryd.ntmps19
    go_wp2_with (first | (go_at_call 20; refine (mathIsNaN _ _).mono ?_; rintro e w' ⟨rfl, rfl⟩) | (go_at_call 21; refine (mathIsInf _ hx hn _).mono ?_; rintro e w' ⟨rfl, rfl⟩) | (go_at_call 23; refine (mathAbs _ hx _).mono ?_; rintro e w' ⟨rfl, rfl⟩))
    go_ret
    exact ⟨rfl, _, rfl⟩
  · obtain rfl := hna rfl
    go_enter Tryd.func19, Tryd.ntmps19
    go_wp2_with (first | (go_at_call 20; refine (mathIsNaN _ _).mono ?_; rintro e w' ⟨rfl, rfl⟩) | (go_at_call 21; refine (mathIsInf _ hx hn _).mono ?_; rintro e w' ⟨rfl, rfl⟩) | (go_at_call 23; refine (mathAbs _ hx _).mono ?_; rintro e w' ⟨rfl, rfl⟩))
    go_ret
    exact ⟨rfl, _, rfl⟩
set_option maxHeartbeats 4000000 in
theorem sinE4 (x a n y p u1 v1 u2 v2 u3 z t k1 g1 h1 g2 h2 g3 h3 g4 h4 g5 h5 k2 r : Nat) (sg : Bool) (w : World) (G : Gl w) (hx : x < 2 ^ 64) (ha : Ie.rg x = a) (hn : nan x = false) (hi : inf x = false)
    (hz : zero x = false) (hs : (D.order x 0 == some .lt) = sg) (hna : sg = true → fneg x = a) (hnb : sg = false → x = a)
    (hge : (D.order a 4737786807993761792 == some .gt || D.order a 4737786807993761792 == some .eq) = false)
    (cv : floatToIntVal .f64 p .u64 = some (n : Int)) (ci : floatOfInt .f64 (n : Int) = y) (par : bits .and .u64 (n : Int) 1 = 0) (oct : bits .and .u64 (n : Int) 7 = 4)
    (f0 : ∀ w, fval .mul a 4608412980311869571 w = p) (f0c : fcnt .mul a 4608412980311869571 = 0)
    (f1 : ∀ w, fval .mul y 4605249456957292544 w = u1) (f1c : fcnt .mul y 4605249456957292544 = 0)
    (f2 : ∀ w, fval .sub a u1 w = v1) (f2c : fcnt .sub a u1 = 0)
    (f3 : ∀ w, fval .mul y 4495793288086814720 w = u2) (f3c : fcnt .mul y 4495793288086814720 = 0)
    (f4 : ∀ w, fval .sub v1 u2 w = v2) (f4c : fcnt .sub v1 u2 = 0)
    (f5 : ∀ w, fval .mul y 4388835458085048688 w = u3) (f5c : fcnt .mul y 4388835458085048688 = 0)
    (f6 : ∀ w, fval .sub v2 u3 w = z) (f6c : fcnt .sub v2 u3 = 0)
    (f7 : ∀ w, fval .mul z z w = t) (f7c : fcnt .mul z z = 0)
    (f8 : ∀ w, fval .mul z t w = k1) (f8c : fcnt .mul z t = 0)
    (f9 : ∀ w, fval .mul 4460209587652500685 t w = g1) (f9c : fcnt .mul 4460209587652500685 t = 0)
    (f10 : ∀ w, fval .add g1 13716528389658582877 w = h1) (f10c : fcnt .add g1 13716528389658582877 = 0)
    (f11 : ∀ w, fval .mul h1 t w = g2) (f11c : fcnt .mul h1 t = 0)
    (f12 : ∀ w, fval .add g2 4523617212962785441 w = h2) (f12c : fcnt .add g2 4523617212962785441 = 0)
    (f13 : ∀ w, fval .mul h2 t w = g3) (f13c : fcnt .mul h2 t = 0)
    (f14 : ∀ w, fval .add g3 13774824197404483331 w = h3) (f14c : fcnt .add g3 13774824197404483331 = 0)
    (f15 : ∀ w, fval .mul h3 t w = g4) (f15c : fcnt .mul h3 t = 0)
    (f16 : ∀ w, fval .add g4 4575957461383575504 w = h4) (f16c : fcnt .add g4 4575957461383575504 = 0)
    (f17 : ∀ w, fval .mul h4 t w = g5) (f17c : fcnt .mul h4 t = 0)
    (f18 : ∀ w, fval .add g5 13818544856648471880 w = h5) (f18c : fcnt .add g5 13818544856648471880 = 0)
    (f19 : ∀ w, fval .mul k1 h5 w = k2) (f19c : fcnt .mul k1 h5 = 0)
    (f20 : ∀ w, fval .add z k2 w = r) (f20c : fcnt .add z k2 = 0) :
    Calls Tryd.prog 19 #[.float .f64 x] w fun e w' => e = .returned (.float .f64 (if sg then r else fneg r)) ∧ ∃ n, w.drewN n = w' := by
  obtain ⟨g0, g1, g2, g3, g4, g5, k0, k1', k2', k3', k4', k5', hT⟩ := G
  have hcv := fun w => run_convert_float_int (P := Tryd.prog) w 22 33 .f64 .u64 p n (by kernel_rfl) Tryd.underlying33 cv
  cases sg
  · obtain rfl := hnb rfl
    go_enter Tryd.func19, Tryd.ntmps19
    go_wp2_with (first | (go_at_call 20; refine (mathIsNaN _ _).mono ?_; rintro e w' ⟨rfl, rfl⟩) | (go_at_call 21; refine (mathIsInf _ hx hn _).mono ?_; rintro e w' ⟨rfl, rfl⟩) | (go_at_call 23; refine (mathAbs _ hx _).mono ?_; rintro e w' ⟨rfl, rfl⟩))
    go_ret
    exact ⟨rfl, _, rfl⟩
  · obtain rfl := hna rfl
    go_enter Tryd.func19, Tryd.ntmps19
    go_wp2_with (first | (go_at_call 20; refine (mathIsNaN _ _).mono ?_; rintro e w' ⟨rfl, rfl⟩) | (go_at_call 21; refine (mathIsInf _ hx hn _).mono ?_; rintro e w' ⟨rfl, rfl⟩) | (go_at_call 23; refine (mathAbs _ hx _).mono ?_; rintro e w' ⟨rfl, rfl⟩))
    go_ret
    exact ⟨rfl, _, rfl⟩
set_option maxHeartbeats 4000000 in
theorem sinE6 (x a n y p u1 v1 u2 v2 u3 z t k1 k2 k3 g1 h1 g2 h2 g3 h3 g4 h4 g5 h5 k4 r : Nat) (sg : Bool) (w : World) (G : Gl w) (hx : x < 2 ^ 64) (ha : Ie.rg x = a) (hn : nan x = false) (hi : inf x = false)
    (hz : zero x = false) (hs : (D.order x 0 == some .lt) = sg) (hna : sg = true → fneg x = a) (hnb : sg = false → x = a)
    (hge : (D.order a 4737786807993761792 == some .gt || D.order a 4737786807993761792 == some .eq) = false)
    (cv : floatToIntVal .f64 p .u64 = some (n : Int)) (ci : floatOfInt .f64 (n : Int) = y) (par : bits .and .u64 (n : Int) 1 = 0) (oct : bits .and .u64 (n : Int) 7 = 6)
    (f0 : ∀ w, fval .mul a 4608412980311869571 w = p) (f0c : fcnt .mul a 4608412980311869571 = 0)
    (f1 : ∀ w, fval .mul y 4605249456957292544 w = u1) (f1c : fcnt .mul y 4605249456957292544 = 0)
    (f2 : ∀ w, fval .sub a u1 w = v1) (f2c : fcnt .sub a u1 = 0)
    (f3 : ∀ w, fval .mul y 4495793288086814720 w = u2) (f3c : fcnt .mul y 4495793288086814720 = 0)
    (f4 : ∀ w, fval .sub v1 u2 w = v2) (f4c : fcnt .sub v1 u2 = 0)
    (f5 : ∀ w, fval .mul y 4388835458085048688 w = u3) (f5c : fcnt .mul y 4388835458085048688 = 0)
    (f6 : ∀ w, fval .sub v2 u3 w = z) (f6c : fcnt .sub v2 u3 = 0)
    (f7 : ∀ w, fval .mul z z w = t) (f7c : fcnt .mul z z = 0)
    (f8 : ∀ w, fval .mul 4602678819172646912 t w = k1) (f8c : fcnt .mul 4602678819172646912 t = 0)
    (f9 : ∀ w, fval .sub 4607182418800017408 k1 w = k2) (f9c : fcnt .sub 4607182418800017408 k1 = 0)
    (f10 : ∀ w, fval .mul t t w = k3) (f10c : fcnt .mul t t = 0)
    (f11 : ∀ w, fval .mul 13666448263388469915 t w = g1) (f11c : fcnt .mul 13666448263388469915 t = 0)
    (f12 : ∀ w, fval .add g1 4477121864728985349 w = h1) (f12c : fcnt .add g1 4477121864728985349 = 0)
    (f13 : ∀ w, fval .mul h1 t w = g2) (f13c : fcnt .mul h1 t = 0)
    (f14 : ∀ w, fval .add g2 13732177093698800582 w = h2) (f14c : fcnt .add g2 13732177093698800582 = 0)
    (f15 : ∀ w, fval .mul h2 t w = g3) (f15c : fcnt .mul h2 t = 0)
    (f16 : ∀ w, fval .add g3 4537941361668146421 w = h3) (f16c : fcnt .add g3 4537941361668146421 = 0)
    (f17 : ∀ w, fval .mul h3 t w = g4) (f17c : fcnt .mul h3 t = 0)
    (f18 : ∀ w, fval .add g4 13787419979223748497 w = h4) (f18c : fcnt .add g4 13787419979223748497 = 0)
    (f19 : ∀ w, fval .mul h4 t w = g5) (f19c : fcnt .mul h4 t = 0)
    (f20 : ∀ w, fval .add g5 4586165620538955083 w = h5) (f20c : fcnt .add g5 4586165620538955083 = 0)
    (f21 : ∀ w, fval .mul k3 h5 w = k4) (f21c : fcnt .mul k3 h5 = 0)
    (f22 : ∀ w, fval .add k2 k4 w = r) (f22c : fcnt .add k2 k4 = 0) :
    Calls Tryd.prog 19 #[.float .f64 x] w fun e w' => e = .returned (.float .f64 (if sg then r else fneg r)) ∧ ∃ n, w.drewN n = w' := by
  obtain ⟨g0, g1, g2, g3, g4, g5, k0, k1', k2', k3', k4', k5', hT⟩ := G
  have hcv := fun w => run_convert_float_int (P := Tryd.prog) w 22 33 .f64 .u64 p n (by kernel_rfl) Tryd.underlying33 cv
  cases sg
  · obtain rfl := hnb rfl
    go_enter Tryd.func19, Tryd.ntmps19
    go_wp2_with (first | (go_at_call 20; refine (mathIsNaN _ _).mono ?_; rintro e w' ⟨rfl, rfl⟩) | (go_at_call 21; refine (mathIsInf _ hx hn _).mono ?_; rintro e w' ⟨rfl, rfl⟩) | (go_at_call 23; refine (mathAbs _ hx _).mono ?_; rintro e w' ⟨rfl, rfl⟩))
    go_ret
    exact ⟨rfl, _, rfl⟩
  · obtain rfl := hna rfl
    go_enter Tryd.func19, Tryd.ntmps19
    go_wp2_with (first | (go_at_call 20; refine (mathIsNaN _ _).mono ?_; rintro e w' ⟨rfl, rfl⟩) | (go_at_call 21; refine (mathIsInf _ hx hn _).mono ?_; rintro e w' ⟨rfl, rfl⟩) | (go_at_call 23; refine (mathAbs _ hx _).mono ?_; rintro e w' ⟨rfl, rfl⟩))
    go_ret
    exact ⟨rfl, _, rfl⟩
set_option maxHeartbeats 4000000 in
theorem sinO0 (x a n y0 n1 p y u1 v1 u2 v2 u3 z t k1 g1 h1 g2 h2 g3 h3 g4 h4 g5 h5 k2 r : Nat) (sg : Bool) (w : World) (G : Gl w) (hx : x < 2 ^ 64) (ha : Ie.rg x = a) (hn : nan x = false) (hi : inf x = false)
    (hz : zero x = false) (hs : (D.order x 0 == some .lt) = sg) (hna : sg = true → fneg x = a) (hnb : sg = false → x = a)
    (hge : (D.order a 4737786807993761792 == some .gt || D.order a 4737786807993761792 == some .eq) = false)
    (cv : floatToIntVal .f64 p .u64 = some (n : Int)) (ci : floatOfInt .f64 (n : Int) = y0) (par : bits .and .u64 (n : Int) 1 = 1) (inc : IntKind.u64.wrap ((n : Int) + 1) = (n1 : Int)) (oct : bits .and .u64 (n1 : Int) 7 = 0)
    (f0 : ∀ w, fval .mul a 4608412980311869571 w = p) (f0c : fcnt .mul a 4608412980311869571 = 0)
    (f1 : ∀ w, fval .add y0 4607182418800017408 w = y) (f1c : fcnt .add y0 4607182418800017408 = 0)
    (f2 : ∀ w, fval .mul y 4605249456957292544 w = u1) (f2c : fcnt .mul y 4605249456957292544 = 0)
    (f3 : ∀ w, fval .sub a u1 w = v1) (f3c : fcnt .sub a u1 = 0)
    (f4 : ∀ w, fval .mul y 4495793288086814720 w = u2) (f4c : fcnt .mul y 4495793288086814720 = 0)
    (f5 : ∀ w, fval .sub v1 u2 w = v2) (f5c : fcnt .sub v1 u2 = 0)
    (f6 : ∀ w, fval .mul y 4388835458085048688 w = u3) (f6c : fcnt .mul y 4388835458085048688 = 0)
    (f7 : ∀ w, fval .sub v2 u3 w = z) (f7c : fcnt .sub v2 u3 = 0)
    (f8 : ∀ w, fval .mul z z w = t) (f8c : fcnt .mul z z = 0)
    (f9 : ∀ w, fval .mul z t w = k1) (f9c : fcnt .mul z t = 0)
    (f10 : ∀ w, fval .mul 4460209587652500685 t w = g1) (f10c : fcnt .mul 4460209587652500685 t = 0)
    (f11 : ∀ w, fval .add g1 13716528389658582877 w = h1) (f11c : fcnt .add g1 13716528389658582877 = 0)
    (f12 : ∀ w, fval .mul h1 t w = g2) (f12c : fcnt .mul h1 t = 0)
    (f13 : ∀ w, fval .add g2 4523617212962785441 w = h2) (f13c : fcnt .add g2 4523617212962785441 = 0)
    (f14 : ∀ w, fval .mul h2 t w = g3) (f14c : fcnt .mul h2 t = 0)
    (f15 : ∀ w, fval .add g3 13774824197404483331 w = h3) (f15c : fcnt .add g3 13774824197404483331 = 0)
    (f16 : ∀ w, fval .mul h3 t w = g4) (f16c : fcnt .mul h3 t = 0)
    (f17 : ∀ w, fval .add g4 4575957461383575504 w = h4) (f17c : fcnt .add g4 4575957461383575504 = 0)
    (f18 : ∀ w, fval .mul h4 t w = g5) (f18c : fcnt .mul h4 t = 0)
    (f19 : ∀ w, fval .add g5 13818544856648471880 w = h5) (f19c : fcnt .add g5 13818544856648471880 = 0)
    (f20 : ∀ w, fval .mul k1 h5 w = k2) (f20c : fcnt .mul k1 h5 = 0)
    (f21 : ∀ w, fval .add z k2 w = r) (f21c : fcnt .add z k2 = 0) :
    Calls Tryd.prog 19 #[.float .f64 x] w fun e w' => e = .returned (.float .f64 (if sg then fneg r else r)) ∧ ∃ n, w.drewN n = w' := by
  obtain ⟨g0, g1, g2, g3, g4, g5, k0, k1', k2', k3', k4', k5', hT⟩ := G
  have hcv := fun w => run_convert_float_int (P := Tryd.prog) w 22 33 .f64 .u64 p n (by kernel_rfl) Tryd.underlying33 cv
  cases sg
  · obtain rfl := hnb rfl
    go_enter Tryd.func19, Tryd.ntmps19
    go_wp2_with (first | (go_at_call 20; refine (mathIsNaN _ _).mono ?_; rintro e w' ⟨rfl, rfl⟩) | (go_at_call 21; refine (mathIsInf _ hx hn _).mono ?_; rintro e w' ⟨rfl, rfl⟩) | (go_at_call 23; refine (mathAbs _ hx _).mono ?_; rintro e w' ⟨rfl, rfl⟩))
    go_ret
    exact ⟨rfl, _, rfl⟩
  · obtain rfl := hna rfl
    go_enter Tryd.func19, Tryd.ntmps19
    go_wp2_with (first | (go_at_call 20; refine (mathIsNaN _ _).mono ?_; rintro e w' ⟨rfl, rfl⟩) | (go_at_call 21; refine (mathIsInf _ hx hn _).mono ?_; rintro e w' ⟨rfl, rfl⟩) | (go_at_call 23; refine (mathAbs _ hx _).mono ?_; rintro e w' ⟨rfl, rfl⟩))
    go_ret
    exact ⟨rfl, _, rfl⟩
set_option maxHeartbeats 4000000 in
theorem sinO2 (x a n y0 n1 p y u1 v1 u2 v2 u3 z t k1 k2 k3 g1 h1 g2 h2 g3 h3 g4 h4 g5 h5 k4 r : Nat) (sg : Bool) (w : World) (G : Gl w) (hx : x < 2 ^ 64) (ha : Ie.rg x = a) (hn : nan x = false) (hi : inf x = false)
    (hz : zero x = false) (hs : (D.order x 0 == some .lt) = sg) (hna : sg = true → fneg x = a) (hnb : sg = false → x = a)
    (hge : (D.order a 4737786807993761792 == some .gt || D.order a 4737786807993761792 == some .eq) = false)
    (cv : floatToIntVal .f64 p .u64 = some (n : Int)) (ci : floatOfInt .f64 (n : Int) = y0) (par : bits .and .u64 (n : Int) 1 = 1) (inc : IntKind.u64.wrap ((n : Int) + 1) = (n1 : Int)) (oct : bits .and .u64 (n1 : Int) 7 = 2)
    (f0 : ∀ w, fval .mul a 4608412980311869571 w = p) (f0c : fcnt .mul a 4608412980311869571 = 0)
    (f1 : ∀ w, fval .add y0 4607182418800017408 w = y) (f1c : fcnt .add y0 4607182418800017408 = 0)
    (f2 : ∀ w, fval .mul y 4605249456957292544 w = u1) (f2c : fcnt .mul y 4605249456957292544 = 0)
    (f3 : ∀ w, fval .sub a u1 w = v1) (f3c : fcnt .sub a u1 = 0)
    (f4 : ∀ w, fval .mul y 4495793288086814720 w = u2) (f4c : fcnt .mul y 4495793288086814720 = 0)
    (f5 : ∀ w, fval .sub v1 u2 w = v2) (f5c : fcnt .sub v1 u2 = 0)
    (f6 : ∀ w, fval .mul y 4388835458085048688 w = u3) (f6c : fcnt .mul y 4388835458085048688 = 0)
    (f7 : ∀ w, fval .sub v2 u3 w = z) (f7c : fcnt .sub v2 u3 = 0)
    (f8 : ∀ w, fval .mul z z w = t) (f8c : fcnt .mul z z = 0)
    (f9 : ∀ w, fval .mul 4602678819172646912 t w = k1) (f9c : fcnt .mul 4602678819172646912 t = 0)
    (f10 : ∀ w, fval .sub 4607182418800017408 k1 w = k2) (f10c : fcnt .sub 4607182418800017408 k1 = 0)
    (f11 : ∀ w, fval .mul t t w = k3) (f11c : fcnt .mul t t = 0)
    (f12 : ∀ w, fval .mul 13666448263388469915 t w = g1) (f12c : fcnt .mul 13666448263388469915 t = 0)
    (f13 : ∀ w, fval .add g1 4477121864728985349 w = h1) (f13c : fcnt .add g1 4477121864728985349 = 0)
    (f14 : ∀ w, fval .mul h1 t w = g2) (f14c : fcnt .mul h1 t = 0)
    (f15 : ∀ w, fval .add g2 13732177093698800582 w = h2) (f15c : fcnt .add g2 13732177093698800582 = 0)
    (f16 : ∀ w, fval .mul h2 t w = g3) (f16c : fcnt .mul h2 t = 0)
    (f17 : ∀ w, fval .add g3 4537941361668146421 w = h3) (f17c : fcnt .add g3 4537941361668146421 = 0)
    (f18 : ∀ w, fval .mul h3 t w = g4) (f18c : fcnt .mul h3 t = 0)
    (f19 : ∀ w, fval .add g4 13787419979223748497 w = h4) (f19c : fcnt .add g4 13787419979223748497 = 0)
    (f20 : ∀ w, fval .mul h4 t w = g5) (f20c : fcnt .mul h4 t = 0)
    (f21 : ∀ w, fval .add g5 4586165620538955083 w = h5) (f21c : fcnt .add g5 4586165620538955083 = 0)
    (f22 : ∀ w, fval .mul k3 h5 w = k4) (f22c : fcnt .mul k3 h5 = 0)
    (f23 : ∀ w, fval .add k2 k4 w = r) (f23c : fcnt .add k2 k4 = 0) :
    Calls Tryd.prog 19 #[.float .f64 x] w fun e w' => e = .returned (.float .f64 (if sg then fneg r else r)) ∧ ∃ n, w.drewN n = w' := by
  obtain ⟨g0, g1, g2, g3, g4, g5, k0, k1', k2', k3', k4', k5', hT⟩ := G
  have hcv := fun w => run_convert_float_int (P := Tryd.prog) w 22 33 .f64 .u64 p n (by kernel_rfl) Tryd.underlying33 cv
  cases sg
  · obtain rfl := hnb rfl
    go_enter Tryd.func19, Tryd.ntmps19
    go_wp2_with (first | (go_at_call 20; refine (mathIsNaN _ _).mono ?_; rintro e w' ⟨rfl, rfl⟩) | (go_at_call 21; refine (mathIsInf _ hx hn _).mono ?_; rintro e w' ⟨rfl, rfl⟩) | (go_at_call 23; refine (mathAbs _ hx _).mono ?_; rintro e w' ⟨rfl, rfl⟩))
    go_ret
    exact ⟨rfl, _, rfl⟩
  · obtain rfl := hna rfl
    go_enter Tryd.func19, Tryd.ntmps19
    go_wp2_with (first | (go_at_call 20; refine (mathIsNaN _ _).mono ?_; rintro e w' ⟨rfl, rfl⟩) | (go_at_call 21; refine (mathIsInf _ hx hn _).mono ?_; rintro e w' ⟨rfl, rfl⟩) | (go_at_call 23; refine (mathAbs _ hx _).mono ?_; rintro e w' ⟨rfl, rfl⟩))
    go_ret
    exact ⟨rfl, _, rfl⟩
set_option maxHeartbeats 4000000 in
theorem sinO4 (x a n y0 n1 p y u1 v1 u2 v2 u3 z t k1 g1 h1 g2 h2 g3 h3 g4 h4 g5 h5 k2 r : Nat) (sg : Bool) (w : World) (G : Gl w) (hx : x < 2 ^ 64) (ha : Ie.rg x = a) (hn : nan x = false) (hi : inf x = false)
    (hz : zero x = false) (hs : (D.order x 0 == some .lt) = sg) (hna : sg = true → fneg x = a) (hnb : sg = false → x = a)
    (hge : (D.order a 4737786807993761792 == some .gt || D.order a 4737786807993761792 == some .eq) = false)
    (cv : floatToIntVal .f64 p .u64 = some (n : Int)) (ci : floatOfInt .f64 (n : Int) = y0) (par : bits .and .u64 (n : Int) 1 = 1) (inc : IntKind.u64.wrap ((n : Int) + 1) = (n1 : Int)) (oct : bits .and .u64 (n1 : Int) 7 = 4)
    (f0 : ∀ w, fval .mul a 4608412980311869571 w = p) (f0c : fcnt .mul a 4608412980311869571 = 0)
    (f1 : ∀ w, fval .add y0 4607182418800017408 w = y) (f1c : fcnt .add y0 4607182418800017408 = 0)
    (f2 : ∀ w, fval .mul y 4605249456957292544 w = u1) (f2c : fcnt .mul y 4605249456957292544 = 0)
    (f3 : ∀ w, fval .sub a u1 w = v1) (f3c : fcnt .sub a u1 = 0)
    (f4 : ∀ w, fval .mul y 4495793288086814720 w = u2) (f4c : fcnt .mul y 4495793288086814720 = 0)
    (f5 : ∀ w, fval .sub v1 u2 w = v2) (f5c : fcnt .sub v1 u2 = 0)
    (f6 : ∀ w, fval .mul y 4388835458085048688 w = u3) (f6c : fcnt .mul y 4388835458085048688 = 0)
    (f7 : ∀ w, fval .sub v2 u3 w = z) (f7c : fcnt .sub v2 u3 = 0)
    (f8 : ∀ w, fval .mul z z w = t) (f8c : fcnt .mul z z = 0)
    (f9 : ∀ w, fval .mul z t w = k1) (f9c : fcnt .mul z t = 0)
    (f10 : ∀ w, fval .mul 4460209587652500685 t w = g1) (f10c : fcnt .mul 4460209587652500685 t = 0)
    (f11 : ∀ w, fval .add g1 13716528389658582877 w = h1) (f11c : fcnt .add g1 13716528389658582877 = 0)
    (f12 : ∀ w, fval .mul h1 t w = g2) (f12c : fcnt .mul h1 t = 0)
    (f13 : ∀ w, fval .add g2 4523617212962785441 w = h2) (f13c : fcnt .add g2 4523617212962785441 = 0)
    (f14 : ∀ w, fval .mul h2 t w = g3) (f14c : fcnt .mul h2 t = 0)
    (f15 : ∀ w, fval .add g3 13774824197404483331 w = h3) (f15c : fcnt .add g3 13774824197404483331 = 0)
    (f16 : ∀ w, fval .mul h3 t w = g4) (f16c : fcnt .mul h3 t = 0)
    (f17 : ∀ w, fval .add g4 4575957461383575504 w = h4) (f17c : fcnt .add g4 4575957461383575504 = 0)
    (f18 : ∀ w, fval .mul h4 t w = g5) (f18c : fcnt .mul h4 t = 0)
    (f19 : ∀ w, fval .add g5 13818544856648471880 w = h5) (f19c : fcnt .add g5 13818544856648471880 = 0)
    (f20 : ∀ w, fval .mul k1 h5 w = k2) (f20c : fcnt .mul k1 h5 = 0)
    (f21 : ∀ w, fval .add z k2 w = r) (f21c : fcnt .add z k2 = 0) :
    Calls Tryd.prog 19 #[.float .f64 x] w fun e w' => e = .returned (.float .f64 (if sg then r else fneg r)) ∧ ∃ n, w.drewN n = w' := by
  obtain ⟨g0, g1, g2, g3, g4, g5, k0, k1', k2', k3', k4', k5', hT⟩ := G
  have hcv := fun w => run_convert_float_int (P := Tryd.prog) w 22 33 .f64 .u64 p n (by kernel_rfl) Tryd.underlying33 cv
  cases sg
  · obtain rfl := hnb rfl
    go_enter Tryd.func19, Tryd.ntmps19
    go_wp2_with (first | (go_at_call 20; refine (mathIsNaN _ _).mono ?_; rintro e w' ⟨rfl, rfl⟩) | (go_at_call 21; refine (mathIsInf _ hx hn _).mono ?_; rintro e w' ⟨rfl, rfl⟩) | (go_at_call 23; refine (mathAbs _ hx _).mono ?_; rintro e w' ⟨rfl, rfl⟩))
    go_ret
    exact ⟨rfl, _, rfl⟩
  · obtain rfl := hna rfl
    go_enter Tryd.func19, Tryd.ntmps19
    go_wp2_with (first | (go_at_call 20; refine (mathIsNaN _ _).mono ?_; rintro e w' ⟨rfl, rfl⟩) | (go_at_call 21; refine (mathIsInf _ hx hn _).mono ?_; rintro e w' ⟨rfl, rfl⟩) | (go_at_call 23; refine (mathAbs _ hx _).mono ?_; rintro e w' ⟨rfl, rfl⟩))
    go_ret
    exact ⟨rfl, _, rfl⟩
set_option maxHeartbeats 4000000 in
theorem sinO6 (x a n y0 n1 p y u1 v1 u2 v2 u3 z t k1 k2 k3 g1 h1 g2 h2 g3 h3 g4 h4 g5 h5 k4 r : Nat) (sg : Bool) (w : World) (G : Gl w) (hx : x < 2 ^ 64) (ha : Ie.rg x = a) (hn : nan x = false) (hi : inf x = false)
    (hz : zero x = false) (hs : (D.order x 0 == some .lt) = sg) (hna : sg = true → fneg x = a) (hnb : sg = false → x = a)
    (hge : (D.order a 4737786807993761792 == some .gt || D.order a 4737786807993761792 == some .eq) = false)
    (cv : floatToIntVal .f64 p .u64 = some (n : Int)) (ci : floatOfInt .f64 (n : Int) = y0) (par : bits .and .u64 (n : Int) 1 = 1) (inc : IntKind.u64.wrap ((n : Int) + 1) = (n1 : Int)) (oct : bits .and .u64 (n1 : Int) 7 = 6)
    (f0 : ∀ w, fval .mul a 4608412980311869571 w = p) (f0c : fcnt .mul a 4608412980311869571 = 0)
    (f1 : ∀ w, fval .add y0 4607182418800017408 w = y) (f1c : fcnt .add y0 4607182418800017408 = 0)
    (f2 : ∀ w, fval .mul y 4605249456957292544 w = u1) (f2c : fcnt .mul y 4605249456957292544 = 0)
    (f3 : ∀ w, fval .sub a u1 w = v1) (f3c : fcnt .sub a u1 = 0)
    (f4 : ∀ w, fval .mul y 4495793288086814720 w = u2) (f4c : fcnt .mul y 4495793288086814720 = 0)
    (f5 : ∀ w, fval .sub v1 u2 w = v2) (f5c : fcnt .sub v1 u2 = 0)
    (f6 : ∀ w, fval .mul y 4388835458085048688 w = u3) (f6c : fcnt .mul y 4388835458085048688 = 0)
    (f7 : ∀ w, fval .sub v2 u3 w = z) (f7c : fcnt .sub v2 u3 = 0)
    (f8 : ∀ w, fval .mul z z w = t) (f8c : fcnt .mul z z = 0)
    (f9 : ∀ w, fval .mul 4602678819172646912 t w = k1) (f9c : fcnt .mul 4602678819172646912 t = 0)
    (f10 : ∀ w, fval .sub 4607182418800017408 k1 w = k2) (f10c : fcnt .sub 4607182418800017408 k1 = 0)
    (f11 : ∀ w, fval .mul t t w = k3) (f11c : fcnt .mul t t = 0)
    (f12 : ∀ w, fval .mul 13666448263388469915 t w = g1) (f12c : fcnt .mul 13666448263388469915 t = 0)
    (f13 : ∀ w, fval .add g1 4477121864728985349 w = h1) (f13c : fcnt .add g1 4477121864728985349 = 0)
    (f14 : ∀ w, fval .mul h1 t w = g2) (f14c : fcnt .mul h1 t = 0)
    (f15 : ∀ w, fval .add g2 13732177093698800582 w = h2) (f15c : fcnt .add g2 13732177093698800582 = 0)
    (f16 : ∀ w, fval .mul h2 t w = g3) (f16c : fcnt .mul h2 t = 0)
    (f17 : ∀ w, fval .add g3 4537941361668146421 w = h3) (f17c : fcnt .add g3 4537941361668146421 = 0)
    (f18 : ∀ w, fval .mul h3 t w = g4) (f18c : fcnt .mul h3 t = 0)
    (f19 : ∀ w, fval .add g4 13787419979223748497 w = h4) (f19c : fcnt .add g4 13787419979223748497 = 0)
    (f20 : ∀ w, fval .mul h4 t w = g5) (f20c : fcnt .mul h4 t = 0)
    (f21 : ∀ w, fval .add g5 4586165620538955083 w = h5) (f21c : fcnt .add g5 4586165620538955083 = 0)
    (f22 : ∀ w, fval .mul k3 h5 w = k4) (f22c : fcnt .mul k3 h5 = 0)
    (f23 : ∀ w, fval .add k2 k4 w = r) (f23c : fcnt .add k2 k4 = 0) :
    Calls Tryd.prog 19 #[.float .f64 x] w fun e w' => e = .returned (.float .f64 (if sg then r else fneg r)) ∧ ∃ n, w.drewN n = w' := by
  obtain ⟨g0, g1, g2, g3, g4, g5, k0, k1', k2', k3', k4', k5', hT⟩ := G
  have hcv := fun w => run_convert_float_int (P := Tryd.prog) w 22 33 .f64 .u64 p n (by kernel_rfl) Tryd.underlying33 cv
  cases sg
  · obtain rfl := hnb rfl
    go_enter Tryd.func19, Tryd.ntmps19
    go_wp2_with (first | (go_at_call 20; refine (mathIsNaN _ _).mono ?_; rintro e w' ⟨rfl, rfl⟩) | (go_at_call 21; refine (mathIsInf _ hx hn _).mono ?_; rintro e w' ⟨rfl, rfl⟩) | (go_at_call 23; refine (mathAbs _ hx _).mono ?_; rintro e w' ⟨rfl, rfl⟩))
    go_ret
    exact ⟨rfl, _, rfl⟩
  · obtain rfl := hna rfl
    go_enter Tryd.func19, Tryd.ntmps19
    go_wp2_with (first | (go_at_call 20; refine (mathIsNaN _ _).mono ?_; rintro e w' ⟨rfl, rfl⟩) | (go_at_call 21; refine (mathIsInf _ hx hn _).mono ?_; rintro e w' ⟨rfl, rfl⟩) | (go_at_call 23; refine (mathAbs _ hx _).mono ?_; rintro e w' ⟨rfl, rfl⟩))
    go_ret
    exact ⟨rfl, _, rfl⟩
set_option maxHeartbeats 4000000 in
theorem sinB0 (x a z t k1 g1 h1 g2 h2 g3 h3 g4 h4 g5 h5 k2 r : Nat) (sg : Bool) (w : World) (G : Gl w) (hx : x < 2 ^ 64) (ha : Ie.rg x = a) (hn : nan x = false) (hi : inf x = false)
    (hz : zero x = false) (hs : (D.order x 0 == some .lt) = sg) (hna : sg = true → fneg x = a) (hnb : sg = false → x = a)
    (hge : (D.order a 4737786807993761792 == some .gt || D.order a 4737786807993761792 == some .eq) = true)
    (T : ∀ w, Tab w → Calls Tryd.prog 24 #[.float .f64 a] w fun e w' => e = .returned (.tuple #[.int .u64 0, .float .f64 z]) ∧ w.drewN 3 = w')
    (f0 : ∀ w, fval .mul z z w = t) (f0c : fcnt .mul z z = 0)
    (f1 : ∀ w, fval .mul z t w = k1) (f1c : fcnt .mul z t = 0)
    (f2 : ∀ w, fval .mul 4460209587652500685 t w = g1) (f2c : fcnt .mul 4460209587652500685 t = 0)
    (f3 : ∀ w, fval .add g1 13716528389658582877 w = h1) (f3c : fcnt .add g1 13716528389658582877 = 0)
    (f4 : ∀ w, fval .mul h1 t w = g2) (f4c : fcnt .mul h1 t = 0)
    (f5 : ∀ w, fval .add g2 4523617212962785441 w = h2) (f5c : fcnt .add g2 4523617212962785441 = 0)
    (f6 : ∀ w, fval .mul h2 t w = g3) (f6c : fcnt .mul h2 t = 0)
    (f7 : ∀ w, fval .add g3 13774824197404483331 w = h3) (f7c : fcnt .add g3 13774824197404483331 = 0)
    (f8 : ∀ w, fval .mul h3 t w = g4) (f8c : fcnt .mul h3 t = 0)
    (f9 : ∀ w, fval .add g4 4575957461383575504 w = h4) (f9c : fcnt .add g4 4575957461383575504 = 0)
    (f10 : ∀ w, fval .mul h4 t w = g5) (f10c : fcnt .mul h4 t = 0)
    (f11 : ∀ w, fval .add g5 13818544856648471880 w = h5) (f11c : fcnt .add g5 13818544856648471880 = 0)
    (f12 : ∀ w, fval .mul k1 h5 w = k2) (f12c : fcnt .mul k1 h5 = 0)
    (f13 : ∀ w, fval .add z k2 w = r) (f13c : fcnt .add z k2 = 0) :
    Calls Tryd.prog 19 #[.float .f64 x] w fun e w' => e = .returned (.float .f64 (if sg then fneg r else r)) ∧ ∃ n, w.drewN n = w' := by
  obtain ⟨g0, g1, g2, g3, g4, g5, k0, k1', k2', k3', k4', k5', hT⟩ := G
  cases sg
  · obtain rfl := hnb rfl
    go_enter Tryd.func19, Tryd.ntmps19
    go_wp2_with (first | (go_at_call 20; refine (mathIsNaN _ _).mono ?_; rintro e w' ⟨rfl, rfl⟩) | (go_at_call 21; refine (mathIsInf _ hx hn _).mono ?_; rintro e w' ⟨rfl, rfl⟩) | (go_at_call 23; refine (mathAbs _ hx _).mono ?_; rintro e w' ⟨rfl, rfl⟩) | (go_at_call 24; refine (T _ hT).mono ?_; rintro e w' ⟨rfl, rfl⟩))
    go_ret
    exact ⟨rfl, _, rfl⟩
  · obtain rfl := hna rfl
    go_enter Tryd.func19, Tryd.ntmps19
    go_wp2_with (first | (go_at_call 20; refine (mathIsNaN _ _).mono ?_; rintro e w' ⟨rfl, rfl⟩) | (go_at_call 21; refine (mathIsInf _ hx hn _).mono ?_; rintro e w' ⟨rfl, rfl⟩) | (go_at_call 23; refine (mathAbs _ hx _).mono ?_; rintro e w' ⟨rfl, rfl⟩) | (go_at_call 24; refine (T _ hT).mono ?_; rintro e w' ⟨rfl, rfl⟩))
    go_ret
    exact ⟨rfl, _, rfl⟩
set_option maxHeartbeats 4000000 in
theorem sinB2 (x a z t k1 k2 k3 g1 h1 g2 h2 g3 h3 g4 h4 g5 h5 k4 r : Nat) (sg : Bool) (w : World) (G : Gl w) (hx : x < 2 ^ 64) (ha : Ie.rg x = a) (hn : nan x = false) (hi : inf x = false)
    (hz : zero x = false) (hs : (D.order x 0 == some .lt) = sg) (hna : sg = true → fneg x = a) (hnb : sg = false → x = a)
    (hge : (D.order a 4737786807993761792 == some .gt || D.order a 4737786807993761792 == some .eq) = true)
    (T : ∀ w, Tab w → Calls Tryd.prog 24 #[.float .f64 a] w fun e w' => e = .returned (.tuple #[.int .u64 2, .float .f64 z]) ∧ w.drewN 3 = w')
    (f0 : ∀ w, fval .mul z z w = t) (f0c : fcnt .mul z z = 0)
    (f1 : ∀ w, fval .mul 4602678819172646912 t w = k1) (f1c : fcnt .mul 4602678819172646912 t = 0)
    (f2 : ∀ w, fval .sub 4607182418800017408 k1 w = k2) (f2c : fcnt .sub 4607182418800017408 k1 = 0)
    (f3 : ∀ w, fval .mul t t w = k3) (f3c : fcnt .mul t t = 0)
    (f4 : ∀ w, fval .mul 13666448263388469915 t w = g1) (f4c : fcnt .mul 13666448263388469915 t = 0)
    (f5 : ∀ w, fval .add g1 4477121864728985349 w = h1) (f5c : fcnt .add g1 4477121864728985349 = 0)
    (f6 : ∀ w, fval .mul h1 t w = g2) (f6c : fcnt .mul h1 t = 0)
    (f7 : ∀ w, fval .add g2 13732177093698800582 w = h2) (f7c : fcnt .add g2 13732177093698800582 = 0)
    (f8 : ∀ w, fval .mul h2 t w = g3) (f8c : fcnt .mul h2 t = 0)
    (f9 : ∀ w, fval .add g3 4537941361668146421 w = h3) (f9c : fcnt .add g3 4537941361668146421 = 0)
    (f10 : ∀ w, fval .mul h3 t w = g4) (f10c : fcnt .mul h3 t = 0)
    (f11 : ∀ w, fval .add g4 13787419979223748497 w = h4) (f11c : fcnt .add g4 13787419979223748497 = 0)
    (f12 : ∀ w, fval .mul h4 t w = g5) (f12c : fcnt .mul h4 t = 0)
    (f13 : ∀ w, fval .add g5 4586165620538955083 w = h5) (f13c : fcnt .add g5 4586165620538955083 = 0)
    (f14 : ∀ w, fval .mul k3 h5 w = k4) (f14c : fcnt .mul k3 h5 = 0)
    (f15 : ∀ w, fval .add k2 k4 w = r) (f15c : fcnt .add k2 k4 = 0) :
    Calls Tryd.prog 19 #[.float .f64 x] w fun e w' => e = .returned (.float .f64 (if sg then fneg r else r)) ∧ ∃ n, w.drewN n = w' := by
  obtain ⟨g0, g1, g2, g3, g4, g5, k0, k1', k2', k3', k4', k5', hT⟩ := G
  cases sg
  · obtain rfl := hnb rfl
    go_enter Tryd.func19, Tryd.ntmps19
    go_wp2_with (first | (go_at_call 20; refine (mathIsNaN _ _).mono ?_; rintro e w' ⟨rfl, rfl⟩) | (go_at_call 21; refine (mathIsInf _ hx hn _).mono ?_; rintro e w' ⟨rfl, rfl⟩) | (go_at_call 23; refine (mathAbs _ hx _).mono ?_; rintro e w' ⟨rfl, rfl⟩) | (go_at_call 24; refine (T _ hT).mono ?_; rintro e w' ⟨rfl, rfl⟩))
    go_ret
    exact ⟨rfl, _, rfl⟩
  · obtain rfl := hna rfl
    go_enter Tryd.func19, Tryd.ntmps19
    go_wp2_with (first | (go_at_call 20; refine (mathIsNaN _ _).mono ?_; rintro e w' ⟨rfl, rfl⟩) | (go_at_call 21; refine (mathIsInf _ hx hn _).mono ?_; rintro e w' ⟨rfl, rfl⟩) | (go_at_call 23; refine (mathAbs _ hx _).mono ?_; rintro e w' ⟨rfl, rfl⟩) | (go_at_call 24; refine (T _ hT).mono ?_; rintro e w' ⟨rfl, rfl⟩))
    go_ret
    exact ⟨rfl, _, rfl⟩
set_option maxHeartbeats 4000000 in
theorem sinB4 (x a z t k1 g1 h1 g2 h2 g3 h3 g4 h4 g5 h5 k2 r : Nat) (sg : Bool) (w : World) (G : Gl w) (hx : x < 2 ^ 64) (ha : Ie.rg x = a) (hn : nan x = false) (hi : inf x = false)
    (hz : zero x = false) (hs : (D.order x 0 == some .lt) = sg) (hna : sg = true → fneg x = a) (hnb : sg = false → x = a)
    (hge : (D.order a 4737786807993761792 == some .gt || D.order a 4737786807993761792 == some .eq) = true)
    (T : ∀ w, Tab w → Calls Tryd.prog 24 #[.float .f64 a] w fun e w' => e = .returned (.tuple #[.int .u64 4, .float .f64 z]) ∧ w.drewN 3 = w')
    (f0 : ∀ w, fval .mul z z w = t) (f0c : fcnt .mul z z = 0)
    (f1 : ∀ w, fval .mul z t w = k1) (f1c : fcnt .mul z t = 0)
    (f2 : ∀ w, fval .mul 4460209587652500685 t w = g1) (f2c : fcnt .mul 4460209587652500685 t = 0)
    (f3 : ∀ w, fval .add g1 13716528389658582877 w = h1) (f3c : fcnt .add g1 13716528389658582877 = 0)
    (f4 : ∀ w, fval .mul h1 t w = g2) (f4c : fcnt .mul h1 t = 0)
    (f5 : ∀ w, fval .add g2 4523617212962785441 w = h2) (f5c : fcnt .add g2 4523617212962785441 = 0)
    (f6 : ∀ w, fval .mul h2 t w = g3) (f6c : fcnt .mul h2 t = 0)
    (f7 : ∀ w, fval .add g3 13774824197404483331 w = h3) (f7c : fcnt .add g3 13774824197404483331 = 0)
    (f8 : ∀ w, fval .mul h3 t w = g4) (f8c : fcnt .mul h3 t = 0)
    (f9 : ∀ w, fval .add g4 4575957461383575504 w = h4) (f9c : fcnt .add g4 4575957461383575504 = 0)
    (f10 : ∀ w, fval .mul h4 t w = g5) (f10c : fcnt .mul h4 t = 0)
    (f11 : ∀ w, fval .add g5 13818544856648471880 w = h5) (f11c : fcnt .add g5 13818544856648471880 = 0)
    (f12 : ∀ w, fval .mul k1 h5 w = k2) (f12c : fcnt .mul k1 h5 = 0)
    (f13 : ∀ w, fval .add z k2 w = r) (f13c : fcnt .add z k2 = 0) :
    Calls Tryd.prog 19 #[.float .f64 x] w fun e w' => e = .returned (.float .f64 (if sg then r else fneg r)) ∧ ∃ n, w.drewN n = w' := by
  obtain ⟨g0, g1, g2, g3, g4, g5, k0, k1', k2', k3', k4', k5', hT⟩ := G
  cases sg
  · obtain rfl := hnb rfl
    go_enter Tryd.func19, Tryd.ntmps19
    go_wp2_with (first | (go_at_call 20; refine (mathIsNaN _ _).mono ?_; rintro e w' ⟨rfl, rfl⟩) | (go_at_call 21; refine (mathIsInf _ hx hn _).mono ?_; rintro e w' ⟨rfl, rfl⟩) | (go_at_call 23; refine (mathAbs _ hx _).mono ?_; rintro e w' ⟨rfl, rfl⟩) | (go_at_call 24; refine (T _ hT).mono ?_; rintro e w' ⟨rfl, rfl⟩))
    go_ret
    exact ⟨rfl, _, rfl⟩
  · obtain rfl := hna rfl
    go_enter Tryd.func19, Tryd.ntmps19
    go_wp2_with (first | (go_at_call 20; refine (mathIsNaN _ _).mono ?_; rintro e w' ⟨rfl, rfl⟩) | (go_at_call 21; refine (mathIsInf _ hx hn _).mono ?_; rintro e w' ⟨rfl, rfl⟩) | (go_at_call 23; refine (mathAbs _ hx _).mono ?_; rintro e w' ⟨rfl, rfl⟩) | (go_at_call 24; refine (T _ hT).mono ?_; rintro e w' ⟨rfl, rfl⟩))
    go_ret
    exact ⟨rfl, _, rfl⟩
set_option maxHeartbeats 4000000 in
theorem sinB6 (x a z t k1 k2 k3 g1 h1 g2 h2 g3 h3 g4 h4 g5 h5 k4 r : Nat) (sg : Bool) (w : World) (G : Gl w) (hx : x < 2 ^ 64) (ha : Ie.rg x = a) (hn : nan x = false) (hi : inf x = false)
    (hz : zero x = false) (hs : (D.order x 0 == some .lt) = sg) (hna : sg = true → fneg x = a) (hnb : sg = false → x = a)
    (hge : (D.order a 4737786807993761792 == some .gt || D.order a 4737786807993761792 == some .eq) = true)
    (T : ∀ w, Tab w → Calls Tryd.prog 24 #[.float .f64 a] w fun e w' => e = .returned (.tuple #[.int .u64 6, .float .f64 z]) ∧ w.drewN 3 = w')
    (f0 : ∀ w, fval .mul z z w = t) (f0c : fcnt .mul z z = 0)
    (f1 : ∀ w, fval .mul 4602678819172646912 t w = k1) (f1c : fcnt .mul 4602678819172646912 t = 0)
    (f2 : ∀ w, fval .sub 4607182418800017408 k1 w = k2) (f2c : fcnt .sub 4607182418800017408 k1 = 0)
    (f3 : ∀ w, fval .mul t t w = k3) (f3c : fcnt .mul t t = 0)
    (f4 : ∀ w, fval .mul 13666448263388469915 t w = g1) (f4c : fcnt .mul 13666448263388469915 t = 0)
    (f5 : ∀ w, fval .add g1 4477121864728985349 w = h1) (f5c : fcnt .add g1 4477121864728985349 = 0)
    (f6 : ∀ w, fval .mul h1 t w = g2) (f6c : fcnt .mul h1 t = 0)
    (f7 : ∀ w, fval .add g2 13732177093698800582 w = h2) (f7c : fcnt .add g2 13732177093698800582 = 0)
    (f8 : ∀ w, fval .mul h2 t w = g3) (f8c : fcnt .mul h2 t = 0)
    (f9 : ∀ w, fval .add g3 4537941361668146421 w = h3) (f9c : fcnt .add g3 4537941361668146421 = 0)
    (f10 : ∀ w, fval .mul h3 t w = g4) (f10c : fcnt .mul h3 t = 0)
    (f11 : ∀ w, fval .add g4 13787419979223748497 w = h4) (f11c : fcnt .add g4 13787419979223748497 = 0)
    (f12 : ∀ w, fval .mul h4 t w = g5) (f12c : fcnt .mul h4 t = 0)
    (f13 : ∀ w, fval .add g5 4586165620538955083 w = h5) (f13c : fcnt .add g5 4586165620538955083 = 0)
    (f14 : ∀ w, fval .mul k3 h5 w = k4) (f14c : fcnt .mul k3 h5 = 0)
    (f15 : ∀ w, fval .add k2 k4 w = r) (f15c : fcnt .add k2 k4 = 0) :
    Calls Tryd.prog 19 #[.float .f64 x] w fun e w' => e = .returned (.float .f64 (if sg then r else fneg r)) ∧ ∃ n, w.drewN n = w' := by
  obtain ⟨g0, g1, g2, g3, g4, g5, k0, k1', k2', k3', k4', k5', hT⟩ := G
  cases sg
  · obtain rfl := hnb rfl
    go_enter Tryd.func19, Tryd.ntmps19
    go_wp2_with (first | (go_at_call 20; refine (mathIsNaN _ _).mono ?_; rintro e w' ⟨rfl, rfl⟩) | (go_at_call 21; refine (mathIsInf _ hx hn _).mono ?_; rintro e w' ⟨rfl, rfl⟩) | (go_at_call 23; refine (mathAbs _ hx _).mono ?_; rintro e w' ⟨rfl, rfl⟩) | (go_at_call 24; refine (T _ hT).mono ?_; rintro e w' ⟨rfl, rfl⟩))
    go_ret
    exact ⟨rfl, _, rfl⟩
  · obtain rfl := hna rfl
    go_enter Tryd.func19, Tryd.ntmps19
    go_wp2_with (first | (go_at_call 20; refine (mathIsNaN _ _).mono ?_; rintro e w' ⟨rfl, rfl⟩) | (go_at_call 21; refine (mathIsInf _ hx hn _).mono ?_; rintro e w' ⟨rfl, rfl⟩) | (go_at_call 23; refine (mathAbs _ hx _).mono ?_; rintro e w' ⟨rfl, rfl⟩) | (go_at_call 24; refine (T _ hT).mono ?_; rintro e w' ⟨rfl, rfl⟩))
    go_ret
    exact ⟨rfl, _, rfl⟩
end Go.Proofs.YtknidlahblfnnaaDoor.Ce
