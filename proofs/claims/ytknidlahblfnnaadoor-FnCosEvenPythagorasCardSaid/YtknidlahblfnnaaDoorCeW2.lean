/-
  The walk of math.trigReduce. Its condition: a float of at least 2 ^ 29.
-/
import Derived.Test.YtknidlahblfnnaaDoorCeW1
import Derived.Test.YtknidlahblfnnaaDoorShelfCe
namespace Go.Proofs.YtknidlahblfnnaaDoor.Ce
open Go Go.RowKit Fl Small2 Mono Ieee

def tab : List Int := [1, 5040379952546458195, 17892431488136887169, 13169980181085364355, 18204331823439776451, 7946843935494350272, 905889640498799673, 18175356263134875261, 15061281708168349961, 15220161563773041794, 8296664548579374057, 4109744767560208502, 4607516669194743839, 16023283104648321598, 15739233654134936430, 11424645774684705882, 16883842788696515318, 8795094592981902804, 15561835991111744016, 12395701187267450711]
def Tab (w : World) : Prop := ∀ i, i < 20 → w.cell? ⟨3, i, none⟩ = some (.int .u64 (tab.getD i 0))
theorem add64 (x y c : Int) (hx : 0 ≤ x) (hy : 0 ≤ y) (hc0 : 0 ≤ c) (hc : c ≤ 1) (w : World) : (callFunc 28 #[.int .u64 x, .int .u64 y, .int .u64 c]).run Tryd.prog w =
    .ok (.value (.tuple #[.int .u64 ((x + y + c) % 18446744073709551616), .int .u64 ((x + y + c) / 18446744073709551616)])) w := by
  rw [run_callFunc_extern (fn := Tryd.f28) Tryd.func28 (by kernel_rfl) (by kernel_rfl) (by kernel_rfl) (e := add64Entry) (by kernel_rfl)]
  rw [run_add64 x y c hx hy hc0 hc w]
  rfl
def mh (x y : Int) : Int := ((x.toNat * y.toNat / 18446744073709551616 : Nat) : Int)
def ml (x y : Int) : Int := ((x.toNat * y.toNat % 18446744073709551616 : Nat) : Int)
theorem mul64 (x y : Int) (hx : 0 ≤ x ∧ x < 18446744073709551616) (hy : 0 ≤ y ∧ y < 18446744073709551616) (w : World) :
    Calls Tryd.prog 27 #[.int .u64 x, .int .u64 y] w fun e w' => e = .returned (.tuple #[.int .u64 (mh x y), .int .u64 (ml x y)]) ∧ w' = w := by
  have h := Tryd.bits_Mul64 x.toNat y.toNat (by omega) (by omega) w
  have e1 : (x.toNat : Int) = x := by omega
  have e2 : (y.toNat : Int) = y := by omega
  rw [e1, e2] at h
  exact h
theorem mh_rng (x y : Int) (hx : 0 ≤ x ∧ x < 18446744073709551616) (hy : 0 ≤ y ∧ y < 18446744073709551616) : 0 ≤ mh x y ∧ mh x y < 18446744073709551616 := by
  refine ⟨Int.natCast_nonneg _, ?_⟩
  unfold mh
  have a : x.toNat < 18446744073709551616 := by omega
  have b : y.toNat < 18446744073709551616 := by omega
  have : x.toNat * y.toNat / 18446744073709551616 < 18446744073709551616 := by
    rw [Nat.div_lt_iff_lt_mul (by decide)]
    exact Nat.mul_lt_mul'' a b
  omega
theorem ml_rng (x y : Int) : 0 ≤ ml x y ∧ ml x y < 18446744073709551616 := by
  refine ⟨Int.natCast_nonneg _, ?_⟩
  unfold ml
  have := Nat.mod_lt (x.toNat * y.toNat) (show 0 < 18446744073709551616 by decide)
  omega
set_option maxHeartbeats 400000 in
theorem trigO (x m d q r z0 z1 z2 z0l lo cc hi cd j0 h2 lz zb j2 zs zr : Nat) (a b c t0 t1 t2 t3 : Int) (w : World)
    (hlss : (D.order x 4605249457297304856 == some .lt) = false)
    (e1 : bits .and .u64 ((x : Int) / 4503599627370496) 2047 = a) (e2 : wrap64 a = a) (e3 : wrap64 (a - 1023) = b) (e4 : wrap64 (b - 52) = c) (e5 : wrap64 (c + 61) = (d : Int))
    (e6 : IntKind.u64.wrap (d : Int) = (d : Int)) (e7 : (d : Int).tdiv 64 = (q : Int)) (e8 : (d : Int).tmod 64 = (r : Int)) (e9 : IntKind.u64.wrap (q : Int) = (q : Int))
    (e10 : bits .or .u64 (bits .andNot .u64 (x : Int) 9218868437227405312) 4503599627370496 = (m : Int))
    (e11 : IntKind.u64.wrap ((q : Int) + 1) = ((q + 1 : Nat) : Int)) (e12 : IntKind.u64.wrap ((q : Int) + 2) = ((q + 2 : Nat) : Int)) (e13 : IntKind.u64.wrap ((q : Int) + 3) = ((q + 3 : Nat) : Int))
    (c0 : w.cell? ⟨3, q, none⟩ = some (.int .u64 t0)) (c1 : w.cell? ⟨3, q + 1, none⟩ = some (.int .u64 t1)) (c2 : w.cell? ⟨3, q + 2, none⟩ = some (.int .u64 t2)) (c3 : w.cell? ⟨3, q + 3, none⟩ = some (.int .u64 t3)) (hq : q ≤ 16)
    (e15 : bits .or .u64 (IntKind.u64.wrap (t0 * 2 ^ min r 64)) (t1 / 2 ^ min (IntKind.u64.wrap (64 - (r : Int))).toNat 64) = (z0 : Int))
    (e16 : bits .or .u64 (IntKind.u64.wrap (t1 * 2 ^ min r 64)) (t2 / 2 ^ min (IntKind.u64.wrap (64 - (r : Int))).toNat 64) = (z1 : Int))
    (e17 : bits .or .u64 (IntKind.u64.wrap (t2 * 2 ^ min r 64)) (t3 / 2 ^ min (IntKind.u64.wrap (64 - (r : Int))).toNat 64) = (z2 : Int))
    (zr1 : 0 ≤ (z1 : Int) ∧ (z1 : Int) < 18446744073709551616) (zr2 : 0 ≤ (z2 : Int) ∧ (z2 : Int) < 18446744073709551616) (mr : 0 ≤ (m : Int) ∧ (m : Int) < 18446744073709551616)
    (m0 : IntKind.u64.wrap ((z0 : Int) * (m : Int)) = (z0l : Int))
    (a1 : ∀ w, (callFunc 28 #[.int .u64 (ml z1 m), .int .u64 (mh z2 m), .int .u64 0]).run Tryd.prog w = .ok (.value (.tuple #[.int .u64 lo, .int .u64 cc])) w)
    (a0 : ∀ w, (callFunc 28 #[.int .u64 z0l, .int .u64 (mh z1 m), .int .u64 cc]).run Tryd.prog w = .ok (.value (.tuple #[.int .u64 hi, .int .u64 cd])) w)
    (e18 : (hi : Int) / 2305843009213693952 = (j0 : Int))
    (e19 : bits .or .u64 (IntKind.u64.wrap ((hi : Int) * 8)) ((lo : Int) / 2305843009213693952) = (h2 : Int))
    (l1 : ∀ w, Calls Tryd.prog 29 #[.int .u64 h2] w fun e w' => e = .returned (.int .i64 lz) ∧ w' = w)
    (e20 : bits .or .u64 (bits .or .u64 (IntKind.u64.wrap ((h2 : Int) * 2 ^ min (IntKind.u64.wrap (IntKind.u64.wrap (lz : Int) + 1)).toNat 64)) ((lo : Int) / 2 ^ min (IntKind.u64.wrap (64 - IntKind.u64.wrap (IntKind.u64.wrap (lz : Int) + 1))).toNat 64) / 4096)
      (IntKind.u64.wrap (IntKind.u64.wrap (1023 - IntKind.u64.wrap (IntKind.u64.wrap (lz : Int) + 1)) * 4503599627370496)) = (zb : Int))
    (e21 : bits .and .u64 (j0 : Int) 1 = 1) (e22 : bits .and .u64 (IntKind.u64.wrap ((j0 : Int) + 1)) 7 = (j2 : Int))
    (f1 : ∀ w, fval .sub zb 4607182418800017408 w = zs) (f2 : fcnt .sub zb 4607182418800017408 = 0) (f3 : ∀ w, fval .mul zs 4605249457297304856 w = zr) (f4 : fcnt .mul zs 4605249457297304856 = 0) :
    Calls Tryd.prog 24 #[.float .f64 x] w fun e w' => e = .returned (.tuple #[.int .u64 j2, .float .f64 zr]) ∧ w.drewN 3 = w' := by
  have hb := run_bits x
  have hfb := run_frombits
  go_enter Tryd.func24, Tryd.ntmps24
  go_wp2_with fail
  go_region
  go_wp2_with fail
  go_region
  go_wp2_with fail
  go_region
  go_wp2_with (first | (go_at_call 27; refine (mul64 _ _ (by assumption) (by assumption) _).mono ?_; rintro e w' ⟨rfl, rfl⟩) | (go_at_call 29; refine (l1 _).mono ?_; rintro e w' ⟨rfl, rfl⟩))
  go_ret2
  exact ⟨rfl, rfl⟩
set_option maxHeartbeats 400000 in
theorem trigE (x m d q r z0 z1 z2 z0l lo cc hi cd j0 h2 lz zb zr : Nat) (a b c t0 t1 t2 t3 : Int) (w : World)
    (hlss : (D.order x 4605249457297304856 == some .lt) = false)
    (e1 : bits .and .u64 ((x : Int) / 4503599627370496) 2047 = a) (e2 : wrap64 a = a) (e3 : wrap64 (a - 1023) = b) (e4 : wrap64 (b - 52) = c) (e5 : wrap64 (c + 61) = (d : Int))
    (e6 : IntKind.u64.wrap (d : Int) = (d : Int)) (e7 : (d : Int).tdiv 64 = (q : Int)) (e8 : (d : Int).tmod 64 = (r : Int)) (e9 : IntKind.u64.wrap (q : Int) = (q : Int))
    (e10 : bits .or .u64 (bits .andNot .u64 (x : Int) 9218868437227405312) 4503599627370496 = (m : Int))
    (e11 : IntKind.u64.wrap ((q : Int) + 1) = ((q + 1 : Nat) : Int)) (e12 : IntKind.u64.wrap ((q : Int) + 2) = ((q + 2 : Nat) : Int)) (e13 : IntKind.u64.wrap ((q : Int) + 3) = ((q + 3 : Nat) : Int))
    (c0 : w.cell? ⟨3, q, none⟩ = some (.int .u64 t0)) (c1 : w.cell? ⟨3, q + 1, none⟩ = some (.int .u64 t1)) (c2 : w.cell? ⟨3, q + 2, none⟩ = some (.int .u64 t2)) (c3 : w.cell? ⟨3, q + 3, none⟩ = some (.int .u64 t3)) (hq : q ≤ 16)
    (e15 : bits .or .u64 (IntKind.u64.wrap (t0 * 2 ^ min r 64)) (t1 / 2 ^ min (IntKind.u64.wrap (64 - (r : Int))).toNat 64) = (z0 : Int))
    (e16 : bits .or .u64 (IntKind.u64.wrap (t1 * 2 ^ min r 64)) (t2 / 2 ^ min (IntKind.u64.wrap (64 - (r : Int))).toNat 64) = (z1 : Int))
    (e17 : bits .or .u64 (IntKind.u64.wrap (t2 * 2 ^ min r 64)) (t3 / 2 ^ min (IntKind.u64.wrap (64 - (r : Int))).toNat 64) = (z2 : Int))
    (zr1 : 0 ≤ (z1 : Int) ∧ (z1 : Int) < 18446744073709551616) (zr2 : 0 ≤ (z2 : Int) ∧ (z2 : Int) < 18446744073709551616) (mr : 0 ≤ (m : Int) ∧ (m : Int) < 18446744073709551616)
    (m0 : IntKind.u64.wrap ((z0 : Int) * (m : Int)) = (z0l : Int))
    (a1 : ∀ w, (callFunc 28 #[.int .u64 (ml z1 m), .int .u64 (mh z2 m), .int .u64 0]).run Tryd.prog w = .ok (.value (.tuple #[.int .u64 lo, .int .u64 cc])) w)
    (a0 : ∀ w, (callFunc 28 #[.int .u64 z0l, .int .u64 (mh z1 m), .int .u64 cc]).run Tryd.prog w = .ok (.value (.tuple #[.int .u64 hi, .int .u64 cd])) w)
    (e18 : (hi : Int) / 2305843009213693952 = (j0 : Int))
    (e19 : bits .or .u64 (IntKind.u64.wrap ((hi : Int) * 8)) ((lo : Int) / 2305843009213693952) = (h2 : Int))
    (l1 : ∀ w, Calls Tryd.prog 29 #[.int .u64 h2] w fun e w' => e = .returned (.int .i64 lz) ∧ w' = w)
    (e20 : bits .or .u64 (bits .or .u64 (IntKind.u64.wrap ((h2 : Int) * 2 ^ min (IntKind.u64.wrap (IntKind.u64.wrap (lz : Int) + 1)).toNat 64)) ((lo : Int) / 2 ^ min (IntKind.u64.wrap (64 - IntKind.u64.wrap (IntKind.u64.wrap (lz : Int) + 1))).toNat 64) / 4096)
      (IntKind.u64.wrap (IntKind.u64.wrap (1023 - IntKind.u64.wrap (IntKind.u64.wrap (lz : Int) + 1)) * 4503599627370496)) = (zb : Int))
    (e21 : bits .and .u64 (j0 : Int) 1 = 0) (f3 : ∀ w, fval .mul zb 4605249457297304856 w = zr) (f4 : fcnt .mul zb 4605249457297304856 = 0) :
    Calls Tryd.prog 24 #[.float .f64 x] w fun e w' => e = .returned (.tuple #[.int .u64 j0, .float .f64 zr]) ∧ w.drewN 3 = w' := by
  have hb := run_bits x
  have hfb := run_frombits
  go_enter Tryd.func24, Tryd.ntmps24
  go_wp2_with fail
  go_region
  go_wp2_with fail
  go_region
  go_wp2_with fail
  go_region
  go_wp2_with (first | (go_at_call 27; refine (mul64 _ _ (by assumption) (by assumption) _).mono ?_; rintro e w' ⟨rfl, rfl⟩) | (go_at_call 29; refine (l1 _).mono ?_; rintro e w' ⟨rfl, rfl⟩))
  go_ret2
  exact ⟨rfl, rfl⟩
end Go.Proofs.YtknidlahblfnnaaDoor.Ce
