/-
  What math.trigReduce gives from 2 ^ 29 on: an even phase and a small z, which hang on the argument alone. No other condition.
-/
import Derived.Test.YtknidlahblfnnaaDoorCeW2
namespace Go.Proofs.YtknidlahblfnnaaDoor.Ce
open Go Go.RowKit Fl Small2 Mono Ieee

theorem wrap_ex (n : Int) : ∃ k : Nat, IntKind.u64.wrap n = (k : Int) ∧ k < 18446744073709551616 := by
  rw [IntKind.wrap_u64]
  refine ⟨(n % 18446744073709551616).toNat, ?_, ?_⟩ <;> omega
theorem wrap_id {n : Int} (h0 : 0 ≤ n) (h1 : n < 18446744073709551616) : IntKind.u64.wrap n = n := by
  rw [IntKind.wrap_u64]
  omega
theorem or_ex {A B : Int} (hA : ∃ k : Nat, A = (k : Int) ∧ k < 18446744073709551616) (hB : ∃ k : Nat, B = (k : Int) ∧ k < 18446744073709551616) : ∃ z : Nat, bits .or .u64 A B = (z : Int) ∧ z < 18446744073709551616 := by
  obtain ⟨a, rfl, ha⟩ := hA
  obtain ⟨b, rfl, hb⟩ := hB
  refine ⟨_, u64_or_nat a b ha hb, ?_⟩
  have : a ||| b < 2 ^ 64 := Nat.or_lt_two_pow (by omega) (by omega)
  omega
theorem div_ex {A : Int} (k : Nat) (hA : ∃ k : Nat, A = (k : Int) ∧ k < 18446744073709551616) : ∃ z : Nat, A / 2 ^ k = (z : Int) ∧ z < 18446744073709551616 := by
  obtain ⟨a, rfl, ha⟩ := hA
  refine ⟨a / 2 ^ k, ?_, Nat.lt_of_le_of_lt (Nat.div_le_self _ _) ha⟩
  rw [Int.natCast_ediv, Int.natCast_pow]
  rfl
theorem bitLen_le (x : Nat) : Lib.bitLen x ≤ 64 := by
  have h : ∀ f x, Lib.bitLenAux f x ≤ f := by
    intro f
    induction f with
    | zero => intro x; exact Nat.le_refl _
    | succ f ih =>
      intro x
      unfold Lib.bitLenAux
      split
      · omega
      · have := ih (x / 2); omega
  exact h 64 x
theorem tab_ok : ∀ i, i < 20 → 0 ≤ tab.getD i 0 ∧ tab.getD i 0 < 18446744073709551616 := by decide +kernel
theorem tab_ex {i : Nat} (h : i < 20) : ∃ k : Nat, tab.getD i 0 = (k : Int) ∧ k < 18446744073709551616 := by
  have := tab_ok i h
  refine ⟨(tab.getD i 0).toNat, ?_, ?_⟩ <;> omega
theorem fval_some {op : BinOp} {x y : Nat} (h : floatBits op .f64 x y = some (fo op x y)) (w : World) : fval op x y w = fo op x y := by
  unfold fval
  rw [h]
theorem fcnt_some {op : BinOp} {x y : Nat} (h : floatBits op .f64 x y = some (fo op x y)) : fcnt op x y = 0 := by
  unfold fcnt
  rw [h]
theorem orx_ex (a b : Int) (S : Nat) (hb : ∃ k : Nat, b = (k : Int) ∧ k < 18446744073709551616) : ∃ z : Nat, bits .or .u64 (IntKind.u64.wrap a) (b / 2 ^ S) = (z : Int) ∧ z < 18446744073709551616 :=
  or_ex (wrap_ex _) (div_ex _ hb)
theorem int_ex {n : Int} (h0 : 0 ≤ n) (h1 : n < 18446744073709551616) : ∃ k : Nat, n = (k : Int) ∧ k < 18446744073709551616 := ⟨n.toNat, by omega, by omega⟩
theorem carry_ex {x y c : Int} (hx : 0 ≤ x ∧ x < 18446744073709551616) (hy : 0 ≤ y ∧ y < 18446744073709551616) (hc : 0 ≤ c ∧ c ≤ 1) :
    (∃ k : Nat, (x + y + c) % 18446744073709551616 = (k : Int) ∧ k < 18446744073709551616) ∧ ∃ k : Nat, (x + y + c) / 18446744073709551616 = (k : Int) ∧ k ≤ 1 :=
  ⟨⟨((x + y + c) % 18446744073709551616).toNat, by omega, by omega⟩, ⟨((x + y + c) / 18446744073709551616).toNat, by omega, by omega⟩⟩
theorem odd_ex {j0 : Nat} (h : j0 ≤ 7) : bits .and .u64 (IntKind.u64.wrap ((j0 : Int) + 1)) 7 = (((j0 + 1) % 8 : Nat) : Int) := by
  have c : IntKind.u64.wrap ((j0 : Int) + 1) = ((j0 + 1 : Nat) : Int) := by rw [wrap_id (by omega) (by omega)]; omega
  rw [c]
  have := u64_and_nat (j0 + 1) 7 (by omega) (by decide)
  rw [show ((7 : Nat) : Int) = 7 from rfl] at this
  rw [this, show 7 = 2 ^ 3 - 1 by decide, Nat.and_two_pow_sub_one_eq_mod]
theorem par_ex {j0 : Nat} (h : j0 ≤ 7) : bits .and .u64 (j0 : Int) 1 = ((j0 % 2 : Nat) : Int) := by
  have j1 := u64_and_nat j0 1 (by omega) (by decide)
  rwa [Nat.and_one_is_mod, show ((1 : Nat) : Int) = 1 from rfl] at j1
theorem fields {x ef : Nat} (h2 : 1052 * 2 ^ 52 ≤ x) (h3 : x < 2047 * 2 ^ 52) (hef : ef = x / 2 ^ 52) : bits .and .u64 ((x : Int) / 4503599627370496) 2047 = (ef : Int) ∧
    ∃ m : Nat, bits .or .u64 (bits .andNot .u64 (x : Int) 9218868437227405312) 4503599627370496 = (m : Int) ∧ m < 18446744073709551616 := by
  constructor
  · have c : (x : Int) / 4503599627370496 = (ef : Int) := by omega
    rw [c]
    have := u64_and_nat ef 2047 (by omega) (by decide)
    rw [show ((2047 : Nat) : Int) = 2047 from rfl] at this
    rw [this, show 2047 = 2 ^ 11 - 1 by decide, Nat.and_two_pow_sub_one_eq_mod]
    congr 1
    omega
  · refine or_ex ?_ ⟨4503599627370496, rfl, by decide⟩
    have := u64_andNot_nat x 9218868437227405312 (by omega) (by decide)
    rw [show ((9218868437227405312 : Nat) : Int) = 9218868437227405312 from rfl] at this
    refine ⟨_, this, ?_⟩
    have : x &&& (18446744073709551615 - 9218868437227405312) < 2 ^ 64 := Nat.and_lt_two_pow _ (by decide)
    omega
theorem rng {k : Nat} (h : k < 18446744073709551616) : 0 ≤ (k : Int) ∧ (k : Int) < 18446744073709551616 := by omega
theorem exps {ef d q r : Nat} (h1 : 1052 ≤ ef) (h2 : ef ≤ 2046) (hd : d = ef - 1014) (hq : q = d / 64) (hr : r = d % 64) :
    (wrap64 (ef : Int) = (ef : Int)) ∧
    (wrap64 ((ef : Int) - 1023) = (ef : Int) - 1023) ∧
    (wrap64 ((ef : Int) - 1023 - 52) = (ef : Int) - 1023 - 52) ∧
    (wrap64 ((ef : Int) - 1023 - 52 + 61) = (d : Int)) ∧
    (IntKind.u64.wrap (d : Int) = (d : Int)) ∧
    ((d : Int).tdiv 64 = (q : Int)) ∧
    ((d : Int).tmod 64 = (r : Int)) ∧
    (IntKind.u64.wrap (q : Int) = (q : Int)) ∧
    (IntKind.u64.wrap ((q : Int) + 1) = ((q + 1 : Nat) : Int)) ∧
    (IntKind.u64.wrap ((q : Int) + 2) = ((q + 2 : Nat) : Int)) ∧
    (IntKind.u64.wrap ((q : Int) + 3) = ((q + 3 : Nat) : Int)) := by
  have e2 : wrap64 (ef : Int) = (ef : Int) := by unfold wrap64; omega
  have e3 : wrap64 ((ef : Int) - 1023) = (ef : Int) - 1023 := by unfold wrap64; omega
  have e4 : wrap64 ((ef : Int) - 1023 - 52) = (ef : Int) - 1023 - 52 := by unfold wrap64; omega
  have e5 : wrap64 ((ef : Int) - 1023 - 52 + 61) = (d : Int) := by unfold wrap64; omega
  have e6 : IntKind.u64.wrap (d : Int) = (d : Int) := wrap_id (by omega) (by omega)
  have e7 : (d : Int).tdiv 64 = (q : Int) := by rw [Int.tdiv_eq_ediv_of_nonneg (by omega)]; omega
  have e8 : (d : Int).tmod 64 = (r : Int) := by rw [Int.tmod_eq_emod_of_nonneg (by omega)]; omega
  have e9 : IntKind.u64.wrap (q : Int) = (q : Int) := wrap_id (by omega) (by omega)
  have e11 : IntKind.u64.wrap ((q : Int) + 1) = ((q + 1 : Nat) : Int) := by rw [wrap_id (by omega) (by omega)]; omega
  have e12 : IntKind.u64.wrap ((q : Int) + 2) = ((q + 2 : Nat) : Int) := by rw [wrap_id (by omega) (by omega)]; omega
  have e13 : IntKind.u64.wrap ((q : Int) + 3) = ((q + 3 : Nat) : Int) := by rw [wrap_id (by omega) (by omega)]; omega
  exact ⟨e2, e3, e4, e5, e6, e7, e8, e9, e11, e12, e13⟩
theorem zb_ex {h2' lo lz : Nat} (hlo : lo < 18446744073709551616) (hl : lz ≤ 64) : ∃ zb : Nat, bits .or .u64 (bits .or .u64 (IntKind.u64.wrap ((h2' : Int) * 2 ^ min (IntKind.u64.wrap (IntKind.u64.wrap (lz : Int) + 1)).toNat 64)) ((lo : Int) / 2 ^ min (IntKind.u64.wrap (64 - IntKind.u64.wrap (IntKind.u64.wrap (lz : Int) + 1))).toNat 64) / 4096)
      (IntKind.u64.wrap (IntKind.u64.wrap (1023 - IntKind.u64.wrap (IntKind.u64.wrap (lz : Int) + 1)) * 4503599627370496)) = (zb : Int) ∧ zb < one := by
  obtain ⟨u, eu, hu⟩ := orx_ex ((h2' : Int) * 2 ^ min (IntKind.u64.wrap (IntKind.u64.wrap (lz : Int) + 1)).toNat 64) (lo : Int) (min (IntKind.u64.wrap (64 - IntKind.u64.wrap (IntKind.u64.wrap (lz : Int) + 1))).toNat 64) ⟨lo, rfl, hlo⟩
  rw [eu]
  have w1 : IntKind.u64.wrap (lz : Int) = (lz : Int) := wrap_id (by omega) (by omega)
  have w2 : IntKind.u64.wrap ((lz : Int) + 1) = (lz : Int) + 1 := wrap_id (by omega) (by omega)
  have w3 : IntKind.u64.wrap (1023 - ((lz : Int) + 1)) = ((1022 - lz : Nat) : Int) := by rw [wrap_id (by omega) (by omega)]; omega
  have w4 : IntKind.u64.wrap (((1022 - lz : Nat) : Int) * 4503599627370496) = (((1022 - lz) * 4503599627370496 : Nat) : Int) := by rw [wrap_id (by omega) (by omega)]; omega
  rw [w1, w2, w3, w4]
  have w5 : (u : Int) / 4096 = ((u / 4096 : Nat) : Int) := by omega
  rw [w5, u64_or_nat _ _ (by omega) (by omega), Nat.or_comm, nat_join 52 _ _ (by omega) (by omega)]
  refine ⟨_, rfl, ?_⟩
  unfold one
  omega
theorem lt20 {q : Nat} (h : q ≤ 16) : q < 20 ∧ q + 1 < 20 ∧ q + 2 < 20 ∧ q + 3 < 20 := by omega
theorem top3 {hi j0 : Nat} (h : hi < 18446744073709551616) (hj : j0 = hi / 2305843009213693952) : j0 ≤ 7 ∧ (hi : Int) / 2305843009213693952 = (j0 : Int) := by omega
theorem low3 {lo : Nat} (h : lo < 18446744073709551616) : ∃ k : Nat, (lo : Int) / 2305843009213693952 = (k : Int) ∧ k < 18446744073709551616 := ⟨lo / 2305843009213693952, by omega, by omega⟩
theorem lz_fact {b lz : Nat} (hb : b ≤ 64) (h : lz = 64 - b) : lz ≤ 64 ∧ (64 - (b : Int)) = (lz : Int) := by omega
theorem le_max {h : Nat} (hh : h < 18446744073709551616) : (h : Int) ≤ 18446744073709551615 := by omega
theorem parity (j : Nat) : j % 2 = 0 ∨ j % 2 = 1 := by omega
theorem even_of {j : Nat} (h : j ≤ 7) (p : j % 2 = 0) : j = 0 ∨ j = 2 ∨ j = 4 ∨ j = 6 := by omega
theorem odd_of {j : Nat} (h : j ≤ 7) (p : j % 2 = 1) : (j + 1) % 8 = 0 ∨ (j + 1) % 8 = 2 ∨ (j + 1) % 8 = 4 ∨ (j + 1) % 8 = 6 := by omega
theorem trig_ex (x : Nat) (hf : Small2.fin x = true) (h1 : Ie.rg x = x) (hs : Ie.sg x = false) (h2 : 1052 * 2 ^ 52 ≤ x) : ∃ j z : Nat, (j = 0 ∨ j = 2 ∨ j = 4 ∨ j = 6) ∧ Red z ∧
    ∀ w, Tab w → Calls Tryd.prog 24 #[.float .f64 x] w fun e w' => e = .returned (.tuple #[.int .u64 j, .float .f64 z]) ∧ w.drewN 3 = w' := by
  have h3 : x < 2047 * 2 ^ 52 := by
    unfold Small2.fin at hf
    have := of_decide_eq_true hf
    omega
  have hlss : (D.order x 4605249457297304856 == some .lt) = false := by
    have hm : nan 4605249457297304856 = false := by decide +kernel
    have hk2 : Ie.key 4605249457297304856 = 4605249457297304856 := by decide +kernel
    have hk : Ie.key x = (x : Int) := by
      unfold Ie.key
      rw [h1, hs]
      rfl
    rw [lss_key (fin_not_nan hf) hm, hk, hk2]
    exact decide_eq_false (by omega)
  obtain ⟨ef, hef⟩ : ∃ ef, ef = x / 2 ^ 52 := ⟨_, rfl⟩
  have hef1 : 1052 ≤ ef := by omega
  have hef2 : ef ≤ 2046 := by omega
  obtain ⟨e1, m, e10, mr⟩ := fields h2 h3 hef
  obtain ⟨d, hd⟩ : ∃ d, d = ef - 1014 := ⟨_, rfl⟩
  obtain ⟨q, hq⟩ : ∃ q, q = d / 64 := ⟨_, rfl⟩
  obtain ⟨r, hr⟩ : ∃ r, r = d % 64 := ⟨_, rfl⟩
  have q16 : q ≤ 16 := by omega
  obtain ⟨e2, e3, e4, e5, e6, e7, e8, e9, e11, e12, e13⟩ := exps hef1 hef2 hd hq hr
  obtain ⟨g0, g1', g2', g3'⟩ := lt20 q16
  have tq0 := tab_ex (i := q + 1) g1'
  have tq1 := tab_ex (i := q + 2) g2'
  have tq2 := tab_ex (i := q + 3) g3'
  obtain ⟨z0, e15, zr0⟩   := orx_ex (tab.getD q 0 * 2 ^ min r 64) (tab.getD (q + 1) 0) (min (IntKind.u64.wrap (64 - (r : Int))).toNat 64) tq0
  obtain ⟨z1, e16, zr1⟩   := orx_ex (tab.getD (q + 1) 0 * 2 ^ min r 64) (tab.getD (q + 2) 0) (min (IntKind.u64.wrap (64 - (r : Int))).toNat 64) tq1
  obtain ⟨z2, e17, zr2⟩   := orx_ex (tab.getD (q + 2) 0 * 2 ^ min r 64) (tab.getD (q + 3) 0) (min (IntKind.u64.wrap (64 - (r : Int))).toNat 64) tq2
  have zr1' := rng zr1
  have zr2' := rng zr2
  have mr' := rng mr
  obtain ⟨z0l, m0, z0r⟩ := wrap_ex ((z0 : Int) * (m : Int))
  have rl := ml_rng z1 m
  have rh := mh_rng z2 m zr2' mr'
  have rh1 := mh_rng z1 m zr1' mr'
  have a1 := fun w => add64 (ml z1 m) (mh z2 m) 0 rl.1 rh.1 (by decide) (by decide) w
  obtain ⟨⟨lo, elo, hlo⟩, cc, ecc, hcc⟩ := carry_ex (c := 0) rl rh (by decide)
  rw [elo, ecc] at a1
  have rcc : 0 ≤ (cc : Int) ∧ (cc : Int) ≤ 1 := ⟨Int.natCast_nonneg _, Int.ofNat_le.2 hcc⟩
  have rz0 := rng z0r
  have a0 := fun w => add64 (z0l : Int) (mh z1 m) cc rz0.1 rh1.1 rcc.1 rcc.2 w
  obtain ⟨⟨hi, ehi, hhi⟩, cd, ecd, _⟩ := carry_ex rz0 rh1 rcc
  rw [ehi, ecd] at a0
  clear rl rh rh1 elo ecc ehi ecd rcc rz0 tq0 tq1 tq2
  obtain ⟨j0, hj0⟩ : ∃ j0, j0 = hi / 2305843009213693952 := ⟨_, rfl⟩
  obtain ⟨hj7, e18⟩ := top3 hhi hj0
  have e19 : ∃ h2 : Nat, bits .or .u64 (IntKind.u64.wrap ((hi : Int) * 8)) ((lo : Int) / 2305843009213693952) = (h2 : Int) ∧ h2 < 18446744073709551616 :=
    or_ex (wrap_ex _) (low3 hlo)
  obtain ⟨h2', e19, hh2⟩ := e19
  have hbl := bitLen_le h2'
  obtain ⟨lz, hlz⟩ : ∃ lz, lz = 64 - Lib.bitLen h2' := ⟨_, rfl⟩
  have l1 : ∀ w, Calls Tryd.prog 29 #[.int .u64 h2'] w fun e w' => e = .returned (.int .i64 lz) ∧ w' = w := by
    intro w
    have := Tryd.bits_LeadingZeros64 (h2' : Int) w (Int.natCast_nonneg _) (le_max hh2)
    rw [Int.toNat_natCast] at this
    have e := (lz_fact hbl hlz).2
    rw [e] at this
    exact this
  obtain ⟨zb, e20, hzb⟩ := zb_ex (h2' := h2') (lo := lo) (lz := lz) hlo (lz_fact hbl hlz).1
  have j1 := par_ex hj7
  rcases (parity j0) with p | p
  · rw [p] at j1
    obtain ⟨b1, b2, b3⟩ := big_ok hzb false
    have g := fo_mul b1 ap_pi4.1
    have ez : bgZ false zb = fo .mul zb pi4 := rfl
    rw [ez] at b3
    refine ⟨j0, fo .mul zb pi4, even_of hj7 p, b3, fun w hT => ?_⟩
    exact trigE x m d q r z0 z1 z2 z0l lo cc hi cd j0 h2' lz zb (fo .mul zb pi4) ef ((ef : Int) - 1023) ((ef : Int) - 1023 - 52) _ _ _ _ w hlss e1 e2 e3 e4 e5 e6 e7 e8 e9 e10 e11 e12 e13
      (hT q g0) (hT (q + 1) g1') (hT (q + 2) g2') (hT (q + 3) g3') q16 e15 e16 e17 zr1' zr2' mr' m0 a1 a0 e18 e19 l1 e20 j1 (fval_some g) (fcnt_some g)
  · rw [p] at j1
    obtain ⟨b1, b2, b3⟩ := big_ok hzb true
    have b2' : Small2.fin (fo .sub zb one) = true := b2
    have g1 := fo_sub b1 fin_one
    have g := fo_mul b2' ap_pi4.1
    have ez : bgZ true zb = fo .mul (fo .sub zb one) pi4 := rfl
    rw [ez] at b3
    have e22 := odd_ex hj7
    refine ⟨(j0 + 1) % 8, fo .mul (fo .sub zb one) pi4, odd_of hj7 p, b3, fun w hT => ?_⟩
    exact trigO x m d q r z0 z1 z2 z0l lo cc hi cd j0 h2' lz zb ((j0 + 1) % 8) (fo .sub zb one) (fo .mul (fo .sub zb one) pi4) ef ((ef : Int) - 1023) ((ef : Int) - 1023 - 52) _ _ _ _ w hlss e1 e2 e3 e4 e5 e6 e7 e8 e9 e10 e11 e12 e13
      (hT q g0) (hT (q + 1) g1') (hT (q + 2) g2') (hT (q + 3) g3') q16 e15 e16 e17 zr1' zr2' mr' m0 a1 a0 e18 e19 l1 e20 j1 e22 (fval_some g1) (fcnt_some g1) (fval_some g) (fcnt_some g)
end Go.Proofs.YtknidlahblfnnaaDoor.Ce
