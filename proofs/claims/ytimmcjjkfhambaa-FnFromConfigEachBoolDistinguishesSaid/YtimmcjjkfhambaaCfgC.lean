/-
  The main walk of FnFromConfigEachBoolDistinguishes. Condition: what an argument says of itself.
-/
import Derived.Test.YtimmcjjkfhambaaCfgB
import Derived.Deep.CutRange
import Derived.Deep.DeepCutAuto
namespace Go.Proofs.Ytimmcjjkfhambaa.Cfg
open Go.RowKit Go.ChangeShapes Go.WideShapes Go.ChangeAt Go.Proofs.Ytimmcjjkfhambaa.Ints
def Zc : Array Value := #[.int .u16 0, .string ⟨#[]⟩, .int .u64 0, .int .u64 0, .int .u64 0, .bool false, .bool false, .slice none 0 0]
set_option maxRecDepth 100000 in
set_option maxHeartbeats 16000000 in
theorem main (b : Int) (env : ByteArray) (fe ov ms : Int) (mn rn : Bool) (o : Option Addr) (n c : Nat) (f : Nat → ByteArray) (kk : Int) (w : World) (b0 : 0 ≤ b) (b1 : b < 65536) (he : env.size ≤ maxLen) (hn : n ≤ maxLen) (hI : StrsAt w o n f) (hs : ∀ i, i < n → (f i).size ≤ maxLen) (hz : o = none → n = 0 ∧ c = 0) (k0 : 0 ≤ kk) (k1 : kk < 256) :
    Calls Try.prog 3 #[.agg #[.int .u16 b, .string env, .int .u64 fe, .int .u64 ov, .int .u64 ms, .bool mn, .bool rn, .slice o n c], .int .u8 kk] w fun e w' => e = .returned (.bool true) ∧ Below w.heap.size w w' := by
  have hn' := hn
  unfold maxLen at hn'
  replace hz := Lib.hid hz
  replace hs := Lib.hid hs
  go_enter Try.func3, Try.ntmps3
  go_upto_region 1 with fail
  have hP : (w.alloc (.cells #[.int .u16 b, .string env, .int .u64 fe, .int .u64 ov, .int .u64 ms, .bool mn, .bool rn, .slice o n c] 26)).heap[w.heap.size]? = some (.cells #[.int .u16 b, .string env, .int .u64 fe, .int .u64 ov, .int .u64 ms, .bool mn, .bool rn, .slice o n c] 26 (0, 0)) := heap_alloc_new _ _
  have hB : Below w.heap.size w (w.alloc (.cells #[.int .u16 b, .string env, .int .u64 fe, .int .u64 ov, .int .u64 ms, .bool mn, .bool rn, .slice o n c] 26)) := (Below.refl _ _).alloc (Nat.le_refl _) _
  have hsz : (w.alloc (.cells #[.int .u16 b, .string env, .int .u64 fe, .int .u64 ov, .int .u64 ms, .bool mn, .bool rn, .slice o n c] 26)).heap.size = w.heap.size + 1 := by simp
  generalize (w.alloc (.cells #[.int .u16 b, .string env, .int .u64 fe, .int .u64 ov, .int .u64 ms, .bool mn, .bool rn, .slice o n c] 26)) = w0 at hP hB hsz ⊢
  have hI0 := hI.below hB
  generalize hZ : w.heap.size = Z at *
  replace hZ := Lib.hid hZ
  have g0 : w0.cell? ⟨Z, 0, none⟩ = some (.int .u16 b) := cell_at hP rfl
  have g1 : w0.cell? ⟨Z, 1, none⟩ = some (.string env) := cell_at hP rfl
  have g2 : w0.cell? ⟨Z, 2, none⟩ = some (.int .u64 fe) := cell_at hP rfl
  have g3 : w0.cell? ⟨Z, 3, none⟩ = some (.int .u64 ov) := cell_at hP rfl
  have g4 : w0.cell? ⟨Z, 4, none⟩ = some (.int .u64 ms) := cell_at hP rfl
  have g5 : w0.cell? ⟨Z, 5, none⟩ = some (.bool mn) := cell_at hP rfl
  have g6 : w0.cell? ⟨Z, 6, none⟩ = some (.bool rn) := cell_at hP rfl
  have g7 : w0.cell? ⟨Z, 7, none⟩ = some (.slice o n c) := cell_at hP rfl
  replace hI0 := Lib.hid hI0
  replace hI := Lib.hid hI
  replace hP := Lib.hid hP
  go_wp2_with fail
  go_at_call 4
  refine (bytes4 b env fe ov ms mn rn o n c f kk w0 hn he hI0.out hs.out).mono ?_
  rintro e w1 ⟨x, rfl, B1⟩
  have hP1 : w1.heap[Z]? = some (.cells #[.int .u16 b, .string env, .int .u64 fe, .int .u64 ov, .int .u64 ms, .bool mn, .bool rn, .slice o n c] 26 (0, 0)) := (B1.block _ (by omega)).trans hP.out
  have hB1 : Below Z w w1 := hB.trans (B1.mono (by omega))
  have hI1 := hI0.out.below B1
  have hz1 : Z < w1.heap.size := by have := B1.size; omega
  replace hI1 := Lib.hid hI1
  clear g0 g1 g2 g3 g4 g5 g6 g7 hP B1 hI0 hB
  have g0 : w1.cell? ⟨Z, 0, none⟩ = some (.int .u16 b) := cell_at hP1 rfl
  have g1 : w1.cell? ⟨Z, 1, none⟩ = some (.string env) := cell_at hP1 rfl
  have g2 : w1.cell? ⟨Z, 2, none⟩ = some (.int .u64 fe) := cell_at hP1 rfl
  have g3 : w1.cell? ⟨Z, 3, none⟩ = some (.int .u64 ov) := cell_at hP1 rfl
  have g4 : w1.cell? ⟨Z, 4, none⟩ = some (.int .u64 ms) := cell_at hP1 rfl
  have g5 : w1.cell? ⟨Z, 5, none⟩ = some (.bool mn) := cell_at hP1 rfl
  have g6 : w1.cell? ⟨Z, 6, none⟩ = some (.bool rn) := cell_at hP1 rfl
  have g7 : w1.cell? ⟨Z, 7, none⟩ = some (.slice o n c) := cell_at hP1 rfl
  replace hP1 := Lib.hid hP1
  replace hB1 := Lib.hid hB1
  cases x with
  | false =>
    go_wp2_with fail
    go_ret
    rw [hZ.out]
    exact ⟨rfl, hB1.out⟩
  | true =>
    go_upto_region 3 with fail
    go_wp2_with fail
    go_at_call 5
    refine (bytes b env fe ov ms mn rn o n c f w1 hn hI1.out hs.out).mono ?_
    rintro e w2 ⟨x, rfl, hx, B2⟩
    have hP2 : w2.heap[Z]? = some (.cells #[.int .u16 b, .string env, .int .u64 fe, .int .u64 ov, .int .u64 ms, .bool mn, .bool rn, .slice o n c] 26 (0, 0)) := (B2.block _ hz1).trans hP1.out
    have hB2 : Below Z w w2 := hB1.out.trans (B2.mono (by omega))
    have hI2 := hI1.out.below B2
    have hz2 : Z < w2.heap.size := by have := B2.size; omega
    clear g0 g1 g2 g3 g4 g5 g6 g7 hP1 B2 hI1 hB1
    have g0 : w2.cell? ⟨Z, 0, none⟩ = some (.int .u16 b) := cell_at hP2 rfl
    have g1 : w2.cell? ⟨Z, 1, none⟩ = some (.string env) := cell_at hP2 rfl
    have g2 : w2.cell? ⟨Z, 2, none⟩ = some (.int .u64 fe) := cell_at hP2 rfl
    have g3 : w2.cell? ⟨Z, 3, none⟩ = some (.int .u64 ov) := cell_at hP2 rfl
    have g4 : w2.cell? ⟨Z, 4, none⟩ = some (.int .u64 ms) := cell_at hP2 rfl
    have g5 : w2.cell? ⟨Z, 5, none⟩ = some (.bool mn) := cell_at hP2 rfl
    have g6 : w2.cell? ⟨Z, 6, none⟩ = some (.bool rn) := cell_at hP2 rfl
    have g7 : w2.cell? ⟨Z, 7, none⟩ = some (.slice o n c) := cell_at hP2 rfl
    replace hP2 := Lib.hid hP2
    replace hB2 := Lib.hid hB2
    replace hI2 := Lib.hid hI2
    by_cases hx2 : (1048576 : Int) < x
    · go_wp2_with fail
      go_ret
      rw [hZ.out]
      exact ⟨rfl, hB2.out⟩
    have hn2 : n ≤ 65536 := by
      rcases Nat.lt_or_ge 65536 n with h | h
      · exact absurd (hx h) hx2
      · exact h
    clear hx
    go_upto_region 5 with fail
    go_wp2_with fail
    go_at_call 6
    refine (cloneC b env fe ov ms mn rn o n c f w2 hn2 hI2.out hz.out).mono ?_
    rintro e w3 ⟨o1, rfl, L1, B3⟩
    have hP3 : w3.heap[Z]? = some (.cells #[.int .u16 b, .string env, .int .u64 fe, .int .u64 ov, .int .u64 ms, .bool mn, .bool rn, .slice o n c] 26 (0, 0)) := (B3.block _ hz2).trans hP2.out
    have hP4 : (w3.setRow Z (cfgP b env fe ov ms mn rn o1 n n)).heap[Z]? = some (.cells (cfgP b env fe ov ms mn rn o1 n n) 26 (0, 0)) := setRow_at hP3 _
    have hB4 : Below Z w (w3.setRow Z (cfgP b env fe ov ms mn rn o1 n n)) := below_setRow (hB2.out.trans (B3.mono (by omega))) (Nat.le_refl _) _
    have L4 : Lab w2.heap.size (w3.setRow Z (cfgP b env fe ov ms mn rn o1 n n)) o1 n f := L1.keep (by rw [setRow_size]; exact Nat.le_refl _) (fun k hk _ => setRow_ne (by omega) _)
    have hz4 : Z < (w3.setRow Z (cfgP b env fe ov ms mn rn o1 n n)).heap.size := by rw [setRow_size]; have := B3.size; omega
    replace hz1 := Lib.hid hz1
    clear hz1 g0 g1 g2 g3 g4 g5 g6 g7 hP2 hB2 hI2
    have hz1 : o1 = none → n = 0 ∧ n = 0 := L4.nil
    have LT := Lib.hid hz4
    have ROW := Lib.hid hP4
    have HI : ∀ w', Below (w3.setRow Z (cfgP b env fe ov ms mn rn o1 n n)).heap.size (w3.setRow Z (cfgP b env fe ov ms mn rn o1 n n)) w' → StrsAt w' o1 n f := fun w' h => L4.at_.below h
    replace HI := Lib.hid HI
    replace hz1 := Lib.hid hz1
    replace hB4 := Lib.hid hB4
    replace hz := Lib.hid hz
    replace hP3 := Lib.hid hP3
    clear hP4 B3 L1 L4 hz hs hI hz4
    go_upto_region 6 with (refine wpList_store_row rfl 26 (.tmp 2) (.tmp 17) rfl Z (cfgP b env fe ov ms mn rn o1 n n) rfl rfl 26 _ hP3.out (by kernel_rfl) (by kernel_rfl) (by kernel_rfl) ?_; generalize w3.setRow Z (cfgP b env fe ov ms mn rn o1 n n) = w4c at *)
    clear hP3
    go_wp2_with (refine load_want rfl 26 (.tmp 2) rfl Z rfl 26 (cfgP b env fe ov ms mn rn o1 n n) (0, 0) _ ROW.out Try.underlying26 rfl (by kernel_rfl) ?_)
    go_at_call 6
    refine (cloneR b env fe ov ms mn rn o1 n n f _ hn2 (HI.out _ (Below.refl _ _)) hz1.out).mono ?_
    rintro e w4 ⟨rD, rfl, hr1, hr2, P4, b4⟩
    have hC : (w4.alloc (.cells Zc 26 (0, 0))).heap[w4.heap.size]? = some (.cells Zc 26 (0, 0)) := heap_alloc_new _ _
    have hB5 : Below w4c.heap.size w4c (w4.alloc (.cells Zc 26 (0, 0))) := b4.alloc b4.size _
    obtain ⟨geD, beD, roD, phD⟩ := made (T := 26) (kpC b env fe ov ms mn rn n f) b4 P4 hC hB5 (by simp) (fun k hk => Below.heap_alloc _ _ _ hk)
    clear b4 P4 hB5
    replace geD := Lib.hid geD
    replace beD := Lib.hid beD
    replace roD := Lib.hid roD
    replace phD := Lib.hid phD
    replace hC := Lib.hid hC
    replace hr1 := Lib.hid hr1
    replace hr2 := Lib.hid hr2
    have hi1 : (Try.prog.info? 26).map (·.size) = some rD.size := by rw [hr1.out]; kernel_rfl
    have ho1 : (Zc).size = rD.size := hr1.out.symm
    replace hi1 := Lib.hid hi1
    replace ho1 := Lib.hid ho1
    unfold Zc at *
    go_upto_region 7 with (refine wpList_store_row rfl 26 (.tmp 5) (.tmp 19) rfl w4.heap.size rD rfl rfl 26 _ hC.out hi1.out ho1.out hr2.out ?_; clear hC hr1 hr2 hi1 ho1; generalize (w4.alloc _).setRow w4.heap.size rD = w5 at *; generalize w4.heap.size = D at *)
    obtain ⟨o2, rfl, _⟩ := phD.out _ (Nat.le_refl _) (fun _ _ => rfl)
    have hz5 : Z < w5.heap.size := Nat.lt_of_lt_of_le LT.out beD.out.size
    have hD5 : D < w5.heap.size := lt_row roD.out
    have ROW5 : w5.heap[Z]? = some (.cells (cfgP b env fe ov ms mn rn o1 n n) 26 (0, 0)) := (beD.out.block _ LT.out).trans ROW.out
    have hne : Z ≠ D := by have h1 := geD.out; have h2 := LT.out; omega
    have g0 : w5.cell? ⟨Z, 0, none⟩ = some (.int .u16 b) := cell_at ROW5 rfl
    have d0 : w5.cell? ⟨D, 0, none⟩ = some (.int .u16 b) := cell_at roD.out rfl
    have d1 : w5.frozen? ⟨D, 0, none⟩ = false := frz roD.out
    replace ROW5 := Lib.hid ROW5
    replace hne := Lib.hid hne
    replace hz5 := Lib.hid hz5
    replace hD5 := Lib.hid hD5
    go_upto_region 8 with fail
    obtain ⟨b', hb', q0, q1, f1, f2⟩ : ∃ b' : Int, bits BinOp.xor IntKind.u16 b (IntKind.u16.wrap (2 ^ (kk % 11).toNat)) = b' ∧ 0 ≤ b' ∧ b' < 65536 ∧ sameF (bt b) (bt b') = false ∧ sameF (bt b') (bt b) = false := by
      have hj : (kk % 11).toNat < 11 := by omega
      have hw : IntKind.u16.wrap (2 ^ (kk % 11).toNat) = ((2 ^ (kk % 11).toNat : Nat) : Int) := by
        rw [show (2 : Int) ^ (kk % 11).toNat = ((2 ^ (kk % 11).toNat : Nat) : Int) from by simp]
        have : 2 ^ (kk % 11).toNat < 2 ^ 16 := Nat.pow_lt_pow_right (by decide) (by omega)
        exact wraps_u16 _ (Int.natCast_nonneg _) (by exact_mod_cast this)
      rw [hw]
      exact flipI b b0 b1 _ hj
    rw [hb']
    clear hb' g0 d0 d1
    have roD6 : (w5.setCell ⟨D, 0, none⟩ (.int .u16 b')).heap[D]? = some (.cells (cfgP b' env fe ov ms mn rn o2 n n) 26 (0, 0)) := setCell_row roD.out rfl
    have ROW6 : (w5.setCell ⟨D, 0, none⟩ (.int .u16 b')).heap[Z]? = some (.cells (cfgP b env fe ov ms mn rn o1 n n) 26 (0, 0)) := (set_other _ _ _ _ _ hne.out).trans ROW5.out
    have BB6 : Below w4c.heap.size w4c (w5.setCell ⟨D, 0, none⟩ (.int .u16 b')) := beD.out.setCell (by exact geD.out) _
    have ph6 := phD.out (w5.setCell ⟨D, 0, none⟩ (.int .u16 b')) (by simp) (fun k hk => set_other _ _ _ _ _ (by omega))
    have hz6 : Z < (w5.setCell ⟨D, 0, none⟩ (.int .u16 b')).heap.size := lt_row ROW6
    have hD6 : D < (w5.setCell ⟨D, 0, none⟩ (.int .u16 b')).heap.size := lt_row roD6
    clear phD roD beD ROW5 ROW hz5 hD5
    generalize w5.setCell ⟨D, 0, none⟩ (.int .u16 b') = w6 at *
    obtain ⟨o2', e2, L6⟩ := ph6
    have eo : o2' = o2 := by
      unfold cfgP at e2
      injection e2 with e2
      injection e2 with _ e2
      injection e2 with _ e2
      injection e2 with _ e2
      injection e2 with _ e2
      injection e2 with _ e2
      injection e2 with _ e2
      injection e2 with _ e2
      injection e2 with e2 _
      injection e2 with e2
      exact e2.symm
    subst eo
    clear e2
    have hz2' : o2' = none → n = 0 ∧ n = 0 := L6.nil
    have I6 := HI.out _ BB6
    have J6 := L6.at_
    clear L6
    replace hz2' := Lib.hid hz2'
    replace f1 := Lib.hid f1
    replace f2 := Lib.hid f2
    replace BB6 := Lib.hid BB6
    replace ROW6 := Lib.hid ROW6
    replace roD6 := Lib.hid roD6
    replace I6 := Lib.hid I6
    replace J6 := Lib.hid J6
    replace hz6 := Lib.hid hz6
    replace hD6 := Lib.hid hD6
    go_wp2_with (refine load_want rfl 26 (.tmp 2) rfl Z rfl 26 (cfgP b env fe ov ms mn rn o1 n n) (0, 0) _ ROW6.out Try.underlying26 rfl (by kernel_rfl) ?_)
    go_at_call 7
    refine (buildR b env fe ov ms mn rn o1 n n f _ b0 b1 hn2 I6.out hz1.out).mono ?_
    rintro e w4 ⟨r1, rfl, hr1, hr2, P4, b4⟩
    have hC : (w4.alloc (.cells optZ 67 (0, 0))).heap[w4.heap.size]? = some (.cells optZ 67 (0, 0)) := heap_alloc_new _ _
    have hB5 : Below w6.heap.size w6 (w4.alloc (.cells optZ 67 (0, 0))) := b4.alloc b4.size _
    obtain ⟨geA1, beA1, roA1, phA1⟩ := made (T := 67) (kpB (bt b) env fe ov ms mn rn n f) b4 P4 hC hB5 (by simp) (fun k hk => Below.heap_alloc _ _ _ hk)
    clear b4 P4 hB5
    replace geA1 := Lib.hid geA1
    replace beA1 := Lib.hid beA1
    replace roA1 := Lib.hid roA1
    replace phA1 := Lib.hid phA1
    replace hC := Lib.hid hC
    replace hr1 := Lib.hid hr1
    replace hr2 := Lib.hid hr2
    have hi1 : (Try.prog.info? 67).map (·.size) = some r1.size := by rw [hr1.out]; kernel_rfl
    have ho1 : (optZ).size = r1.size := hr1.out.symm
    replace hi1 := Lib.hid hi1
    replace ho1 := Lib.hid ho1
    unfold optZ at *
    go_upto_region 9 with (refine wpList_store_row rfl 67 (.tmp 6) (.tmp 29) rfl w4.heap.size r1 rfl rfl 67 _ hC.out hi1.out ho1.out hr2.out ?_; clear hC hr1 hr2 hi1 ho1; generalize (w4.alloc _).setRow w4.heap.size r1 = w7 at *; generalize w4.heap.size = A1 at *)
    have ROW7 := Lib.hid ((beA1.out.block _ hz6.out).trans ROW6.out)
    have roD7 := Lib.hid ((beA1.out.block _ hD6.out).trans roD6.out)
    have I7 := Lib.hid (I6.out.below beA1.out)
    have J7 := Lib.hid (J6.out.below beA1.out)
    have hz7 := Lib.hid (lt_row ROW7.out)
    have hD7 := Lib.hid (lt_row roD7.out)
    go_wp2_with (refine load_want rfl 26 (.tmp 2) rfl Z rfl 26 (cfgP b env fe ov ms mn rn o1 n n) (0, 0) _ ROW7.out Try.underlying26 rfl (by kernel_rfl) ?_)
    go_at_call 7
    refine (buildR b env fe ov ms mn rn o1 n n f _ b0 b1 hn2 I7.out hz1.out).mono ?_
    rintro e w4 ⟨r2, rfl, hr1, hr2, P4, b4⟩
    have hC : (w4.alloc (.cells optZ 67 (0, 0))).heap[w4.heap.size]? = some (.cells optZ 67 (0, 0)) := heap_alloc_new _ _
    have hB5 : Below w7.heap.size w7 (w4.alloc (.cells optZ 67 (0, 0))) := b4.alloc b4.size _
    obtain ⟨geA2, beA2, roA2, phA2⟩ := made (T := 67) (kpB (bt b) env fe ov ms mn rn n f) b4 P4 hC hB5 (by simp) (fun k hk => Below.heap_alloc _ _ _ hk)
    clear b4 P4 hB5
    replace geA2 := Lib.hid geA2
    replace beA2 := Lib.hid beA2
    replace roA2 := Lib.hid roA2
    replace phA2 := Lib.hid phA2
    replace hC := Lib.hid hC
    replace hr1 := Lib.hid hr1
    replace hr2 := Lib.hid hr2
    have hi1 : (Try.prog.info? 67).map (·.size) = some r2.size := by rw [hr1.out]; kernel_rfl
    have ho1 : (optZ).size = r2.size := hr1.out.symm
    replace hi1 := Lib.hid hi1
    replace ho1 := Lib.hid ho1
    unfold optZ at *
    go_upto_region 10 with (refine wpList_store_row rfl 67 (.tmp 7) (.tmp 31) rfl w4.heap.size r2 rfl rfl 67 _ hC.out hi1.out ho1.out hr2.out ?_; clear hC hr1 hr2 hi1 ho1; generalize (w4.alloc _).setRow w4.heap.size r2 = w8 at *; generalize w4.heap.size = A2 at *)
    have roD8 := Lib.hid ((beA2.out.block _ hD7.out).trans roD7.out)
    have J8 := Lib.hid (J7.out.below beA2.out)
    have roA18 := Lib.hid ((beA2.out.block _ (lt_row roA1.out)).trans roA1.out)
    go_wp2_with (refine load_want rfl 26 (.tmp 5) rfl D rfl 26 (cfgP b' env fe ov ms mn rn o2' n n) (0, 0) _ roD8.out Try.underlying26 rfl (by kernel_rfl) ?_)
    go_at_call 7
    refine (buildR b' env fe ov ms mn rn o2' n n f _ q0 q1 hn2 J8.out hz2'.out).mono ?_
    rintro e w4 ⟨r3, rfl, hr1, hr2, P4, b4⟩
    have hC : (w4.alloc (.cells optZ 67 (0, 0))).heap[w4.heap.size]? = some (.cells optZ 67 (0, 0)) := heap_alloc_new _ _
    have hB5 : Below w8.heap.size w8 (w4.alloc (.cells optZ 67 (0, 0))) := b4.alloc b4.size _
    obtain ⟨geA3, beA3, roA3, phA3⟩ := made (T := 67) (kpB (bt b') env fe ov ms mn rn n f) b4 P4 hC hB5 (by simp) (fun k hk => Below.heap_alloc _ _ _ hk)
    clear b4 P4 hB5
    replace geA3 := Lib.hid geA3
    replace beA3 := Lib.hid beA3
    replace roA3 := Lib.hid roA3
    replace phA3 := Lib.hid phA3
    replace hC := Lib.hid hC
    replace hr1 := Lib.hid hr1
    replace hr2 := Lib.hid hr2
    have hi1 : (Try.prog.info? 67).map (·.size) = some r3.size := by rw [hr1.out]; kernel_rfl
    have ho1 : (optZ).size = r3.size := hr1.out.symm
    replace hi1 := Lib.hid hi1
    replace ho1 := Lib.hid ho1
    unfold optZ at *
    go_upto_region 11 with (refine wpList_store_row rfl 67 (.tmp 8) (.tmp 33) rfl w4.heap.size r3 rfl rfl 67 _ hC.out hi1.out ho1.out hr2.out ?_; clear hC hr1 hr2 hi1 ho1; generalize (w4.alloc _).setRow w4.heap.size r3 = w9 at *; generalize w4.heap.size = A3 at *)
    have roA19 := Lib.hid ((beA3.out.block _ (lt_row roA18.out)).trans roA18.out)
    have roA29 := Lib.hid ((beA3.out.block _ (lt_row roA2.out)).trans roA2.out)
    have b79 : Below w7.heap.size w7 w9 := beA2.out.trans (beA3.out.mono beA2.out.size)
    obtain ⟨m1, p1, l1, rfl, R1, S1, T1⟩ := phA1.out w9 b79.size (fun k hk => b79.block k (Nat.lt_trans hk (lt_row roA1.out)))
    obtain ⟨m2, p2, l2, rfl, R2, S2, T2⟩ := phA2.out w9 beA3.out.size (fun k hk => beA3.out.block k (Nat.lt_trans hk (lt_row roA2.out)))
    obtain ⟨m3, p3, l3, rfl, _, _, _⟩ := phA3.out w9 (Nat.le_refl _) (fun k hk => rfl)
    have B9 : Below Z w w9 := by
      have s4 := LT.out
      have s6 := BB6.out.size
      have s7 := beA1.out.size
      have s8 := beA2.out.size
      exact (((hB4.out.trans (BB6.out.mono (by omega))).trans (beA1.out.mono (by omega))).trans (beA2.out.mono (by omega))).trans (beA3.out.mono (by omega))
    have hz9 : Z ≤ w9.heap.size := by
      have s4 := LT.out
      have s6 := BB6.out.size
      have s7 := beA1.out.size
      have s8 := b79.size
      omega
    replace B9 := Lib.hid B9
    replace hz9 := Lib.hid hz9
    have R1' := Lib.hid (R1.mono (Nat.zero_le _))
    have R2' := Lib.hid (R2.mono (Nat.zero_le _))
    have S1' := Lib.hid (S1.mono (Nat.zero_le _))
    have S2' := Lib.hid (S2.mono (Nat.zero_le _))
    have T1' := Lib.hid T1.at_
    have T2' := Lib.hid T2.at_
    clear R1 R2 S1 S2 T1 T2 phA1 phA2 phA3 roA1 roA18 roA2 beA1 beA2 BB6 hB4 b79 ROW6 ROW7 roD6 roD7 roD8 I6 I7 J6 J7 J8 hz6 hz7 hD6 hD7 geA1 geA2 geA3 geD
    go_wp2_with (first | (refine load_want rfl 67 (.tmp 6) rfl A1 rfl 67 (optV (bt b) env fe ov ms m1 p1 l1 n) (0, 0) _ roA19.out Try.underlying67 rfl (by kernel_rfl) ?_) | (refine load_want rfl 67 (.tmp 7) rfl A2 rfl 67 (optV (bt b) env fe ov ms m2 p2 l2 n) (0, 0) _ roA29.out Try.underlying67 rfl (by kernel_rfl) ?_))
    go_at_call 8
    refine (zzEqT (bt b) env fe ov ms m1 p1 m2 p2 l1 l2 n f mn rn _ hn2 R1'.out R2'.out S1'.out S2'.out T1'.out T2'.out).mono ?_
    rintro e w10 ⟨rfl, B10⟩
    have hZ10 : Z ≤ w10.heap.size := by have := hz9.out; have := B10.size; omega
    have BW10 : Below Z w w10 := B9.out.trans (B10.mono hz9.out)
    have ro1 := Lib.hid ((B10.block _ (lt_row roA19.out)).trans roA19.out)
    have ro3 := Lib.hid ((B10.block _ (lt_row roA3.out)).trans roA3.out)
    replace hZ10 := Lib.hid hZ10
    replace BW10 := Lib.hid BW10
    clear B9 hz9 R1' R2' S1' S2' T1' T2' roA19 roA29 roA3 B10 beA3
    go_wp2_with (first | (refine load_want rfl 67 (.tmp 6) rfl A1 rfl 67 (optV (bt b) env fe ov ms m1 p1 l1 n) (0, 0) _ ro1.out Try.underlying67 rfl (by kernel_rfl) ?_) | (refine load_want rfl 67 (.tmp 8) rfl A3 rfl 67 (optV (bt b') env fe ov ms m3 p3 l3 n) (0, 0) _ ro3.out Try.underlying67 rfl (by kernel_rfl) ?_))
    go_at_call 8
    refine (zzEqF (bt b) (bt b') env fe ov ms m1 p1 m3 p3 l1 l3 n n _ f1.out).mono ?_
    rintro e w11 ⟨rfl, B11⟩
    have hZ11 : Z ≤ w11.heap.size := by have := hZ10.out; have := B11.size; omega
    have BW11 : Below Z w w11 := BW10.out.trans (B11.mono hZ10.out)
    have rp1 := Lib.hid ((B11.block _ (lt_row ro1.out)).trans ro1.out)
    have rp3 := Lib.hid ((B11.block _ (lt_row ro3.out)).trans ro3.out)
    replace hZ11 := Lib.hid hZ11
    replace BW11 := Lib.hid BW11
    clear ro1 ro3 B11 BW10 hZ10
    go_wp2_with (first | (refine load_want rfl 67 (.tmp 6) rfl A1 rfl 67 (optV (bt b) env fe ov ms m1 p1 l1 n) (0, 0) _ rp1.out Try.underlying67 rfl (by kernel_rfl) ?_) | (refine load_want rfl 67 (.tmp 8) rfl A3 rfl 67 (optV (bt b') env fe ov ms m3 p3 l3 n) (0, 0) _ rp3.out Try.underlying67 rfl (by kernel_rfl) ?_))
    go_at_call 8
    refine (zzEqF (bt b') (bt b) env fe ov ms m3 p3 m1 p1 l3 l1 n n _ f2.out).mono ?_
    rintro e w12 ⟨rfl, B12⟩
    have BW12 : Below Z w w12 := BW11.out.trans (B12.mono hZ11.out)
    replace BW12 := Lib.hid BW12
    clear B12 BW11 hZ11 rp1 rp3
    go_wp2_with fail
    go_ret
    rw [hZ.out]
    exact ⟨rfl, BW12.out⟩
end Go.Proofs.Ytimmcjjkfhambaa.Cfg
