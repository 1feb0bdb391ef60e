/-
  The walk of FnMaybeRelocateVarsToTopLevelExact: it returns true for every input. No condition.
-/
import Derived.Test.YtdiedidmjpihjaaRlJ
namespace Go.Proofs.Ytdiedidmjpihjaa.fnMaybeRelocateVarsToTopLevelExact
open Go.RowKit Go.WideShapes Go.ChangeAt Go.ChangeShapes Go.Proofs.Ytdiedidmjpihjaa.Ints Go.Proofs.Ytdiedidmjpihjaa.Rl

theorem vars_at {w : World} {B n c : Nat} {o : Option Addr} {lc : Nat → Int} {r : Nat → Nat} (h : w.ownsRow B 47 3 (.slice o n c) n (vars lc r n)) (hn : 0 < n) : ∃ b cur, o = some ⟨b, 0, none⟩ ∧ w.heap[b]? = some (.cells cur 47 (0, 0)) ∧
    ∀ i, i < n → w.cell? ⟨b, i * 3, none⟩ = some (.int .i32 (lc i)) ∧ w.cell? ⟨b, i * 3 + 1, none⟩ = some (.int .u32 0) ∧ w.cell? ⟨b, i * 3 + 2, none⟩ = some (.int .u32 (r i : Nat)) := by
  rcases h.2 with ⟨_, h0⟩ | ⟨b, cap, cur, e, hB, hb, hnc, hcm, hcs, ht⟩
  · omega
  · injection e with e1 e2 e3
    refine ⟨b, cur, e1, hb, fun i hi => ?_⟩
    have key : ∀ k, k < n * 3 → cur[k]? = (vars lc r n)[k]? := fun k hk => by
      rw [← ht, ← Array.getElem?_toList, List.getElem?_take_of_lt hk]
    obtain ⟨g1, g2, g3⟩ := vars_get lc r n i hi
    rw [Nat.mul_comm 3 i] at g1 g2 g3
    exact ⟨(cell_of_row _ _ _ _ _ _ hb).trans ((key _ (by omega)).trans g1), (cell_of_row _ _ _ _ _ _ hb).trans ((key _ (by omega)).trans g2), (cell_of_row _ _ _ _ _ _ hb).trans ((key _ (by omega)).trans g3)⟩
theorem info32 : (Try.prog.info? 40).map (fun i => (i.zero, i.size, i.bytes)) = some (some (.int .u32 0), 1, 4) := by kernel_rfl
theorem make32 (n : Nat) (hn : n ≤ 65536) (w : World) : (Instr.makeSlice 42 (.int .i64 (n : Int)) (.int .i64 (n : Int))).run Try.prog w =
    .ok (.slice (some ⟨w.heap.size, 0, none⟩) n n) (w.alloc (.cells (madeCells #[.int .u32 0] n) 40)) := by
  obtain ⟨i, hi, hz, hs, hb⟩ := info_parts info32
  have h := run_make_rowN (P := Try.prog) 42 40 i _ Try.underlying42 hi hz .i64 .i64 n n (Nat.le_refl _) (by rw [hb]; omega) (by omega) w
  rw [hs, Nat.mul_one] at h
  exact h
set_option maxRecDepth 100000 in
set_option maxHeartbeats 16000000 in
theorem main (x d : Int) (oc oR oh ol : Option Addr) (ln n hn nl cc cr ch cl : Nat) (fn hv : Nat → Bool) (gr gl : Nat → Int) (fi : Bool) (w : World) (hx0 : 0 ≤ x) (hx1 : x ≤ 255) (hC : BoolsAt w oc ln fn) (hR : IntsAt .u16 w oR n gr) (hH : BoolsAt w oh hn hv) (hL : IntsAt .i32 w ol nl gl)
    (m1 : ln ≤ maxLen) (m2 : n ≤ maxLen) (m3 : hn ≤ maxLen) (m4 : nl ≤ maxLen) (hg : ∀ i, i < n → 0 ≤ gr i ∧ gr i ≤ 65535) :
    Calls Try.prog 3 #[.int .u8 x, .int .i64 d, .slice oc ln cc, .slice oR n cr, .slice oh hn ch, .slice ol nl cl, .bool fi] w fun e w' => e = .returned (.bool true) ∧ Below w.heap.size w w' := by
  have cB := Lib.hid (Rl.bytes (.int .u8 x) (.int .i64 d) oc oR oh ol ln n hn nl cc cr ch cl (.bool fi) w m1 m2 m3 m4)
  have hb0 := Lib.hid (Below.refl w.heap.size w)
  unfold maxLen at m1 m2 m3 m4
  replace hC := Lib.hid hC
  replace hR := Lib.hid hR
  replace hH := Lib.hid hH
  replace hL := Lib.hid hL
  replace hg := Lib.hid hg
  go_enter Try.func3, Try.ntmps3
  go_wp2_with fail
  go_at_call 4
  refine cB.out.mono ?_
  rintro e w1 ⟨x1, rfl, rfl⟩
  clear cB
  cases x1 with
  | false =>
    go_wp2_with fail
    go_ret
    exact ⟨rfl, hb0.out⟩
  | true =>
  by_cases p1 : (65536 : Int) < (ln : Int)
  · go_wp2_with fail
    go_ret
    exact ⟨rfl, hb0.out⟩
  by_cases p2 : (65536 : Int) < (n : Int)
  · go_wp2_with fail
    go_ret
    exact ⟨rfl, hb0.out⟩
  by_cases p3 : (65536 : Int) < (hn : Int)
  · go_wp2_with fail
    go_ret
    exact ⟨rfl, hb0.out⟩
  by_cases p4 : (65536 : Int) < (nl : Int)
  · go_wp2_with fail
    go_ret
    exact ⟨rfl, hb0.out⟩
  have b1 : ln ≤ 65536 := by omega
  have b2 : n ≤ 65536 := by omega
  have b3 : hn ≤ 65536 := by omega
  have b4 : nl ≤ 65536 := by omega
  clear m1 m2 m3 m4
  obtain ⟨r, hr⟩ : ∃ r : Nat → Nat, ∀ i, i < n → r i = (gr i).toNat % n := ⟨fun i => (gr i).toNat % n, fun _ _ => rfl⟩
  have hrn : ∀ i, i < n → r i < n := fun i hi => by rw [hr i hi]; exact Nat.mod_lt _ (by omega)
  have cS := Lib.hid (setup x d oc oR oh ol ln n hn nl cc cr ch cl fn hv gr gl w hx0 hx1 hC.out hR.out hH.out hL.out b1 b2 b3 b4 hg.out r hr)
  replace hr := Lib.hid hr
  replace hrn := Lib.hid hrn
  go_wp2_with fail
  go_at_call 5
  refine cS.out.mono ?_
  rintro e w5 ⟨P, g, D, b, S, F, v0, rfl, hPa, hHd, hSc, hDs, hB5⟩
  clear cS
  obtain ⟨vl, hvl⟩ : ∃ vl : Nat → Bool, vl = fun i => decide (i < hn) && hv i := ⟨_, rfl⟩
  obtain ⟨c, hc⟩ : ∃ c : Nat → Bool, c = fun i => fi || vl i := ⟨_, rfl⟩
  rw [← hvl] at hDs
  have hm3 : x % 3 = 0 ∨ x % 3 = 1 ∨ x % 3 = 2 := by omega
  have bQ : Below w5.heap.size w5 (w5.alloc (.cells #[.nilIface, .int .i32 0] 35)) := (Below.refl _ _).alloc (Nat.le_refl _) _
  have hQ := heap_alloc_new w5 (.cells #[.nilIface, .int .i32 0] 35)
  have lts := hPa.lts
  have hBw : w.heap.size ≤ w5.heap.size := hB5.size
  have hDq : Ds D n b r (lc nl gl) vl (w5.alloc (.cells #[.nilIface, .int .i32 0] 35)) := hDs.keep (Ko.of_below (B := w.heap.size) (P := P) (g := g) bQ hBw) hPa
  have cF := Lib.hid (fun hf : fi = true => forIn w.heap.size P g n D ln b r S (lc nl gl) vl fn c (x % 3) d F v0 _ (hPa.below bQ) (hHd.below bQ) (hSc.below bQ) hDq b2 hrn.out hm3 (fun i _ => by rw [hc]; simp [hf]))
  have cN := Lib.hid (fun hf : fi = false => normal w.heap.size P g n D ln b r S (lc nl gl) vl fn c (x % 3) d F v0 _ (hPa.below bQ) (hHd.below bQ) (hSc.below bQ) hDq b2 hrn.out hm3 (fun i _ => by rw [hc]; simp [hf]))
  have hR5 := Lib.hid (hR.out.below hB5)
  have hH5 := Lib.hid (hH.out.below hB5)
  have hL5 := Lib.hid (hL.out.below hB5)
  replace hPa := Lib.hid hPa
  replace hHd := Lib.hid hHd
  replace hSc := Lib.hid hSc
  replace hDs := Lib.hid hDs
  replace hDq := Lib.hid hDq
  replace hB5 := Lib.hid hB5
  replace hvl := Lib.hid hvl
  replace hc := Lib.hid hc
  replace bQ := Lib.hid bQ
  replace hQ := Lib.hid hQ
  replace lts := Lib.hid lts
  clear hm3
  go_upto_if 68 with fail
  go_cut [19] from 68 to 80 (fun o wx => ∃ a l ok, o = .bool ok ∧ Wr w.heap.size P g n r (lc nl gl) c (x % 3) d ln fn w5 (.returned (.tuple #[.agg #[a, .int .i32 l], .bool ok])) wx ∧ wx.heap[w5.heap.size]? = some (.cells #[a, .int .i32 l] 35 (0, 0)))
  case first =>
    cases fi with
    | true =>
      go_wp2_with fail
      go_at_call 6
      refine (cF.out trivial).mono ?_
      rintro e w6 hW
      obtain ⟨a, l, ok, rfl, ha, h1, h2, h3⟩ := wr_set hBw bQ.out (Nat.le_refl _) hQ.out lts.out.1 lts.out.2.1 hW
      have y4 : w6.cell? ⟨w5.heap.size, 0, none⟩ = some .nilIface := cell_of_row _ _ 0 _ _ _ h1
      have y5 : w6.cell? ⟨w5.heap.size, 1, none⟩ = some (.int .i32 0) := cell_of_row _ _ 1 _ _ _ h1
      have y6 : w6.frozen? ⟨w5.heap.size, 0, none⟩ = false := frozen_of_row _ _ 0 _ _ h1
      have y7 : w6.frozen? ⟨w5.heap.size, 1, none⟩ = false := frozen_of_row _ _ 1 _ _ h1
      replace h1 := Lib.hid h1
      replace h2 := Lib.hid h2
      replace h3 := Lib.hid h3
      clear hW
      rcases ha with rfl | ⟨t, p, rfl⟩
      · go_wp2_with fail
        go_meet
        exact ⟨_, _, _, rfl, h3.out, h2.out⟩
      · go_wp2_with fail
        go_meet
        exact ⟨_, _, _, rfl, h3.out, h2.out⟩
    | false =>
      go_wp2_with fail
      go_at_call 7
      refine (cN.out trivial).mono ?_
      rintro e w6 hW
      obtain ⟨a, l, ok, rfl, ha, h1, h2, h3⟩ := wr_set hBw bQ.out (Nat.le_refl _) hQ.out lts.out.1 lts.out.2.1 hW
      have y4 : w6.cell? ⟨w5.heap.size, 0, none⟩ = some .nilIface := cell_of_row _ _ 0 _ _ _ h1
      have y5 : w6.cell? ⟨w5.heap.size, 1, none⟩ = some (.int .i32 0) := cell_of_row _ _ 1 _ _ _ h1
      have y6 : w6.frozen? ⟨w5.heap.size, 0, none⟩ = false := frozen_of_row _ _ 0 _ _ h1
      have y7 : w6.frozen? ⟨w5.heap.size, 1, none⟩ = false := frozen_of_row _ _ 1 _ _ h1
      replace h1 := Lib.hid h1
      replace h2 := Lib.hid h2
      replace h3 := Lib.hid h3
      clear hW
      rcases ha with rfl | ⟨t, p, rfl⟩
      · go_wp2_with fail
        go_meet
        exact ⟨_, _, _, rfl, h3.out, h2.out⟩
      · go_wp2_with fail
        go_meet
        exact ⟨_, _, _, rfl, h3.out, h2.out⟩
  case rest =>
    obtain ⟨a, l, ok, rfl, hW, hQx⟩ := hcut
    obtain ⟨wb, hwb⟩ : ∃ wb : Bool, wb = decide (x % 3 = 2 ∧ ¬ (ln = 0 ∧ d = 0) ∧ anyT fn ln = false) := ⟨_, rfl⟩
    have hok : ok = wb := by
      obtain ⟨_, _, _, e, _, hs⟩ := hW
      injection e with e
      injection e with e
      have e3 := congrArg (fun z => z.getD 1 undef) e
      simp at e3
      subst e3
      rw [hwb]
      rcases hs with ⟨rfl, h1, _⟩ | ⟨rfl, h1, _⟩
      · rw [eq_comm, decide_eq_false_iff_not]
        rintro ⟨q1, q2, q3⟩
        exact h1 ⟨q1, q2, anyT_false.1 q3⟩
      · rw [eq_comm, decide_eq_true_iff]
        exact ⟨h1.1, h1.2.1, anyT_false.2 h1.2.2⟩
    obtain ⟨A, hA⟩ : ∃ A, anyT fn ln = A := ⟨_, rfl⟩
    rw [hA]
    rw [hA] at hwb
    replace hA := Lib.hid hA
    replace hok := Lib.hid hok
    replace hW := Lib.hid hW
    replace hQx := Lib.hid hQx
    replace hwb := Lib.hid hwb
    clear cF cN
    have ht3 : x.tmod 3 = x % 3 := Int.tmod_eq_emod_of_nonneg hx0
    go_upto_region 12 with fail
    go_cut [21] from 83 to 99 (fun t wx => t = .bool wb ∧ wx = wc)
    case first =>
      by_cases q1 : x % 3 = 2
      · have q1' : x.tmod 3 = 2 := by rw [ht3]; exact q1
        clear ht3
        by_cases q2 : ln = 0
        · have q2' : ((ln : Int) == 0) = true := by simp [q2]
          by_cases q3 : d = 0
          · have q3' : (d == 0) = true := by simp [q3]
            have hb : wb = false := by rw [hwb.out]; simp [q2, q3]
            subst hb
            replace q2 := Lib.hid q2
            replace q3 := Lib.hid q3
            go_wp2_with fail
            go_meet
            exact ⟨rfl, rfl⟩
          · have q3' : (d == 0) = false := by simp [q3]
            have hb : wb = !A := by rw [hwb.out]; cases A <;> simp [q1, q3]
            subst hb
            replace q2 := Lib.hid q2
            replace q3 := Lib.hid q3
            cases A with
            | true =>
              go_wp2_with fail
              go_meet
              exact ⟨rfl, rfl⟩
            | false =>
              go_wp2_with fail
              go_meet
              exact ⟨rfl, rfl⟩
        · have hb : wb = !A := by rw [hwb.out]; cases A <;> simp [q1, q2]
          subst hb
          have q4 : ¬ (ln : Int) = 0 := by omega
          cases A with
          | true =>
            go_wp2_with fail
            go_meet
            exact ⟨rfl, rfl⟩
          | false =>
            go_wp2_with fail
            go_meet
            exact ⟨rfl, rfl⟩
      · have hb : wb = false := by rw [hwb.out]; simp [q1]
        subst hb
        have q1' : ¬ x.tmod 3 = 2 := by rw [ht3]; exact q1
        clear ht3
        go_wp2_with fail
        go_meet
        exact ⟨rfl, rfl⟩
    case rest =>
      obtain ⟨rfl, rfl⟩ := hcut
      have hok2 := hok.out
      subst hok2
      clear hwb hA ht3
      obtain ⟨a', l', ok', e, hKo, hs⟩ := hW.out
      injection e with e
      injection e with e
      have e1 := congrArg (fun z => z.getD 0 undef) e
      have e3 := congrArg (fun z => z.getD 1 undef) e
      simp at e1 e3
      obtain ⟨rfl, rfl⟩ := e1
      subst e3
      clear e hW
      have hBf : Below w.heap.size w wc := hB5.out.trans hKo.bel
      rcases hs with ⟨rfl, hno, rfl, rfl, F9, v9, hP⟩ | ⟨rfl, hyes, hst, F9, v9, hP⟩
      · obtain ⟨o9, c9, rfl⟩ := hP.anyF
        have cV := varsOf _ _ _ _ _ _ _ _ _ _ hP
        have cU := Lib.hid (fun j hj => useOf _ _ _ _ _ _ _ _ _ j wc hP hj b2)
        have s0 : wc.cell? ⟨w5.heap.size, 0, none⟩ = some .nilIface := cell_of_row _ _ 0 _ _ _ hQx.out
        replace hP := Lib.hid hP
        replace hBf := Lib.hid hBf
        replace hKo := Lib.hid hKo
        clear hno
        go_wp2_with fail
        go_at_call 8
        refine cV.mono ?_
        rintro e w8 ⟨rfl, rfl⟩
        clear cV
        go_wp2_with fail
        go_loopg [23] n (fun gk i wv => ∃ k : Nat, k ≤ n ∧ gk = n - k ∧ i = .int .i64 k ∧ wv = w8)
        case atStart => exact ⟨0, Nat.zero_le _, rfl, rfl, rfl⟩
        case round =>
          obtain ⟨k, hk, rfl, rfl, rfl⟩ := hrel
          rcases Nat.lt_or_ge k n with hlt | hge
          · have cU2 := cU.out k hlt
            go_wp2_with fail
            go_at_call 9
            refine cU2.mono ?_
            rintro e w9 ⟨rfl, rfl⟩
            clear cU2
            have hz : cnt r 0 k = 0 := rfl
            rw [hz]
            go_wp2_with fail
            go_roundg (n - (k + 1))
            case measure => omega
            case rel => exact ⟨k + 1, by omega, rfl, rfl, rfl⟩
          · have hkn : k = n := by omega
            subst hkn
            go_wp2_with fail
            go_ret
            exact ⟨rfl, hBf.out⟩
      · obtain ⟨o9, c9, rfl⟩ := hP.anyF
        have hVA := Lib.hid (fun h0 => vars_at hP.own h0)
        have cV := varsOf _ _ _ _ _ _ _ _ _ _ hP
        have cU := Lib.hid (fun W hb j hj => useOf _ _ _ _ _ _ _ _ _ j W (hP.below (w1 := W) hb) hj b2)
        have hRc := Lib.hid (hR.out.below hBf)
        have hHc := Lib.hid (hH.out.below hBf)
        have hLc := Lib.hid (hL.out.below hBf)
        have hmk := make32 n b2
        have hQlt := (Array.getElem?_eq_some_iff.1 hQx.out).1
        have hBs := hBf.size
        replace hP := Lib.hid hP
        replace hBf := Lib.hid hBf
        replace hKo := Lib.hid hKo
        replace hst := Lib.hid hst
        clear hyes
        go_wp2_with fail
        go_at_call 8
        refine cV.mono ?_
        rintro e w8 ⟨rfl, rfl⟩
        clear cV
        have hrow := World.rowIs_made w8 (.int .u32 0) n 40
        have hbel : Below w8.heap.size w8 (w8.alloc (.cells (madeCells #[.int .u32 0] n) 40)) := (Below.refl _ _).alloc (Nat.le_refl _) _
        replace hrow := Lib.hid hrow
        replace hbel := Lib.hid hbel
        go_wp2_with fail
        clear hmk
        go_loopg [25] n (fun gk i wv => ∃ k : Nat, k ≤ n ∧ gk = n - k ∧ i = .int .i64 k ∧ wv.rowIs w8.heap.size 40 n (fun j => .int .u32 (cnt r k j : Nat)) ∧ Below w8.heap.size w8 wv)
        case atStart => exact ⟨0, Nat.zero_le _, rfl, rfl, hrow.out, hbel.out⟩
        case round =>
          obtain ⟨k, hk, rfl, rfl, hrw, hbl⟩ := hrel
          rcases Nat.lt_or_ge k n with hlt | hge
          · obtain ⟨vb, vcur, rfl, hvb, hvc⟩ := hVA.out (by omega)
            obtain ⟨q0, q1, q2⟩ := hvc k hlt
            have lvb := (Array.getElem?_eq_some_iff.1 hvb).1
            have q0' := (hbl.cell (p := ⟨vb, k * 3, none⟩) lvb).trans q0
            have q1' := (hbl.cell (p := ⟨vb, k * 3 + 1, none⟩) lvb).trans q1
            have q2' := (hbl.cell (p := ⟨vb, k * 3 + 2, none⟩) lvb).trans q2
            clear q0 q1 q2 hvc
            rcases hRc.out.below hbl with h0 | ⟨rb, ro, rfl, hrb, hcR⟩
            · omega
            have g2 := hcR k hlt
            clear hcR
            have hgi := hg.out k hlt
            have hri : (gr k).tmod (n : Int) = (r k : Nat) := by
              obtain ⟨a0, ha0⟩ := Int.eq_ofNat_of_zero_le hgi.1
              rw [hr.out k hlt, ha0, Int.toNat_natCast]
              exact (Int.ofNat_tmod a0 n).symm
            have hrk := hrn.out k hlt
            have hnz : ¬ n = 0 := by omega
            have cW := Lib.hid (fun q => raw ol nl cl k gl (wr.drewN q) ((hLc.out.below hbl).below (belowN (Below.refl _ _) q)) b4 (by omega))
            have hcl := cnt_le r k (r k)
            have u1 : wr.cell? ⟨w8.heap.size, r k, none⟩ = some (.int .u32 (cnt r k (r k) : Nat)) := hrw.cell hrk
            have u2 := hrw.frozen (r k)
            have u3 := hrw.lt
            have hset : Hid (∀ q, ((wr.drewN q).setCell ⟨w8.heap.size, r k, none⟩ (.int .u32 ((cnt r k (r k) + 1 : Nat) : Int))).rowIs w8.heap.size 40 n (fun j => .int .u32 (cnt r (k + 1) j : Nat))) := Lib.hid (fun q => (World.rowIs.set (w := wr.drewN q) hrw (r k) _).congr fun j hj => by
              by_cases hjr : j = r k
              · rw [if_pos hjr, hjr, cnt_same]
              · rw [if_neg hjr, cnt_other _ _ _ (fun e => hjr e.symm)])
            have hbl2 : Hid (∀ q y, Below w8.heap.size w8 ((wr.drewN q).setCell ⟨w8.heap.size, r k, none⟩ y)) := Lib.hid (fun q y => (belowN hbl q).setCell (p := ⟨w8.heap.size, r k, none⟩) (Nat.le_refl _) y)
            have hadd : ((cnt r k (r k) : Nat) : Int) + 1 = ((cnt r k (r k) + 1 : Nat) : Int) := by omega
            replace hrw := Lib.hid hrw
            replace hbl := Lib.hid hbl
            replace hadd := Lib.hid hadd
            clear hvb
            go_upto_region 32 with fail
            go_quiet ((go_at_call 10; exact Calls.quiet_of_same (cW.out _)))
            go_wp2_with fail
            go_roundg (n - (k + 1))
            case measure => omega
            case rel => exact ⟨k + 1, by omega, rfl, rfl, by rw [hadd.out]; exact hset.out nq, hbl2.out nq _⟩
          · have hkn : k = n := by omega
            subst hkn
            replace hrw := Lib.hid hrw
            replace hbl := Lib.hid hbl
            go_wp2_with fail
            go_loopg [27] k (fun gk i wv => ∃ j : Nat, j ≤ k ∧ gk = k - j ∧ i = .int .i64 j ∧ wv.rowIs w8.heap.size 40 k (fun j => .int .u32 (cnt r k j : Nat)) ∧ Below w8.heap.size w8 wv)
            case atStart => exact ⟨0, Nat.zero_le _, rfl, rfl, hrw.out, hbl.out⟩
            case round =>
              clear hrw hbl
              obtain ⟨j, hj, rfl, rfl, hrw, hbl⟩ := hrel
              rcases Nat.lt_or_ge j k with hlt | hge
              · have u1 : wr.cell? ⟨w8.heap.size, j, none⟩ = some (.int .u32 (cnt r k j : Nat)) := hrw.cell hlt
                have u3 := hrw.lt
                have cUq := Lib.hid (fun q => cU.out (wr.drewN q) (belowN hbl q) j hlt)
                have hr2 : Hid (∀ q, (wr.drewN q).rowIs w8.heap.size 40 k (fun j => .int .u32 (cnt r k j : Nat))) := Lib.hid (fun q => hrw)
                have hb2 := Lib.hid (fun q => belowN hbl q)
                replace hrw := Lib.hid hrw
                replace hbl := Lib.hid hbl
                go_upto_region 38 with fail
                go_quiet ((go_at_call 9; exact Calls.quiet_of_same (cUq.out _)))
                go_wp2_with fail
                go_roundg (k - (j + 1))
                case measure => omega
                case rel => exact ⟨j + 1, by omega, rfl, rfl, hr2.out nq, hb2.out nq⟩
              · have hjk : j = k := by omega
                subst hjk
                have hQ4 := (hbl.block _ hQlt).trans hQx.out
                have hB4 := hBf.out.trans (hbl.mono hBs)
                have hH4 := Lib.hid (hHc.out.below hbl)
                have hL4 := Lib.hid (hLc.out.below hbl)
                replace hrw := Lib.hid hrw
                replace hbl := Lib.hid hbl
                replace hQ4 := Lib.hid hQ4
                replace hB4 := Lib.hid hB4
                go_wp2_with fail
                go_loopg [28, 29] j (fun gk f i wv => ∃ m : Nat, m ≤ j ∧ gk = j - m ∧ f = .int .i64 (-1) ∧ i = .int .i64 m ∧ (∀ i, i < m → c i = false) ∧ wv.heap[w5.heap.size]? = some (.cells #[a, .int .i32 l] 35 (0, 0)) ∧ Below w.heap.size w wv ∧ BoolsAt wv oh hn hv ∧ IntsAt .i32 wv ol nl gl)
                case atStart => exact ⟨0, Nat.zero_le _, rfl, rfl, rfl, fun i h => by omega, hQ4.out, hB4.out, hH4.out, hL4.out⟩
                case round =>
                  clear hQ4 hB4 hH4 hL4 hrw hbl
                  obtain ⟨k, hk, rfl, rfl, rfl, hcj, hQ4, hB4, hH4, hL4⟩ := hrel
                  have hfin := Lib.hid (And.intro hQ4 (And.intro hB4 (And.intro hH4 hL4)))
                  have hcv : c k = (fi || (decide (k < hn) && hv k)) := by rw [hc.out, hvl.out]
                  rcases Nat.lt_or_ge k j with hlt | hge
                  · replace hB4 := Lib.hid hB4
                    replace hL4 := Lib.hid hL4
                    replace hcj := Lib.hid hcj
                    cases fi with
                    | true =>
                      have hck : c k = true := by rw [hcv]; rfl
                      clear hcv hH4
                      have hfs : fst c j = some k := fst_some hlt hck hcj.out
                      rcases hst.out with ⟨hf, _, _⟩ | ⟨i0, t, p, hf, rfl, rfl⟩
                      · rw [hfs] at hf
                        cases hf
                      · rw [hfs] at hf
                        injection hf with hf
                        subst hf
                        have s0 : wr.cell? ⟨w5.heap.size, 0, none⟩ = some (.iface t p) := cell_of_row _ _ 0 _ _ _ hQ4
                        have s1 : wr.cell? ⟨w5.heap.size, 1, none⟩ = some (.int .i32 (lc nl gl k)) := cell_of_row _ _ 1 _ _ _ hQ4
                        have cW := fun q => raw ol nl cl k gl (wr.drewN q) (hL4.out.below (belowN (Below.refl _ _) q)) b4 (by omega)
                        replace cW := Lib.hid cW
                        replace hcj := Lib.hid hcj
                        replace hfs := Lib.hid hfs
                        replace hck := Lib.hid hck
                        go_upto_region 48 with fail
                        go_quiet ((go_at_call 10; exact Calls.quiet_of_same (cW.out _)))
                        go_wp2_with fail
                        go_ret
                        exact ⟨by simp, belowN hB4.out nq⟩
                    | false =>
                      by_cases hkh : k < hn
                      · rcases hH4 with h0 | ⟨hb, ho, rfl, hhb, hcc⟩
                        · omega
                        have g3 := hcc k hkh
                        clear hcc
                        cases hvk : hv k with
                        | true =>
                          rw [hvk] at g3
                          have hck : c k = true := by rw [hcv, hvk]; simp [hkh]
                          clear hcv
                          replace hvk := Lib.hid hvk
                          have hfs : fst c j = some k := fst_some hlt hck hcj.out
                          rcases hst.out with ⟨hf, _, _⟩ | ⟨i0, t, p, hf, rfl, rfl⟩
                          · rw [hfs] at hf
                            cases hf
                          · rw [hfs] at hf
                            injection hf with hf
                            subst hf
                            have s0 : wr.cell? ⟨w5.heap.size, 0, none⟩ = some (.iface t p) := cell_of_row _ _ 0 _ _ _ hQ4
                            have s1 : wr.cell? ⟨w5.heap.size, 1, none⟩ = some (.int .i32 (lc nl gl k)) := cell_of_row _ _ 1 _ _ _ hQ4
                            have cW := fun q => raw ol nl cl k gl (wr.drewN q) (hL4.out.below (belowN (Below.refl _ _) q)) b4 (by omega)
                            replace cW := Lib.hid cW
                            replace hcj := Lib.hid hcj
                            replace hfs := Lib.hid hfs
                            replace hck := Lib.hid hck
                            go_upto_region 48 with fail
                            go_quiet ((go_at_call 10; exact Calls.quiet_of_same (cW.out _)))
                            go_wp2_with fail
                            go_ret
                            exact ⟨by simp, belowN hB4.out nq⟩
                        | false =>
                          rw [hvk] at g3
                          have hck : c k = false := by rw [hcv, hvk]; simp
                          clear hcv
                          replace hvk := Lib.hid hvk
                          replace hck := Lib.hid hck
                          replace hQ4 := Lib.hid hQ4
                          go_wp2_with fail
                          go_roundg (j - (k + 1))
                          case measure => omega
                          case rel =>
                            obtain ⟨z1, z2, z3, z4⟩ := hfin.out
                            refine ⟨k + 1, by omega, rfl, rfl, rfl, fun i h => ?_, z1, z2, z3, z4⟩
                            rcases Nat.lt_or_ge i k with h2 | h2
                            · exact hcj.out i h2
                            · rw [show i = k by omega]; exact hck.out
                      · have hck : c k = false := by rw [hcv]; simp [hkh]
                        clear hcv
                        replace hck := Lib.hid hck
                        replace hQ4 := Lib.hid hQ4
                        replace hH4 := Lib.hid hH4
                        go_wp2_with fail
                        go_roundg (j - (k + 1))
                        case measure => omega
                        case rel =>
                          obtain ⟨z1, z2, z3, z4⟩ := hfin.out
                          refine ⟨k + 1, by omega, rfl, rfl, rfl, fun i h => ?_, z1, z2, z3, z4⟩
                          rcases Nat.lt_or_ge i k with h2 | h2
                          · exact hcj.out i h2
                          · rw [show i = k by omega]; exact hck.out
                  · have hkj : k = j := by omega
                    subst hkj
                    have hfs : fst c k = none := fst_none hcj
                    rcases hst.out with ⟨_, rfl, rfl⟩ | ⟨i0, t, p, hf, _, _⟩
                    · have s0 : wr.cell? ⟨w5.heap.size, 0, none⟩ = some .nilIface := cell_of_row _ _ 0 _ _ _ hQ4
                      replace hQ4 := Lib.hid hQ4
                      replace hH4 := Lib.hid hH4
                      replace hB4 := Lib.hid hB4
                      replace hL4 := Lib.hid hL4
                      replace hcj := Lib.hid hcj
                      replace hcv := Lib.hid hcv
                      replace hfs := Lib.hid hfs
                      go_wp2_with fail
                      go_ret
                      exact ⟨rfl, hB4.out⟩
                    · rw [hfs] at hf
                      cases hf
set_option maxRecDepth 100000 in
theorem walk (W : World) {H : Type} {enc : TypeId × Value → H} {base : Nat} {p2 p3 p4 p5 : List MemPlace} (x : Int) (wx : (Lit.int .u8 x).wf = true) (d : Int) (_wd : (Lit.int .i64 d).wf = true)
    (v2 : Value) (d2 : DataW H) (k2 : Value.okWide Try.prog W .any base 22 v2) (h2 : DataW.Trod enc Try.prog W 0 (fun _ => true) true 22 v2 d2 p2)
    (v3 : Value) (d3 : DataW H) (k3 : Value.okWide Try.prog W .any base 23 v3) (h3 : DataW.Trod enc Try.prog W 0 (fun _ => true) true 23 v3 d3 p3)
    (v4 : Value) (d4 : DataW H) (k4 : Value.okWide Try.prog W .any base 22 v4) (h4 : DataW.Trod enc Try.prog W 0 (fun _ => true) true 22 v4 d4 p4)
    (v5 : Value) (d5 : DataW H) (k5 : Value.okWide Try.prog W .any base 24 v5) (h5 : DataW.Trod enc Try.prog W 0 (fun _ => true) true 24 v5 d5 p5) (fi : Bool) :
    Calls Try.prog 3 #[.int .u8 x, .int .i64 d, v2, v3, v4, v5, .bool fi] W fun e w' => e = .returned (.bool true) ∧ Below W.heap.size W w' := by
  have e1 : IntKind.u8.min = 0 := rfl
  have e2 : IntKind.u8.max = 255 := rfl
  have e3 : IntKind.u16.min = 0 := rfl
  have e4 : IntKind.u16.max = 65535 := rfl
  obtain ⟨oc, ln, cc, fn, rfl, a1, a2, iC, _⟩ := openBools Try.underlying22 Try.underlying4 (by kernel_rfl) k2 h2
  obtain ⟨oR, n, cr, gr, rfl, b1, b2, iR, gR, _⟩ := openInts (k := .u16) Try.underlying23 Try.underlying43 (by kernel_rfl) k3 h3
  obtain ⟨oh, hn, ch, hv, rfl, c1, c2, iH, _⟩ := openBools Try.underlying22 Try.underlying4 (by kernel_rfl) k4 h4
  obtain ⟨ol, nl, cl, gl, rfl, d1, d2', iL, _, _⟩ := openInts (k := .i32) Try.underlying24 Try.underlying21 (by kernel_rfl) k5 h5
  have hx : 0 ≤ x ∧ x ≤ 255 := by simpa [Lit.wf, e1, e2] using wx
  exact main x d oc oR oh ol ln n hn nl cc cr ch cl fn hv gr gl fi W hx.1 hx.2 iC iR iH iL (Nat.le_trans a1 a2) (Nat.le_trans b1 b2) (Nat.le_trans c1 c2) (Nat.le_trans d1 d2') (fun i hi => by simpa [Lit.wf, e3, e4] using gR i hi)
end Go.Proofs.Ytdiedidmjpihjaa.fnMaybeRelocateVarsToTopLevelExact
