/-
  buildBinding: the object case, and the whole. Condition: at most 65536 code bytes.
-/
import Derived.Test.YtgiehlcmmikgmaaBind2
namespace Go.Proofs.Ytgiehlcmmikgmaa.Bind
open Go.RowKit Go.ChangeShapes Go.WideShapes Go.ChangeAt Go.Proofs.Ytgiehlcmmikgmaa.Ints

theorem sumF_put (H : Nat → Bool) (K : Nat → Nat) (r k : Nat) (g : Bool) : sumK (flagN (fun i => if i = r then g else H i) (fun i => if i = r then k else K i)) (r + 1) = sumK (flagN H K) r + (k + (if g then 1 else 0)) := by
  have e : sumK (flagN (fun i => if i = r then g else H i) (fun i => if i = r then k else K i)) r = sumK (flagN H K) r := by
    refine sumK_congr r (fun i hi => ?_)
    have hne : i ≠ r := by omega
    simp [flagN, hne]
  rw [sumK, e]
  simp only [flagN, if_true]
set_option maxRecDepth 100000 in
set_option maxHeartbeats 4000000 in
theorem buildP (P N c : Nat) (b off : Nat) (f : Nat → Int) (w : World) (p : Nat) (ih : IH P N c b off f p) (hO : Ops w b off N P f) (hlt : p < N) (hP : w.rowIs P 3 1 (fun _ => .int .i64 p)) (hN : N ≤ 65536) (hq : bits BinOp.and IntKind.u8 (f p) 3 = 3) :
    Calls Try.prog 8 #[.slice (some ⟨b, off, none⟩) N c, .pointer (some ⟨P, 0, none⟩)] w (Built P N w p) := by
  obtain ⟨i0, hi, hz0, hz1, hz2⟩ := info_parts infoP
  have c0 : w.cell? ⟨P, 0, none⟩ = some (.int .i64 p) := hP.cell (i := 0) (by omega)
  have c1 := hP.frozen 0
  have hPl : P < w.heap.size := hP.lt
  have hc := hO.cells p hlt
  have hf := hO.rng p hlt
  have hbl : b < w.heap.size := lt_of_cell hc
  obtain ⟨m, hm, hmm⟩ := and7 (f p / 4) (by omega) (by omega)
  have hset : Hid (But P 3 1 w (w.setCell ⟨P, 0, none⟩ (.int .i64 ((p : Int) + 1))) ∧ (w.setCell ⟨P, 0, none⟩ (.int .i64 ((p : Int) + 1))).cell? ⟨P, 0, none⟩ = some (.int .i64 ((p : Int) + 1))) :=
    Lib.hid ⟨(But.start hP).set 0 _, (hP.set 0 (.int .i64 ((p : Int) + 1))).cell (i := 0) (by omega)⟩
  have hmk := makeP m hm
  have hnp : decide (N ≤ p) = false := decide_eq_false (by omega)
  replace ih := Lib.hid ih
  replace hO := Lib.hid hO
  go_enter Try.func8, Try.ntmps8
  go_wp2_with fail
  obtain ⟨hs1, hs2⟩ := hset.out
  have hsz0 : (w.setCell ⟨P, 0, none⟩ (.int .i64 ((p : Int) + 1))).heap.size = w.heap.size := by simp
  generalize (w.setCell ⟨P, 0, none⟩ (.int .i64 ((p : Int) + 1))) = w0 at hs1 hs2 hsz0 ⊢
  have hR := World.rowIs_alloc w0 #[.nilIface, .int .i32 0] 30 (fun j => if j = 0 then .nilIface else .int .i32 0) (fun i hi => by
    match i, hi with
    | 0, _ | 1, _ => rfl)
  have hb1 : But P 3 1 w (w0.alloc (.cells #[.nilIface, .int .i32 0] 30)) := hs1.next ((Below.refl _ _).alloc (Nat.le_refl _) _)
  have hp1 : (w0.alloc (.cells #[.nilIface, .int .i32 0] 30)).cell? ⟨P, 0, none⟩ = some (.int .i64 ((p + 1 : Nat) : Int)) := (((Below.refl w0.heap.size w0).alloc (Nat.le_refl _) _).cell (p := ⟨P, 0, none⟩) (by show P < w0.heap.size; omega)).trans hs2
  have hG1 : (w0.alloc (.cells #[.nilIface, .int .i32 0] 30)).heap.size = w.heap.size + 1 := by simp [hsz0]
  rw [hsz0] at hR
  generalize (w0.alloc (.cells #[.nilIface, .int .i32 0] 30)) = w1 at hR hb1 hp1 hG1 ⊢
  clear hs1 hs2 hsz0 c0 c1 hmk
  have hL0 : Lp 86 11 w1 (w1.alloc (.cells (madeCells #[.nilIface, .int .i32 0, .nilIface, .int .i32 0, .nilIface, .int .i32 0, .int .i32 0, .int .i32 0, .bool false, .bool false, .bool false] (m * 11)) 86)) P N (w.heap.size + 1) 0 m 0 (p + 1) (cellsP (fun _ => .nilIface) (fun _ => false) 0) (fun _ => .nilIface) (fun _ => 0) (p + 1) := by
    refine ⟨?_, fun i hi => absurd hi (by omega), (But.start (butPos hb1 hp1)).next ((Below.refl _ _).alloc (Nat.le_refl _) _), (((Below.refl w1.heap.size w1).alloc (Nat.le_refl _) _).cell (p := ⟨P, 0, none⟩) (by show P < w1.heap.size; omega)).trans hp1, Nat.le_refl _, hlt, by omega, hG1.symm⟩
    have := World.ownsRow_made (base := w.heap.size + 1) (e := 86) (size := 11) w1 (madeCells #[.nilIface, .int .i32 0, .nilIface, .int .i32 0, .nilIface, .int .i32 0, .int .i32 0, .int .i32 0, .bool false, .bool false, .bool false] (m * 11)) m (by omega) (by simp only [maxLen]; omega) (by simp [size_madeCells])
    rw [hG1] at this
    exact this
  have hO1 : Hid (Ops w1 b off N P f) := Lib.hid (hO.out.but hb1)
  generalize hGn : w.heap.size + 1 = G at hL0 hG1 ⊢
  replace hGn := Lib.hid hGn
  replace hG1 := Lib.hid hG1
  generalize (w1.alloc (.cells (madeCells #[.nilIface, .int .i32 0, .nilIface, .int .i32 0, .nilIface, .int .i32 0, .int .i32 0, .int .i32 0, .bool false, .bool false, .bool false] (m * 11)) 86)) = w2 at hL0 ⊢
  go_loopg [13, 14, 15] m (fun gk xs t i wr => ∃ (r s p' : Nat) (D : Nat → Value) (K : Nat → Nat) (H : Nat → Bool), r ≤ m ∧ gk = m - r ∧ i = .int .i64 r ∧ t = .int .i64 s ∧ xs = .slice (some ⟨G, 0, none⟩) r m ∧ s = sumK (flagN H K) r ∧ Lp 86 11 w1 wr P N G r m s (p + 1) (cellsP D H r) D K p')
  case atStart => exact ⟨0, 0, p + 1, fun _ => .nilIface, fun _ => 0, fun _ => false, Nat.zero_le _, rfl, rfl, rfl, rfl, rfl, hL0⟩
  case round =>
    clear hL0
    obtain ⟨r, s, p', D, K, H, hr, rfl, rfl, rfl, rfl, hs, hL⟩ := hrel
    replace hs := Lib.hid hs
    rcases Nat.lt_or_ge r m with hlt2 | hge
    · have hple := hL.le
      have hpN := hL.leN
      have hpos := butPos hL.but hL.pos
      have hsum := hL.sum
      have hOw := hO1.out.but hL.but
      have q0 := hL.pos
      have hcases : (∃ g : Bool, p' < N ∧ (bits BinOp.and IntKind.u8 (f p') 32 != 0) = g) ∨ N ≤ p' := by
        rcases Nat.lt_or_ge p' N with h | h
        · exact .inl ⟨_, h, rfl⟩
        · exact .inr h
      rcases hcases with ⟨g, hpl, hg0⟩ | hpl
      · have hcp := hOw.cells p' hpl
        have hrg := hO1.out.rng p' hpl
        have hdp : decide ((p' : Int) < N) = true := decide_eq_true (by omega)
        cases g
        · go_wp2_with fail
          go_at_call 8
          refine (ih.out wr p' (by omega) hpN hOw hpos).mono ?_
          rintro e w3 ⟨d, k, p2, rfl, q1, q2, q3, q4, ht, hbt, hp2⟩
          have hkx : k + p' ≤ p2 := by
            rcases Nat.lt_or_ge p' N with h | h
            · have := q3 h; omega
            · have := q4 h; omega
          clear q3 q4 hpos hOw
          have hk64 : k ≤ 65536 := by omega
          have hs64 : s ≤ 65536 := by omega
          obtain ⟨dt, dv, rfl⟩ := isIface ht
          have hown3 : Hid (w3.ownsRow G 86 11 (.slice (some ⟨G, 0, none⟩) r m) r (cellsP D H r)) := Lib.hid (own_gen hL.own (Nat.le_refl _) (fun bb h1 h2 => hbt.block bb h2 (by have := hb1.lt; have := hG1.out; have := hGn.out; omega)))
          have hnews := Lib.hid (news_cells (w3.alloc (.cells #[.iface dt dv, .int .i32 0] 30)) [.nilIface, .int .i32 0, .iface dt dv, .int .i32 0, .nilIface, .int .i32 0, .int .i32 0, .int .i32 0, .bool false, .bool false, .bool false] 86 (w3.heap.size + 1) (by simp))
          have hone : Hid (∀ u ∈ ([.nilIface, .int .i32 0, .iface dt dv, .int .i32 0, .nilIface, .int .i32 0, .int .i32 0, .int .i32 0, .bool false, .bool false, .bool false] : List Value), u.oneCell' = true) := Lib.hid (fun u hu => by simp at hu; rcases hu with rfl | rfl | rfl | rfl | rfl | rfl | rfl | rfl | rfl | rfl | rfl <;> rfl)
          go_wp2_with (at_builtin; refine wpList_append_own_spare _ rfl (.tmp 123) (.tmp 127) _ rfl G 86 i0 11 Try.underlying84 hi hz1 G r m (cellsP D H r) rfl ((hown3.out.alloc _).alloc _) ⟨w3.heap.size + 1, 0, none⟩ 1 1 [.nilIface, .int .i32 0, .iface dt dv, .int .i32 0, .nilIface, .int .i32 0, .int .i32 0, .int .i32 0, .bool false, .bool false, .bool false] rfl rfl hnews.out hone.out hlt2 ?_; intro w4 ho hg; have hL2 := hL.step (x := k) ht hbt hp2 q1 q2 hkx (by omega) ho hg; clear ho hg)
          rw [← cellsP_put D H r (.iface dt dv) false] at hL2
          go_roundg (m - (r + 1))
          case measure => omega
          case rel => exact ⟨r + 1, s + (k), p2, _, _, _, by omega, rfl, rfl, by first | (simp; done) | (simp; omega), rfl, by rw [hs.out, sumF_put]; rfl, hL2⟩
        · go_wp2_with fail
          go_at_call 8
          refine (ih.out wr p' (by omega) hpN hOw hpos).mono ?_
          rintro e w3 ⟨d, k, p2, rfl, q1, q2, q3, q4, ht, hbt, hp2⟩
          have hkx : k + 1 + p' ≤ p2 := by
            rcases Nat.lt_or_ge p' N with h | h
            · have := q3 h; omega
            · have := q4 h; omega
          clear q3 q4 hpos hOw
          have hk64 : k ≤ 65536 := by omega
          have hs64 : s ≤ 65536 := by omega
          obtain ⟨dt, dv, rfl⟩ := isIface ht
          have hown3 : Hid (w3.ownsRow G 86 11 (.slice (some ⟨G, 0, none⟩) r m) r (cellsP D H r)) := Lib.hid (own_gen hL.own (Nat.le_refl _) (fun bb h1 h2 => hbt.block bb h2 (by have := hb1.lt; have := hG1.out; have := hGn.out; omega)))
          have hnews := Lib.hid (news_cells (w3.alloc (.cells #[.iface dt dv, .int .i32 0] 30)) [.nilIface, .int .i32 0, .iface dt dv, .int .i32 0, .nilIface, .int .i32 0, .int .i32 0, .int .i32 0, .bool false, .bool true, .bool false] 86 (w3.heap.size + 1) (by simp))
          have hone : Hid (∀ u ∈ ([.nilIface, .int .i32 0, .iface dt dv, .int .i32 0, .nilIface, .int .i32 0, .int .i32 0, .int .i32 0, .bool false, .bool true, .bool false] : List Value), u.oneCell' = true) := Lib.hid (fun u hu => by simp at hu; rcases hu with rfl | rfl | rfl | rfl | rfl | rfl | rfl | rfl | rfl | rfl | rfl <;> rfl)
          go_wp2_with (at_builtin; refine wpList_append_own_spare _ rfl (.tmp 123) (.tmp 127) _ rfl G 86 i0 11 Try.underlying84 hi hz1 G r m (cellsP D H r) rfl ((hown3.out.alloc _).alloc _) ⟨w3.heap.size + 1, 0, none⟩ 1 1 [.nilIface, .int .i32 0, .iface dt dv, .int .i32 0, .nilIface, .int .i32 0, .int .i32 0, .int .i32 0, .bool false, .bool true, .bool false] rfl rfl hnews.out hone.out hlt2 ?_; intro w4 ho hg; have hL2 := hL.step (x := k + 1) ht hbt hp2 q1 q2 hkx (by omega) ho hg; clear ho hg)
          rw [← cellsP_put D H r (.iface dt dv) true] at hL2
          go_roundg (m - (r + 1))
          case measure => omega
          case rel => exact ⟨r + 1, s + (k + 1), p2, _, _, _, by omega, rfl, rfl, by first | (simp; done) | (simp; omega), rfl, by rw [hs.out, sumF_put]; rfl, hL2⟩
      · have hdp : decide ((p' : Int) < N) = false := decide_eq_false (by omega)
        go_wp2_with fail
        go_at_call 8
        refine (ih.out wr p' (by omega) hpN hOw hpos).mono ?_
        rintro e w3 ⟨d, k, p2, rfl, q1, q2, q3, q4, ht, hbt, hp2⟩
        have hkx : k + p' ≤ p2 := by
          rcases Nat.lt_or_ge p' N with h | h
          · have := q3 h; omega
          · have := q4 h; omega
        clear q3 q4 hpos hOw
        have hk64 : k ≤ 65536 := by omega
        have hs64 : s ≤ 65536 := by omega
        obtain ⟨dt, dv, rfl⟩ := isIface ht
        have hown3 : Hid (w3.ownsRow G 86 11 (.slice (some ⟨G, 0, none⟩) r m) r (cellsP D H r)) := Lib.hid (own_gen hL.own (Nat.le_refl _) (fun bb h1 h2 => hbt.block bb h2 (by have := hb1.lt; have := hG1.out; have := hGn.out; omega)))
        have hnews := Lib.hid (news_cells (w3.alloc (.cells #[.iface dt dv, .int .i32 0] 30)) [.nilIface, .int .i32 0, .iface dt dv, .int .i32 0, .nilIface, .int .i32 0, .int .i32 0, .int .i32 0, .bool false, .bool false, .bool false] 86 (w3.heap.size + 1) (by simp))
        have hone : Hid (∀ u ∈ ([.nilIface, .int .i32 0, .iface dt dv, .int .i32 0, .nilIface, .int .i32 0, .int .i32 0, .int .i32 0, .bool false, .bool false, .bool false] : List Value), u.oneCell' = true) := Lib.hid (fun u hu => by simp at hu; rcases hu with rfl | rfl | rfl | rfl | rfl | rfl | rfl | rfl | rfl | rfl | rfl <;> rfl)
        go_wp2_with (at_builtin; refine wpList_append_own_spare _ rfl (.tmp 123) (.tmp 127) _ rfl G 86 i0 11 Try.underlying84 hi hz1 G r m (cellsP D H r) rfl ((hown3.out.alloc _).alloc _) ⟨w3.heap.size + 1, 0, none⟩ 1 1 [.nilIface, .int .i32 0, .iface dt dv, .int .i32 0, .nilIface, .int .i32 0, .int .i32 0, .int .i32 0, .bool false, .bool false, .bool false] rfl rfl hnews.out hone.out hlt2 ?_; intro w4 ho hg; have hL2 := hL.step (x := k) ht hbt hp2 q1 q2 hkx (by omega) ho hg; clear ho hg)
        rw [← cellsP_put D H r (.iface dt dv) false] at hL2
        go_roundg (m - (r + 1))
        case measure => omega
        case rel => exact ⟨r + 1, s + (k), p2, _, _, _, by omega, rfl, rfl, by first | (simp; done) | (simp; omega), rfl, by rw [hs.out, sumF_put]; rfl, hL2⟩
    · have hrm : r = m := by omega
      subst hrm
      have hRr : wr.rowIs w.heap.size 30 2 (fun j => if j = 0 then .nilIface else .int .i32 0) := hR.of_block (hL.but.block _ (by have := hG1.out; have := hGn.out; omega) (by omega))
      have r0 := hRr.cell (i := 0) (by omega)
      have r1 := hRr.cell (i := 1) (by omega)
      have f0 := hRr.frozen 0
      have f1 := hRr.frozen 1
      have hRl := hRr.lt
      simp only [if_true] at r0
      rw [if_neg (by omega)] at r1
      go_wp2_with fail
      have hGw := hGn.out
      have hG1w := hG1.out
      obtain ⟨wz, hwz⟩ : ∃ wz, wz = (((wr.setCell ⟨w.heap.size, 0, none⟩ (.iface 87 (.pointer (some ⟨wr.heap.size, 0, none⟩)))).setCell ⟨w.heap.size, 1, none⟩ (.int .i32 0)).alloc (.cells #[.slice (some ⟨G, 0, none⟩) r r, .int .i32 0, .bool false] 89)) := ⟨_, rfl⟩
      have hkeep : ∀ bb, bb ≠ w.heap.size → bb < wr.heap.size → wz.heap[bb]? = wr.heap[bb]? := fun bb h1 h2 => by
        rw [hwz]
        exact (Go.Deep.blk_alloc_lt _ _ bb (by simpa using h2)).trans ((Go.Deep.blk_setCell_other _ _ _ _ h1).trans (Go.Deep.blk_setCell_other _ _ _ _ h1))
      have hBut : But P 3 1 w wz := by
        rw [hwz]
        exact (butSetNew (butSetNew (butTrans hb1 hL.but) (Nat.le_refl _)) (Nat.le_refl _)).next ((Below.refl _ _).alloc (Nat.le_refl _) _)
      have hrowB : wz.rowIs wr.heap.size 89 3 (fun j => (#[.slice (some ⟨G, 0, none⟩) r r, .int .i32 0, .bool false] : Array Value).getD j undef) := by
        rw [hwz]
        have := World.rowIs_alloc ((wr.setCell ⟨w.heap.size, 0, none⟩ (.iface 87 (.pointer (some ⟨wr.heap.size, 0, none⟩)))).setCell ⟨w.heap.size, 1, none⟩ (.int .i32 0)) #[.slice (some ⟨G, 0, none⟩) r r, .int .i32 0, .bool false] 89 (fun j => (#[.slice (some ⟨G, 0, none⟩) r r, .int .i32 0, .bool false] : Array Value).getD j undef) (fun i hi => by
          match i, hi with
          | 0, _ | 1, _ | 2, _ => rfl)
        simpa using this
      have hTree : Tree w.heap.size wz (.iface 87 (.pointer (some ⟨wr.heap.size, 0, none⟩))) (sumK (flagN H K) r) :=
        .obj wr.heap.size G r r D K H (by omega) hm hrowB (own_gen hL.own (by omega) (fun bb h1 h2 => hkeep bb (by omega) h2)) (fun i hi => (hL.tree i hi).gen (by omega) (fun bb h1 h2 => hkeep bb (by omega) h2))
      have hpos2 : wz.cell? ⟨P, 0, none⟩ = some (.int .i64 p') := (World.cell?_of_block (w := wr) (a := ⟨P, 0, none⟩) (hkeep P (by omega) (by have := hL.but.below.size; omega))).trans hL.pos
      have hsum := hL.sum
      have hpN := hL.leN
      rw [← hs.out] at hTree
      rw [← hwz]
      refine bodyPost_ret (v := .tuple #[.agg #[.iface 87 (.pointer (some ⟨wr.heap.size, 0, none⟩)), .int .i32 0], .int .i64 s]) ?_ rfl ⟨_, s, p', rfl, by omega, hpN, fun _ => by omega, fun h => by omega, hTree, hBut, hpos2⟩
      have hRz := ((hRr.set 0 (.iface 87 (.pointer (some ⟨wr.heap.size, 0, none⟩)))).set 1 (.int .i32 0)).alloc (.cells #[.slice (some ⟨G, 0, none⟩) r r, .int .i32 0, .bool false] 89)
      rw [← hwz] at hRz
      have z0 : wz.cell? ⟨w.heap.size, 0, none⟩ = some (.iface 87 (.pointer (some ⟨wr.heap.size, 0, none⟩))) := hRz.cell (i := 0) (by omega)
      have z1 : wz.cell? ⟨w.heap.size, 1, none⟩ = some (.int .i32 0) := hRz.cell (i := 1) (by omega)
      simp [results, Try.results8, go_sem, z0, z1]
theorem and3 (x : Int) (h0 : 0 ≤ x) (h1 : x ≤ 255) : bits BinOp.and IntKind.u8 x 3 = 0 ∨ bits BinOp.and IntKind.u8 x 3 = 1 ∨ bits BinOp.and IntKind.u8 x 3 = 2 ∨ bits BinOp.and IntKind.u8 x 3 = 3 := by
  have H : ∀ x : Fin 256, bits BinOp.and IntKind.u8 ((x.val : Nat) : Int) 3 = 0 ∨ bits BinOp.and IntKind.u8 ((x.val : Nat) : Int) 3 = 1 ∨ bits BinOp.and IntKind.u8 ((x.val : Nat) : Int) 3 = 2 ∨ bits BinOp.and IntKind.u8 ((x.val : Nat) : Int) 3 = 3 := by decide +kernel
  have h := H ⟨x.toNat, by omega⟩
  have e : ((x.toNat : Nat) : Int) = x := by omega
  simpa only [e] using h
theorem build (P N c b off : Nat) (f : Nat → Int) (hN : N ≤ 65536) : ∀ (m : Nat) (w : World) (p : Nat), N - p ≤ m → p ≤ N → Ops w b off N P f → w.rowIs P 3 1 (fun _ => .int .i64 p) →
    Calls Try.prog 8 #[.slice (some ⟨b, off, none⟩) N c, .pointer (some ⟨P, 0, none⟩)] w (Built P N w p)
  | 0, w, p, hm, hp, hO, hP => buildEnd P N c _ w p (by omega) hp hP hN
  | m + 1, w, p, hm, hp, hO, hP => by
    rcases Nat.lt_or_ge p N with h | h
    · have ih : IH P N c b off f p := fun w' q h1 h2 h3 h4 => build P N c b off f hN m w' q (by omega) h2 h3 h4
      have hf := hO.rng p h
      rcases and3 (f p) hf.1 hf.2 with hq | hq | hq | hq
      · exact build01 P N c b off f w p hO h hP hN (.inl hq)
      · exact build01 P N c b off f w p hO h hP hN (.inr hq)
      · exact buildA P N c b off f w p ih hO h hP hN hq
      · exact buildP P N c b off f w p ih hO h hP hN hq
    · exact buildEnd P N c _ w p h hp hP hN
end Go.Proofs.Ytgiehlcmmikgmaa.Bind
