/-
  MaybeCorrectTypo: the answer as a function of what the map says. Condition: the typo is valid; lengths.
-/
import Derived.Test.YtgeijelkojgapaaTyK
namespace Go.Proofs.Ytgeijelkojgapaa.Ty
open Go.RowKit Go.Lib Go.Maps Go.ChangeShapes Go.WideShapes Go.ChangeAt Go.Proofs.Ytgeijelkojgapaa.U8 Go.Proofs.Ytgeijelkojgapaa.Pct Go.Proofs.Ytgeijelkojgapaa.By Go.Proofs.Ytgeijelkojgapaa.Ints

def lkv (L : ByteArray → Option ByteArray) (k : ByteArray) : Value := .tuple #[.string ((L k).getD ⟨#[]⟩), .bool (L k).isSome]
theorem info_str : (Try.prog.info? 9).map (·.zero) = some (some (.string ByteArray.empty)) := by kernel_rfl
theorem zeroS (w : World) : (zeroValue 9).run Try.prog w = .ok (.string ByteArray.empty) w := by
  have h := info_str
  cases hi : Try.prog.info? 9 with
  | none => rw [hi] at h; cases h
  | some i => rw [hi] at h; simp at h; simp [zeroValue, typeInfo, hi, h]
theorem look {w : World} {M c : Nat} {D : DataW Unit} {L : ByteArray → Option ByteArray} (h : w.ownsMap Try.prog 9 (plainElem Try.prog 9) M c D) (hr : Reads D L) (k : ByteArray) (hk : k.size ≤ maxLen) :
    (Instr.lookup 34 (.map (some M)) (.string k) true).run Try.prog w = .ok (lkv L k) w := by
  obtain ⟨v, ps, hrun, hv⟩ := h.look_ok (string_keyed Try.underlying9) Try.underlying34 (zeroS w) (plainElem_string Try.underlying9 (by decide)) (key_of k hk)
  obtain ⟨s, rfl, hs, _⟩ := plainElem_string_inv Try.underlying9 hv
  have e : D.atKey (Key k) (.lit (.string ByteArray.empty.data.toList)) = .lit (.string s.data.toList) := congrArg Prod.fst hs
  obtain ⟨h1, h2⟩ := hr k
  rw [hrun, h1, lkv]
  cases hL : L k with
  | none =>
    have hh : has D (Key k) = false := by rw [h1, hL]; rfl
    rw [atKey_of_not_has hh] at e
    injection e with e
    rw [key_inj e.symm]
    rfl
  | some v =>
    rw [h2 v hL] at e
    injection e with e
    rw [key_inj e.symm]
    rfl
/-- The asker's world. -/
structure Fd (B I R M c : Nat) (s : ByteArray) (D : DataW Unit) (w wr : World) (p : Nat) : Prop where
  below : Below B w wr
  bi : B ≤ I
  it : wr.heap[I]? = some (.stringIter s p)
  r : wr.heap[R]? = some (.cells #[.map (some M)] 36 (0, 0))
  own : wr.ownsMap Try.prog 9 (plainElem Try.prog 9) M c D
theorem Fd.next {B I R M c : Nat} {s : ByteArray} {D : DataW Unit} {w wr : World} {p : Nat} (h : Fd B I R M c s D w wr p) (p' : Nat) : Fd B I R M c s D w (wr.iterAt I s p') p' := by
  have hit := h.it
  have hr := h.r
  obtain ⟨es, cc, hb, rest⟩ := h.own
  refine ⟨below_iterAt h.below h.bi s p', h.bi, iterAt_heap _ _ _ _ _ h.it, (iterAt_other _ _ _ _ _ (fun e => ?_)).trans hr, es, cc, (iterAt_other _ _ _ _ _ (fun e => ?_)).trans hb, rest⟩
  · rw [e, hit] at hr; cases hr
  · rw [e, hit] at hb; cases hb
theorem Fd.drew {B I R M c : Nat} {s : ByteArray} {D : DataW Unit} {w wr : World} {p : Nat} (h : Fd B I R M c s D w wr p) : Fd B I R M c s D w wr.drew p := ⟨h.below.drew, h.bi, h.it, h.r, h.own⟩
theorem fd0 {w : World} {M c : Nat} {D : DataW Unit} (s : ByteArray) (h : w.ownsMap Try.prog 9 (plainElem Try.prog 9) M c D) :
    Fd w.heap.size (w.heap.size + 1) w.heap.size M c s D w ((w.alloc (.cells #[.map (some M)] 36)).iter s 0) 0 := by
  have hsz : (w.alloc (.cells #[.map (some M)] 36)).heap.size = w.heap.size + 1 := by simp
  refine ⟨((Below.refl _ _).alloc (Nat.le_refl _) _).alloc (by omega) _, by omega, ?_, ?_, (h.alloc _).alloc _⟩
  · have := World.iter_heap (w.alloc (.cells #[.map (some M)] 36)) s 0
    rw [hsz] at this
    exact this
  · exact (Below.heap_alloc _ _ _ (by omega)).trans (heap_alloc_new _ _)
set_option maxRecDepth 100000 in
set_option maxHeartbeats 8000000 in
theorem find (M c : Nat) (D : DataW Unit) (L : ByteArray → Option ByteArray) (s : ByteArray) (w : World) (hown : w.ownsMap Try.prog 9 (plainElem Try.prog 9) M c D) (hrd : Reads D L) (hs : s.size ≤ 4096) (hvs : Valid s) :
    Calls Try.prog 17 #[.agg #[.map (some M)], .string s] w (Gives2 (ans L s) w) := by
  have hl0 := fun o => look (hown.alloc o) hrd s (by unfold maxLen; omega)
  have hF := Lib.hid (fd0 s hown)
  have hb0 := Lib.hid (fun o => (Below.refl w.heap.size w).alloc (Nat.le_refl _) o)
  replace hown := Lib.hid hown
  unfold lkv at hl0
  cases hL : L s with
  | some v =>
    rw [hL] at hl0
    have ha := Lib.hid (show ans L s = (v, true) by rw [ans, hL]; rfl)
    clear hL
    go_enter Try.func17, Try.ntmps17
    go_wp2_with fail
    refine bodyPost_ret (v := .tuple #[.string v, .bool true]) (by simp [results, Try.results17, go_sem]) rfl ⟨by rw [ha.out], hb0.out _⟩
  | none =>
    rw [hL] at hl0
    have ha := Lib.hid (show ans L s = scan L s s.size 0 by rw [ans, hL]; rfl)
    clear hL
    go_enter Try.func17, Try.ntmps17
    go_wp2_with fail
    generalize (w.alloc (Obj.cells #[Value.map (some M)] 36)).iter s 0 = wi at *
    generalize hR : w.heap.size = R at *
    generalize hIe : R + 1 = I at *
    go_loopg [] s.size (fun gk wr => ∃ p : Nat, p ≤ s.size ∧ s.size ≤ p + gk ∧ (p < s.size → Start s p) ∧ scan L s gk p = ans L s ∧ Fd R I R M c s D w wr p)
    case atStart => exact ⟨0, Nat.zero_le _, by omega, fun h => start_zero h, ha.out.symm, hF.out⟩
    case round =>
      obtain ⟨p, hp, hg, hst, hsc, hFr⟩ := hrel
      clear hF
      by_cases hlp : p < s.size
      · have hS0 := hst hlp
        obtain ⟨g', rfl⟩ : ∃ g', gk = g' + 1 := ⟨gk - 1, by omega⟩
        have hnx := fun ty => run_next_any_at (P := Try.prog) wr I s p ty hFr.it hlp
        have hF2 := hFr.next (p + wd s p)
        obtain ⟨g1, _, _, g4⟩ := good_shape hlp (hvs p hS0)
        obtain ⟨q1, q2, q3⟩ := rl_good (hvs p hS0)
        have hwp := wd_pos s p hlp
        have hnxt := fun hh => start_next hS0 hh
        have hdd : s.extract 0 p ++ s.extract (p + wd s p) s.size = del s p := rfl
        have hdl := del_le s p g1
        have hdm : (del s p).size ≤ maxLen := by unfold maxLen; omega
        rw [scan, if_pos hlp] at hsc
        obtain ⟨W, hW⟩ : ∃ W, wd s p = W := ⟨_, rfl⟩
        have hW2 : (Utf8.decode s p).2 = W := hW
        obtain ⟨r, hr⟩ : ∃ r, (Utf8.decode s p).1 = r := ⟨_, rfl⟩
        rw [hW] at hF2 g1 hwp hnxt hdd q1 hsc
        rw [hr] at q1 q2 q3
        rw [hW2, hr] at hnx
        have cR := fun w9 => runeLen r q2 q3 w9
        rw [q1] at cR
        generalize wr.iterAt I s (p + W) = w2 at *
        have wq1 : IntKind.i64.wrap ((p : Int) + (W : Int)) = (p : Int) + (W : Int) := wraps_i64 _ (by omega) (by omega)
        have l1 : (p : Int) + (W : Int) ≤ (s.size : Int) := by omega
        have l0 : (p : Int) < (s.size : Int) := by omega
        have hF3 := hF2.drew
        have c3 : w2.drew.cell? ⟨R, 0, none⟩ = some (.map (some M)) := cell_of_row _ _ 0 _ _ _ hF3.r
        have hown3 := hF3.own
        have hB3 := hF3.below
        replace hF3 := Lib.hid hF3
        replace hnxt := Lib.hid hnxt
        replace hdd := Lib.hid hdd
        replace hdl := Lib.hid hdl
        replace hsc := Lib.hid hsc
        replace hown3 := Lib.hid hown3
        replace hB3 := Lib.hid hB3
        replace c3 := Lib.hid c3
        clear hst hFr hS0 g4 hW hW2 hr q1 q2 q3 hF2
        go_upto_region 7 with fail
        refine wp_region_held_drew (S := fun w' => w'.cell? ⟨R, 0, none⟩ = some (.map (some M)) ∧ w'.ownsMap Try.prog 9 (plainElem Try.prog 9) M c D) (by kernel_rfl) ⟨c3.out, hown3.out⟩ (fun hS => ?_)
        refine Take.takeD (i := 0) (v := ?_) (some 28) rfl rfl (by kernel_rfl) (by kernel_rfl) (by kernel_rfl) (fun _ _ _ h => h) (Or.inl ⟨by rfl, ?_⟩) hS ?_
        rotate_left 1
        · intro w9 _; go_simp; try with_reducible rfl
        try simp only [Act.put, List.setIfInBounds_toArray, List.set_cons_zero, List.set_cons_succ]
        refine Take.takeD (i := 1) (v := .map (some M)) (some 29) rfl rfl (by kernel_rfl) (by kernel_rfl) (by kernel_rfl) (fun _ _ _ h => h) (Or.inl ⟨by rfl, fun w9 hw9 => by (go_simp; (first | done | rfl | (simp [hw9.1]; done)))⟩) hS ?_
        try simp only [Act.put, List.setIfInBounds_toArray, List.set_cons_zero, List.set_cons_succ]
        refine Take.takeD (i := 2) (v := ?_) (some 30) rfl rfl (by kernel_rfl) (by kernel_rfl) (by kernel_rfl) (fun _ _ _ h => h) (Or.inl ⟨by rfl, ?_⟩) hS ?_
        rotate_left 1
        · intro w9 _; go_simp; try with_reducible rfl
        try simp only [Act.put, List.setIfInBounds_toArray, List.set_cons_zero, List.set_cons_succ]
        refine Take.takeD (i := 3) (v := ?_) (some 31) rfl rfl (by kernel_rfl) (by kernel_rfl) (by kernel_rfl) (fun _ _ _ h => h) (Or.inl ⟨by rfl, ?_⟩) hS ?_
        rotate_left 1
        · intro w9 _; go_simp; try with_reducible rfl
        try simp only [Act.put, List.setIfInBounds_toArray, List.set_cons_zero, List.set_cons_succ]
        refine Take.takeD (i := 4) (v := .string (s.extract 0 p)) (some 32) rfl rfl (by kernel_rfl) (by kernel_rfl) (by kernel_rfl) (fun _ _ _ h => h) (Or.inl ⟨by rfl, fun w9 hw9 => by (go_simp; first | done | omega | exact wq1 | rfl | (simp; done) | (simp; omega) | (intro hneg; exfalso; omega) | trace_state)⟩) hS ?_
        try simp only [Act.put, List.setIfInBounds_toArray, List.set_cons_zero, List.set_cons_succ]
        refine Take.takeD (i := 5) (v := ?_) (some 33) rfl rfl (by kernel_rfl) (by kernel_rfl) (by kernel_rfl) (fun _ _ _ h => h) (Or.inl ⟨by rfl, ?_⟩) hS ?_
        rotate_left 1
        · intro w9 _; go_simp; try with_reducible rfl
        try simp only [Act.put, List.setIfInBounds_toArray, List.set_cons_zero, List.set_cons_succ]
        refine Take.takeD (i := 6) (v := ?_) (some 34) rfl rfl (by kernel_rfl) (by kernel_rfl) (by kernel_rfl) (fun _ _ _ h => h) (Or.inl ⟨by rfl, ?_⟩) hS ?_
        rotate_left 1
        · intro w9 _; go_simp; try with_reducible rfl
        try simp only [Act.put, List.setIfInBounds_toArray, List.set_cons_zero, List.set_cons_succ]
        refine Take.takeD (i := 7) (v := ?_) (some 35) rfl rfl (by kernel_rfl) (by kernel_rfl) (by kernel_rfl) (fun _ _ _ h => h) (Or.inl ⟨by rfl, ?_⟩) hS ?_
        rotate_left 1
        · intro w9 _; go_simp; try with_reducible rfl
        try simp only [Act.put, List.setIfInBounds_toArray, List.set_cons_zero, List.set_cons_succ]
        refine Take.take_callD (i := 8) (v := .int .i64 (W : Nat)) (some 36) rfl rfl (by kernel_rfl) (by kernel_rfl) (by kernel_rfl) (fun _ _ _ h => h) ⟨by rfl, fun w9 _ => ⟨24, #[.int .i32 r], by (go_simp; try rfl), cR w9⟩⟩ hS ?_
        try simp only [Act.put, List.setIfInBounds_toArray, List.set_cons_zero, List.set_cons_succ]
        refine Take.takeD (i := 9) (v := .int .i64 ((p : Int) + (W : Int))) (some 37) rfl rfl (by kernel_rfl) (by kernel_rfl) (by kernel_rfl) (fun _ _ _ h => h) (Or.inl ⟨by rfl, fun w9 hw9 => by (go_simp; first | done | omega | exact wq1 | rfl | (simp; done) | (simp; omega) | (intro hneg; exfalso; omega) | trace_state)⟩) hS ?_
        try simp only [Act.put, List.setIfInBounds_toArray, List.set_cons_zero, List.set_cons_succ]
        refine Take.takeD (i := 10) (v := .string (s.extract (p + W) s.size)) (some 38) rfl rfl (by kernel_rfl) (by kernel_rfl) (by kernel_rfl) (fun _ _ _ h => h) (Or.inl ⟨by rfl, fun w9 hw9 => by (go_simp; first | done | omega | exact wq1 | rfl | (simp; done) | (simp; omega) | (intro hneg; exfalso; omega) | trace_state)⟩) hS ?_
        try simp only [Act.put, List.setIfInBounds_toArray, List.set_cons_zero, List.set_cons_succ]
        refine Take.takeD (i := 11) (v := .string (s.extract 0 p ++ s.extract (p + W) s.size)) (some 39) rfl rfl (by kernel_rfl) (by kernel_rfl) (by kernel_rfl) (fun _ _ _ h => h) (Or.inl ⟨by rfl, fun w9 hw9 => by (go_simp; first | done | omega | exact wq1 | rfl | (simp; done) | (simp; omega) | (intro hneg; exfalso; omega) | trace_state)⟩) hS ?_
        try simp only [Act.put, List.setIfInBounds_toArray, List.set_cons_zero, List.set_cons_succ]
        rw [hdd.out]
        refine Take.takeD (i := 12) (v := lkv L (del s p)) (some 40) rfl rfl (by kernel_rfl) (by kernel_rfl) (by kernel_rfl) (fun _ _ _ h => h) (Or.inl ⟨by rfl, fun w9 hw9 => by (have hlk := look hw9.2 hrd (del s p) hdm; go_simp; first | done | rfl | (rw [hlk]; done) | (rw [hlk]; rfl) | trace_state)⟩) hS ?_
        try simp only [Act.put, List.setIfInBounds_toArray, List.set_cons_zero, List.set_cons_succ]
        refine Take.takeD (i := 13) (v := ?_) (some 27) rfl rfl (by kernel_rfl) (by kernel_rfl) (by kernel_rfl) (fun _ _ _ h => h) (Or.inl ⟨by rfl, ?_⟩) hS ?_
        rotate_left 1
        · intro w9 _; go_simp; try with_reducible rfl
        try simp only [Act.put, List.setIfInBounds_toArray, List.set_cons_zero, List.set_cons_succ]
        refine Take.takeD (i := 14) (v := .string ((L (del s p)).getD ⟨#[]⟩)) (some 41) rfl rfl (by kernel_rfl) (by kernel_rfl) (by kernel_rfl) (fun _ _ _ h => h) (Or.inl ⟨by rfl, fun w9 hw9 => by (go_simp; (first | done | rfl | (simp [lkv]; done)))⟩) hS ?_
        try simp only [Act.put, List.setIfInBounds_toArray, List.set_cons_zero, List.set_cons_succ]
        refine Take.takeD (i := 15) (v := .bool (L (del s p)).isSome) (some 42) rfl rfl (by kernel_rfl) (by kernel_rfl) (by kernel_rfl) (fun _ _ _ h => h) (Or.inl ⟨by rfl, fun w9 hw9 => by (go_simp; (first | done | rfl | (simp [lkv]; done)))⟩) hS ?_
        try simp only [Act.put, List.setIfInBounds_toArray, List.set_cons_zero, List.set_cons_succ]
        refine Take.takeD (i := 16) (v := ?_) (some 10) rfl rfl (by kernel_rfl) (by kernel_rfl) (by kernel_rfl) (fun _ _ _ h => h) (Or.inl ⟨by rfl, ?_⟩) hS ?_
        rotate_left 1
        · intro w9 _; go_simp; try with_reducible rfl
        try simp only [Act.put, List.setIfInBounds_toArray, List.set_cons_zero, List.set_cons_succ]
        refine Take.takeD (i := 17) (v := ?_) (some 11) rfl rfl (by kernel_rfl) (by kernel_rfl) (by kernel_rfl) (fun _ _ _ h => h) (Or.inl ⟨by rfl, ?_⟩) hS ?_
        rotate_left 1
        · intro w9 _; go_simp; try with_reducible rfl
        try simp only [Act.put, List.setIfInBounds_toArray, List.set_cons_zero, List.set_cons_succ]
        refine wpAnyH_done (by kernel_rfl) ?_ _
        clear hS
        cases hL2 : L (del s p) with
        | some v =>
          have ha2 := Lib.hid (show ans L s = (v, true) by rw [← hsc.out, hL2]; rfl)
          simp only [Option.getD_some, Option.isSome_some]
          clear hL2 hsc
          go_wp2_with fail
          refine bodyPost_ret (v := .tuple #[.string v, .bool true]) (by simp [results, Try.results17, go_sem]) rfl ⟨by rw [ha2.out], hR ▸ hB3.out⟩
        | none =>
          have hsc2 : scan L s g' (p + W) = ans L s := by rw [← hsc.out, hL2]; rfl
          simp only [Option.getD_none, Option.isSome_none]
          clear hL2 hsc
          replace hsc2 := Lib.hid hsc2
          go_wp2_with fail
          go_roundg g'
          case measure => omega
          case rel => exact ⟨p + W, g1, by omega, fun hh => hnxt.out hh, hsc2.out, hF3.out⟩
      · have hnx := fun ty => run_next_end_at (P := Try.prog) wr I s p ty hFr.it hlp
        have ha2 := Lib.hid (show ans L s = (⟨#[]⟩, false) by rw [← hsc, scan_end _ _ _ _ hlp])
        have hB3 := Lib.hid hFr.below
        clear hsc hFr hst
        go_wp2_with fail
        refine bodyPost_ret (v := .tuple #[.string ⟨#[]⟩, .bool false]) (by simp [results, Try.results17, go_sem]) rfl ⟨by rw [ha2.out], hR ▸ hB3.out⟩
end Go.Proofs.Ytgeijelkojgapaa.Ty
