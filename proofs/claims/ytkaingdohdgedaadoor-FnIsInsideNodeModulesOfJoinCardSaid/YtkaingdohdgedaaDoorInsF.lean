/-
  IsInsideNodeModules says exactly whether a path is inside. Condition: utf8's two tables as their initialisers lay them; a length.
-/
import Derived.Test.YtkaingdohdgedaaDoorInsE
import Derived.Test.YtkaingdohdgedaaDoorTake
import Derived.Deep.CutRange
namespace Go.Proofs.YtkaingdohdgedaaDoor.Ins
open Go.RowKit Go.Lib Go.Proofs.YtkaingdohdgedaaDoor.U8 Go.Proofs.YtkaingdohdgedaaDoor.Pct

def Says (p : Prop) (w : World) (e : Ending) (w' : World) : Prop := ∃ b : Bool, e = .returned (.bool b) ∧ (b = true ↔ p) ∧ Below w.heap.size w w'
theorem base_dec (p : ByteArray) (l : Nat) : (decide (p.extract (l + 1) p.size = NMB)) = true ↔ p.extract (l + 1) p.size = NMB := by simp
theorem ne_list {X : ByteArray} (h : ¬ X = NMB) : (X.toList == [110, 111, 100, 101, 95, 109, 111, 100, 117, 108, 101, 115]) = false := by
  rw [beq_eq_false_iff_ne]
  intro e
  apply h
  rw [toList_data] at e
  apply ByteArray.ext
  have e2 := congrArg List.toArray e
  rw [Array.toArray_toList] at e2
  exact e2
set_option maxRecDepth 100000 in
set_option maxHeartbeats 4000000 in
theorem inside (s : ByteArray) (w : World) (hs : s.size ≤ 2000000) (hT : Utf8Tabs 1 2 w) : Calls Tryd.prog 5 #[.string s] w (Says (Ins (bt s) s.size) w) := by
  have hTB : ∀ W', Below w.heap.size w W' → Utf8Tabs 1 2 W' := fun _ h => Utf8Tabs_below hT h
  replace hTB := Lib.hid hTB
  replace hT := Lib.hid hT
  go_enter Tryd.func5, Tryd.ntmps5
  go_wp2_with fail
  go_loopg [0] s.size (fun g pv wr => Below w.heap.size w wr ∧ ∃ p : ByteArray, pv = .string p ∧ p.size = g ∧ p.size ≤ s.size ∧ (Ins (bt s) s.size ↔ Ins (bt p) p.size))
  case atStart => exact ⟨Below.refl _ _, s, rfl, rfl, Nat.le_refl _, Iff.rfl⟩
  case round =>
    obtain ⟨hB, p, rfl, rfl, hps, hiff⟩ := hrel
    have hsB := hB.size
    have cL := lia p _ (by omega) (hTB.out _ hB)
    replace hiff := Lib.hid hiff
    replace hB := Lib.hid hB
    go_wp2_with fail
    go_at_call 6
    refine cL.mono ?_
    rintro e w5 ⟨r, rfl, hr, B5⟩
    have B6 := hB.out.trans (B5.mono hsB)
    replace B6 := Lib.hid B6
    clear B5 cL
    rcases hr with ⟨rfl, hno⟩ | ⟨l, hl, rfl, hsl, hno⟩
    · have hfin := Lib.hid (show false = true ↔ Ins (bt s) s.size from by rw [hiff.out]; exact ⟨fun h => absurd h (by decide), fun h => absurd h (no_slash hno)⟩)
      clear hno
      go_wp2_with fail
      go_ret
      exact ⟨false, rfl, hfin.out, B6.out⟩
    · have l1 : ((l : Int) == -1) = false := by simp
      have l2 : (l : Int) ≤ (p.size : Int) := by omega
      have w1 : IntKind.i64.wrap ((l : Int) + 1) = (l : Int) + 1 := wraps_i64 _ (by omega) (by omega)
      have l3 : (l : Int) + 1 ≤ (p.size : Int) := by omega
      have hsz : (p.extract 0 l).size = l := by rw [ext_size p 0 l (Nat.zero_le _) (by omega), Nat.sub_zero]
      have hbt : ∀ j, j < l → bt (p.extract 0 l) j = bt p j := fun j h => by rw [ext_bt p 0 l j (by omega) (by omega), Nat.zero_add]
      replace hsl := Lib.hid hsl
      replace hno := Lib.hid hno
      replace hsz := Lib.hid hsz
      replace hbt := Lib.hid hbt
      by_cases hb : p.extract (l + 1) p.size = NMB
      · have hy := (base_iff p l hl).1 hb
        have hfin := Lib.hid (show Ins (bt s) s.size from hiff.out.2 (base_yes hsl.out hy.1 hy.2))
        clear hy
        unfold NMB at hb
        go_upto_region 4 with fail
        refine wp_region_held_drew (S := fun _ => True) (by kernel_rfl) trivial (fun hS => ?_)
        refine Take.takeD (i := 0) (v := ?_) (some 10) rfl rfl (by kernel_rfl) (by kernel_rfl) (by kernel_rfl) (fun _ _ _ h => h) (Or.inl ⟨by rfl, ?_⟩) hS ?_
        rotate_left 1
        · intro w9 _; go_simp; try with_reducible rfl
        try simp only [Act.put, List.setIfInBounds_toArray, List.set_cons_zero, List.set_cons_succ]
        refine Take.takeD (i := 1) (v := ?_) (some 11) rfl rfl (by kernel_rfl) (by kernel_rfl) (by kernel_rfl) (fun _ _ _ h => h) (Or.inl ⟨by rfl, ?_⟩) hS ?_
        rotate_left 1
        · intro w9 _; go_simp; try with_reducible rfl
        try simp only [Act.put, List.setIfInBounds_toArray, List.set_cons_zero, List.set_cons_succ]
        refine Take.takeD (i := 2) (v := .string (p.extract 0 l)) (some 12) rfl rfl (by kernel_rfl) (by kernel_rfl) (by kernel_rfl) (fun _ _ _ h => h) (Or.inl ⟨by rfl, fun w9 _ => by (go_simp; first | done | exact w1 | rfl | (simp; done) | (simp; omega) | (intro hneg; exfalso; omega) | trace_state)⟩) hS ?_
        try simp only [Act.put, List.setIfInBounds_toArray, List.set_cons_zero, List.set_cons_succ]
        refine Take.takeD (i := 3) (v := ?_) (some 13) rfl rfl (by kernel_rfl) (by kernel_rfl) (by kernel_rfl) (fun _ _ _ h => h) (Or.inl ⟨by rfl, ?_⟩) hS ?_
        rotate_left 1
        · intro w9 _; go_simp; try with_reducible rfl
        try simp only [Act.put, List.setIfInBounds_toArray, List.set_cons_zero, List.set_cons_succ]
        refine Take.takeD (i := 4) (v := ?_) (some 14) rfl rfl (by kernel_rfl) (by kernel_rfl) (by kernel_rfl) (fun _ _ _ h => h) (Or.inl ⟨by rfl, ?_⟩) hS ?_
        rotate_left 1
        · intro w9 _; go_simp; try with_reducible rfl
        try simp only [Act.put, List.setIfInBounds_toArray, List.set_cons_zero, List.set_cons_succ]
        refine Take.takeD (i := 5) (v := .int .i64 ((l : Int) + 1)) (some 15) rfl rfl (by kernel_rfl) (by kernel_rfl) (by kernel_rfl) (fun _ _ _ h => h) (Or.inl ⟨by rfl, fun w9 _ => by (go_simp; first | done | exact w1 | rfl | (simp; done) | (simp; omega) | (intro hneg; exfalso; omega) | trace_state)⟩) hS ?_
        try simp only [Act.put, List.setIfInBounds_toArray, List.set_cons_zero, List.set_cons_succ]
        refine Take.takeD (i := 6) (v := .string (p.extract (l + 1) p.size)) (some 16) rfl rfl (by kernel_rfl) (by kernel_rfl) (by kernel_rfl) (fun _ _ _ h => h) (Or.inl ⟨by rfl, fun w9 _ => by (go_simp; first | done | exact w1 | rfl | (simp; done) | (simp; omega) | (intro hneg; exfalso; omega) | trace_state)⟩) hS ?_
        try simp only [Act.put, List.setIfInBounds_toArray, List.set_cons_zero, List.set_cons_succ]
        refine Take.takeD (i := 7) (v := ?_) (some 4) rfl rfl (by kernel_rfl) (by kernel_rfl) (by kernel_rfl) (fun _ _ _ h => h) (Or.inl ⟨by rfl, ?_⟩) hS ?_
        rotate_left 1
        · intro w9 _; go_simp; try with_reducible rfl
        try simp only [Act.put, List.setIfInBounds_toArray, List.set_cons_zero, List.set_cons_succ]
        refine Take.takeD (i := 8) (v := ?_) (some 5) rfl rfl (by kernel_rfl) (by kernel_rfl) (by kernel_rfl) (fun _ _ _ h => h) (Or.inl ⟨by rfl, ?_⟩) hS ?_
        rotate_left 1
        · intro w9 _; go_simp; try with_reducible rfl
        try simp only [Act.put, List.setIfInBounds_toArray, List.set_cons_zero, List.set_cons_succ]
        refine wpAnyH_done (by kernel_rfl) ?_ _
        clear hS
        go_wp2_with fail
        go_ret
        exact ⟨true, rfl, ⟨fun _ => hfin.out, fun _ => rfl⟩, B6.out.trans (Below.refl _ _).drew⟩
      · have hfin := Lib.hid (show Ins (bt s) s.size ↔ Ins (bt (p.extract 0 l)) l from by
          rw [hiff.out, base_no hl hsl.out hno.out (fun h => hb ((base_iff p l hl).2 h))]
          exact ins_congr fun j hj => (hbt.out j hj).symm)
        have hb2 := ne_list hb
        clear hb
        go_upto_region 4 with fail
        refine wp_region_held_drew (S := fun _ => True) (by kernel_rfl) trivial (fun hS => ?_)
        refine Take.takeD (i := 0) (v := ?_) (some 10) rfl rfl (by kernel_rfl) (by kernel_rfl) (by kernel_rfl) (fun _ _ _ h => h) (Or.inl ⟨by rfl, ?_⟩) hS ?_
        rotate_left 1
        · intro w9 _; go_simp; try with_reducible rfl
        try simp only [Act.put, List.setIfInBounds_toArray, List.set_cons_zero, List.set_cons_succ]
        refine Take.takeD (i := 1) (v := ?_) (some 11) rfl rfl (by kernel_rfl) (by kernel_rfl) (by kernel_rfl) (fun _ _ _ h => h) (Or.inl ⟨by rfl, ?_⟩) hS ?_
        rotate_left 1
        · intro w9 _; go_simp; try with_reducible rfl
        try simp only [Act.put, List.setIfInBounds_toArray, List.set_cons_zero, List.set_cons_succ]
        refine Take.takeD (i := 2) (v := .string (p.extract 0 l)) (some 12) rfl rfl (by kernel_rfl) (by kernel_rfl) (by kernel_rfl) (fun _ _ _ h => h) (Or.inl ⟨by rfl, fun w9 _ => by (go_simp; first | done | exact w1 | rfl | (simp; done) | (simp; omega) | (intro hneg; exfalso; omega) | trace_state)⟩) hS ?_
        try simp only [Act.put, List.setIfInBounds_toArray, List.set_cons_zero, List.set_cons_succ]
        refine Take.takeD (i := 3) (v := ?_) (some 13) rfl rfl (by kernel_rfl) (by kernel_rfl) (by kernel_rfl) (fun _ _ _ h => h) (Or.inl ⟨by rfl, ?_⟩) hS ?_
        rotate_left 1
        · intro w9 _; go_simp; try with_reducible rfl
        try simp only [Act.put, List.setIfInBounds_toArray, List.set_cons_zero, List.set_cons_succ]
        refine Take.takeD (i := 4) (v := ?_) (some 14) rfl rfl (by kernel_rfl) (by kernel_rfl) (by kernel_rfl) (fun _ _ _ h => h) (Or.inl ⟨by rfl, ?_⟩) hS ?_
        rotate_left 1
        · intro w9 _; go_simp; try with_reducible rfl
        try simp only [Act.put, List.setIfInBounds_toArray, List.set_cons_zero, List.set_cons_succ]
        refine Take.takeD (i := 5) (v := .int .i64 ((l : Int) + 1)) (some 15) rfl rfl (by kernel_rfl) (by kernel_rfl) (by kernel_rfl) (fun _ _ _ h => h) (Or.inl ⟨by rfl, fun w9 _ => by (go_simp; first | done | exact w1 | rfl | (simp; done) | (simp; omega) | (intro hneg; exfalso; omega) | trace_state)⟩) hS ?_
        try simp only [Act.put, List.setIfInBounds_toArray, List.set_cons_zero, List.set_cons_succ]
        refine Take.takeD (i := 6) (v := .string (p.extract (l + 1) p.size)) (some 16) rfl rfl (by kernel_rfl) (by kernel_rfl) (by kernel_rfl) (fun _ _ _ h => h) (Or.inl ⟨by rfl, fun w9 _ => by (go_simp; first | done | exact w1 | rfl | (simp; done) | (simp; omega) | (intro hneg; exfalso; omega) | trace_state)⟩) hS ?_
        try simp only [Act.put, List.setIfInBounds_toArray, List.set_cons_zero, List.set_cons_succ]
        refine Take.takeD (i := 7) (v := ?_) (some 4) rfl rfl (by kernel_rfl) (by kernel_rfl) (by kernel_rfl) (fun _ _ _ h => h) (Or.inl ⟨by rfl, ?_⟩) hS ?_
        rotate_left 1
        · intro w9 _; go_simp; try with_reducible rfl
        try simp only [Act.put, List.setIfInBounds_toArray, List.set_cons_zero, List.set_cons_succ]
        refine Take.takeD (i := 8) (v := ?_) (some 5) rfl rfl (by kernel_rfl) (by kernel_rfl) (by kernel_rfl) (fun _ _ _ h => h) (Or.inl ⟨by rfl, ?_⟩) hS ?_
        rotate_left 1
        · intro w9 _; go_simp; try with_reducible rfl
        try simp only [Act.put, List.setIfInBounds_toArray, List.set_cons_zero, List.set_cons_succ]
        refine wpAnyH_done (by kernel_rfl) ?_ _
        clear hS
        go_wp2_with fail
        go_roundg l
        case measure => omega
        case rel => exact ⟨B6.out.trans (Below.refl _ _).drew, p.extract 0 l, rfl, hsz.out, by rw [hsz.out]; omega, by rw [hsz.out]; exact hfin.out⟩
end Go.Proofs.YtkaingdohdgedaaDoor.Ins
