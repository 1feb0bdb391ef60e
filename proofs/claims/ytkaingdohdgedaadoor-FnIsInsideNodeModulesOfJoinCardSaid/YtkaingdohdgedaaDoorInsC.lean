/-
  strings.IndexRune in the text of the two slashes: nothing from 128 on is found there; an ASCII byte exactly if it is one of them. No condition.
-/
import Derived.Test.YtkaingdohdgedaaDoorInsB
import Derived.Test.YtkaingdohdgedaaDoorShelfIns
import Derived.Test.YtkaingdohdgedaaDoorTake
import Derived.LoopN
import Derived.Deep.LoopGhost
import Derived.Deep.RegionHeld3
import Derived.Lib.Hide
import Derived.Deep.CutRange
import Derived.WalkMore
namespace Go.Proofs.YtkaingdohdgedaaDoor.Ins
open Go.RowKit Go.Lib Go.Proofs.YtkaingdohdgedaaDoor.U8 Go.Proofs.YtkaingdohdgedaaDoor.Pct

def CH : ByteArray := ⟨#[47, 92]⟩
def GivesI (x : Int) (w : World) (e : Ending) (w' : World) : Prop := e = .returned (.int .i64 x) ∧ Below w.heap.size w w'
set_option maxRecDepth 100000 in
theorem idxErr (w : World) : Calls Tryd.prog 7 #[.string CH, .int .i32 65533] w (GivesI (-1) w) := by
  go_enter Tryd.func7, Tryd.ntmps7
  go_wp2_with fail
  go_loopg [6] 2 (fun g _ wr => ∃ pos : Nat, wr = w.iter CH pos ∧ pos ≤ 2 ∧ g = 2 - pos)
  case atStart => exact ⟨0, rfl, by omega, rfl⟩
  case round =>
    obtain ⟨pos, rfl, hp2, rfl⟩ := hrel
    have hz : CH.size = 2 := rfl
    by_cases hp : pos < CH.size
    · have hnx := fun ty => run_next_any (P := Tryd.prog) w CH pos ty hp
      have hd : Utf8.decode CH pos = (bt CH pos, 1) ∧ bt CH pos < 128 := by
        match pos, hp with
        | 0, _ => exact ⟨by decide +kernel, by decide +kernel⟩
        | 1, _ => exact ⟨by decide +kernel, by decide +kernel⟩
      rw [hd.1] at hnx
      have n1 : ((bt CH pos : Int) == 65533) = false := by have := hd.2; simp; omega
      generalize bt CH pos = c at *
      clear hd
      go_wp2_with fail
      go_roundg (2 - (pos + 1))
      case measure => omega
      case rel => exact ⟨pos + 1, rfl, by omega, rfl⟩
    · have hnx := fun ty => run_next_end (P := Tryd.prog) w CH pos ty hp
      go_wp2_with fail
      go_ret
      exact ⟨rfl, (Below.refl _ _).alloc (Nat.le_refl _) _⟩
set_option maxRecDepth 100000 in
set_option maxHeartbeats 4000000 in
theorem idxHigh (r : Int) (h0 : 128 ≤ r) (h1 : r < 2147483648) (w : World) : Calls Tryd.prog 7 #[.string CH, .int .i32 r] w (GivesI (-1) w) := by
  by_cases he : r = 65533
  · subst he; exact idxErr w
  have n1 : ¬ r < 128 := by omega
  have n2 : (r == 65533) = false := by simpa using he
  have n0 : 0 ≤ r := by omega
  have hz : CH.size = 2 := rfl
  cases hv : Lib.validRune r with
  | false =>
    replace hv := Lib.hid hv
    go_enter Tryd.func7, Tryd.ntmps7
    go_wp2_with fail
    go_at_call 13
    refine (Tryd.utf8_ValidRune r _).mono ?_
    rintro e w' ⟨rfl, rfl⟩
    rw [hv.out]
    go_wp2_with fail
    go_ret
    exact ⟨rfl, Below.refl _ _⟩
  | true =>
    have hval : Utf8.valid r = true := by
      simp [Lib.validRune] at hv
      simp [Utf8.valid]
      omega
    obtain ⟨f1, f2, f3⟩ := encode_facts r hval h0
    replace hv := Lib.hid hv
    obtain ⟨z, hzz⟩ : ∃ z, (Utf8.encode r).size = z + 2 := ⟨(Utf8.encode r).size - 2, by omega⟩
    have hz4 : z ≤ 2 := by omega
    go_enter Tryd.func7, Tryd.ntmps7
    go_wp2_with fail
    go_at_call 13
    refine (Tryd.utf8_ValidRune r _).mono ?_
    rintro e w' ⟨rfl, rfl⟩
    rw [hv.out]
    go_wp2_with fail
    go_step3
    go_wp2_with fail
    go_loopg [9] 1 (fun _ iv wr => wr = w' ∧ iv = .int .i64 ((z : Int) + 1))
    case atStart =>
      refine ⟨rfl, ?_⟩
      first | rfl | (congr 1; omega)
    case round =>
      obtain ⟨rfl, rfl⟩ := hrel
      cases z with
      | zero =>
        obtain ⟨y, hy, e1⟩ : ∃ y : Nat, 128 ≤ y ∧ ∀ h : 1 < (Utf8.encode r).size, ((Utf8.encode r)[1]'h).toNat = y := by
          have hlt : 1 < (Utf8.encode r).size := by omega
          refine ⟨((Utf8.encode r)[1]'hlt).toNat, ?_, fun _ => rfl⟩
          have := f3 (by omega)
          have e : (Utf8.encode r).size - 1 = 1 := by omega
          simp only [e] at this
          exact this
        have e1' := e1 (by omega)
        have l1 : (1 : Int) < ((Utf8.encode r).size : Int) := by omega
        go_wp2_with fail
        go_step3
        go_upto_region 6 with fail
        refine wp_region_held_drew (S := fun _ => True) (by kernel_rfl) trivial (fun hS => ?_)
        refine Take.takeD (i := 0) (v := ?_) (some 27) rfl rfl (by kernel_rfl) (by kernel_rfl) (by kernel_rfl) (fun _ _ _ h => h) (Or.inl ⟨by rfl, ?_⟩) hS ?_
        rotate_left 1
        · intro w9 _; go_simp; try with_reducible rfl
        try simp only [Act.put, List.setIfInBounds_toArray, List.set_cons_zero, List.set_cons_succ]
        refine Take.takeD (i := 1) (v := ?_) (some 28) rfl rfl (by kernel_rfl) (by kernel_rfl) (by kernel_rfl) (fun _ _ _ h => h) (Or.inl ⟨by rfl, ?_⟩) hS ?_
        rotate_left 1
        · intro w9 _; go_simp; try with_reducible rfl
        try simp only [Act.put, List.setIfInBounds_toArray, List.set_cons_zero, List.set_cons_succ]
        refine Take.takeD (i := 2) (v := .int .u8 92) (some 29) rfl rfl (by kernel_rfl) (by kernel_rfl) (by kernel_rfl) (fun _ _ _ h => h) (Or.inl ⟨by rfl, fun w9 _ => by (go_simp; first | done | rfl | (simp; done) | (simp; rfl))⟩) hS ?_
        try simp only [Act.put, List.setIfInBounds_toArray, List.set_cons_zero, List.set_cons_succ]
        refine Take.takeD (i := 3) (v := ?_) (some 30) rfl rfl (by kernel_rfl) (by kernel_rfl) (by kernel_rfl) (fun _ _ _ h => h) (Or.inl ⟨by rfl, ?_⟩) hS ?_
        rotate_left 1
        · intro w9 _; go_simp; try with_reducible rfl
        try simp only [Act.put, List.setIfInBounds_toArray, List.set_cons_zero, List.set_cons_succ]
        refine Take.takeD (i := 4) (v := ?_) (some 31) rfl rfl (by kernel_rfl) (by kernel_rfl) (by kernel_rfl) (fun _ _ _ h => h) (Or.inl ⟨by rfl, ?_⟩) hS ?_
        rotate_left 1
        · intro w9 _; go_simp; try with_reducible rfl
        try simp only [Act.put, List.setIfInBounds_toArray, List.set_cons_zero, List.set_cons_succ]
        refine Take.takeD (i := 5) (v := .int .u8 (y : Nat)) (some 32) rfl rfl (by kernel_rfl) (by kernel_rfl) (by kernel_rfl) (fun _ _ _ h => h) (Or.inl ⟨by rfl, fun w9 _ => by (go_simp; try (intro hneg; exfalso; omega))⟩) hS ?_
        try simp only [Act.put, List.setIfInBounds_toArray, List.set_cons_zero, List.set_cons_succ]
        refine Take.takeD (i := 6) (v := .bool true) (some 33) rfl rfl (by kernel_rfl) (by kernel_rfl) (by kernel_rfl) (fun _ _ _ h => h) (Or.inl ⟨by rfl, fun w9 _ => by (go_simp; first | done | (simp; done) | (simp; omega) | omega)⟩) hS ?_
        try simp only [Act.put, List.setIfInBounds_toArray, List.set_cons_zero, List.set_cons_succ]
        refine wpAnyH_done (by kernel_rfl) ?_ _
        clear hS
        go_upto_region 7 with fail
        refine wp_region_held_drew (S := fun _ => True) (by kernel_rfl) trivial (fun hS => ?_)
        refine Take.takeD (i := 0) (v := ?_) (some 34) rfl rfl (by kernel_rfl) (by kernel_rfl) (by kernel_rfl) (fun _ _ _ h => h) (Or.inl ⟨by rfl, ?_⟩) hS ?_
        rotate_left 1
        · intro w9 _; go_simp; try with_reducible rfl
        try simp only [Act.put, List.setIfInBounds_toArray, List.set_cons_zero, List.set_cons_succ]
        refine Take.takeD (i := 1) (v := ?_) (some 35) rfl rfl (by kernel_rfl) (by kernel_rfl) (by kernel_rfl) (fun _ _ _ h => h) (Or.inl ⟨by rfl, ?_⟩) hS ?_
        rotate_left 1
        · intro w9 _; go_simp; try with_reducible rfl
        try simp only [Act.put, List.setIfInBounds_toArray, List.set_cons_zero, List.set_cons_succ]
        refine Take.takeD (i := 2) (v := .int .i64 2) (some 36) rfl rfl (by kernel_rfl) (by kernel_rfl) (by kernel_rfl) (fun _ _ _ h => h) (Or.inl ⟨by rfl, fun w9 _ => by (go_simp; first | done | rfl | (simp; done))⟩) hS ?_
        try simp only [Act.put, List.setIfInBounds_toArray, List.set_cons_zero, List.set_cons_succ]
        refine Take.takeD (i := 3) (v := .string ⟨#[]⟩) (some 37) rfl rfl (by kernel_rfl) (by kernel_rfl) (by kernel_rfl) (fun _ _ _ h => h) (Or.inl ⟨by rfl, fun w9 _ => by (go_simp; first | done | rfl | (simp; done) | (simp; rfl))⟩) hS ?_
        try simp only [Act.put, List.setIfInBounds_toArray, List.set_cons_zero, List.set_cons_succ]
        refine Take.takeD (i := 4) (v := ?_) (some 38) rfl rfl (by kernel_rfl) (by kernel_rfl) (by kernel_rfl) (fun _ _ _ h => h) (Or.inl ⟨by rfl, ?_⟩) hS ?_
        rotate_left 1
        · intro w9 _; go_simp; try with_reducible rfl
        try simp only [Act.put, List.setIfInBounds_toArray, List.set_cons_zero, List.set_cons_succ]
        refine Take.takeD (i := 5) (v := ?_) (some 39) rfl rfl (by kernel_rfl) (by kernel_rfl) (by kernel_rfl) (fun _ _ _ h => h) (Or.inl ⟨by rfl, ?_⟩) hS ?_
        rotate_left 1
        · intro w9 _; go_simp; try with_reducible rfl
        try simp only [Act.put, List.setIfInBounds_toArray, List.set_cons_zero, List.set_cons_succ]
        refine Take.takeD (i := 6) (v := .int .u8 (y : Nat)) (some 40) rfl rfl (by kernel_rfl) (by kernel_rfl) (by kernel_rfl) (fun _ _ _ h => h) (Or.inl ⟨by rfl, fun w9 _ => by (go_simp; try (intro hneg; exfalso; omega))⟩) hS ?_
        try simp only [Act.put, List.setIfInBounds_toArray, List.set_cons_zero, List.set_cons_succ]
        refine Take.take_callD (i := 7) (v := .int .i64 (-1)) (some 41) rfl rfl (by kernel_rfl) (by kernel_rfl) (by kernel_rfl) (fun _ _ _ h => h) ⟨by rfl, fun w9 _ => ⟨12, #[.string ⟨#[]⟩, .int .u8 (y : Nat)], by (go_simp; try rfl), (Tryd.strings_IndexByte ⟨#[]⟩ (y : Nat) w9).mono (fun _ _ h => ⟨by rw [h.1]; rfl, h.2⟩)⟩⟩ hS ?_
        try simp only [Act.put, List.setIfInBounds_toArray, List.set_cons_zero, List.set_cons_succ]
        refine Take.takeD (i := 8) (v := ?_) (some 11) rfl rfl (by kernel_rfl) (by kernel_rfl) (by kernel_rfl) (fun _ _ _ h => h) (Or.inl ⟨by rfl, ?_⟩) hS ?_
        rotate_left 1
        · intro w9 _; go_simp; try with_reducible rfl
        try simp only [Act.put, List.setIfInBounds_toArray, List.set_cons_zero, List.set_cons_succ]
        refine wpAnyH_done (by kernel_rfl) ?_ _
        clear hS
        go_wp2_with fail
        simp only [Exit.noGoto_ret, Exit.inBlock, Exit.then]
        go_ret
        first | exact ⟨rfl, Below.refl _ _⟩ | exact ⟨rfl, (Below.refl _ _).drew.drew⟩
      | succ z =>
        go_wp2_with fail
        simp only [Exit.noGoto_ret, Exit.inBlock, Exit.then]
        go_ret
        first | exact ⟨rfl, Below.refl _ _⟩ | exact ⟨rfl, (Below.refl _ _).drew.drew⟩
def Idx (r : Nat) (w : World) (e : Ending) (w' : World) : Prop := ∃ x : Int, e = .returned (.int .i64 x) ∧ (0 ≤ x ↔ Sl r) ∧ Below w.heap.size w w'
theorem lowT : ∀ c : Fin 128, (0 ≤ indexByte CH.data.toList ((c.val : Nat) : Int).toNat.toUInt8) ↔ Sl c.val := by decide +kernel
theorem idx (r : Nat) (h : r < 2147483648) (w : World) : Calls Tryd.prog 7 #[.string CH, .int .i32 r] w (Idx r w) := by
  rcases Nat.lt_or_ge r 128 with hl | hh
  · refine (Tryd.strings_IndexRune_ascii CH (r : Int) w (by omega) (by omega)).mono ?_
    rintro e w' ⟨rfl, rfl⟩
    exact ⟨_, rfl, lowT ⟨r, hl⟩, Below.refl _ _⟩
  · refine (idxHigh (r : Int) (by omega) (by omega) w).mono ?_
    rintro e w' ⟨rfl, hb⟩
    refine ⟨_, rfl, ⟨fun h => absurd h (by decide), fun h => ?_⟩, hb⟩
    unfold Sl at h
    omega
end Go.Proofs.YtkaingdohdgedaaDoor.Ins
