/-
  zzTypoModel: the answer as a plain function of the words and the typo. Condition: all words long enough are valid, the typo is; lengths.
-/
import Derived.Test.YtgeijelkojgapaaTyL
import Derived.Test.YtgeijelkojgapaaTake
namespace Go.Proofs.Ytgeijelkojgapaa.Ty
open Go.RowKit Go.Lib Go.ChangeShapes Go.WideShapes Go.ChangeAt Go.Proofs.Ytgeijelkojgapaa.U8 Go.Proofs.Ytgeijelkojgapaa.Pct Go.Proofs.Ytgeijelkojgapaa.By Go.Proofs.Ytgeijelkojgapaa.Ints

open Classical in
/-- The last long word below n that loses one rune to become the key. -/
noncomputable def lk (f : Nat → ByteArray) : Nat → ByteArray → Option ByteArray
  | 0, _ => none
  | n + 1, key => if HitW f key n then some (f n) else lk f n key
theorem lk_none {f : Nat → ByteArray} {key : ByteArray} {n : Nat} (h : ∀ j, j < n → ¬ HitW f key j) : lk f n key = none := by
  induction n with
  | zero => rfl
  | succ n ih =>
    rw [lk, if_neg (h n (by omega))]
    exact ih fun j hj => h j (by omega)
theorem lk_some {f : Nat → ByteArray} {key : ByteArray} {n l : Nat} (hl : l < n) (hh : HitW f key l) (h : ∀ j, l < j → j < n → ¬ HitW f key j) : lk f n key = some (f l) := by
  induction n with
  | zero => omega
  | succ n ih =>
    rw [lk]
    rcases Nat.lt_or_ge l n with g | g
    · rw [if_neg (h n g (by omega))]
      exact ih g fun j h1 h2 => h j h1 (by omega)
    · obtain rfl : l = n := by omega
      rw [if_pos hh]
theorem lk_of {f : Nat → ByteArray} {key : ByteArray} {n : Nat} {r : Int} (h : LastW f key n r) : (r = -1 ∧ lk f n key = none) ∨ ∃ l : Nat, l < n ∧ r = l ∧ lk f n key = some (f l) := by
  rcases h with ⟨h1, h2⟩ | ⟨l, h1, h2, h3, h4⟩
  · exact .inl ⟨h1, lk_none h2⟩
  · exact .inr ⟨l, h1, h2, lk_some h1 h3 h4⟩
/-- The answer for a key: the word and true, or go on. -/
def hit (o : Option ByteArray) (z : ByteArray × Bool) : ByteArray × Bool := match o with | some v => (v, true) | none => z
noncomputable def scan (L : ByteArray → Option ByteArray) (s : ByteArray) : Nat → Nat → ByteArray × Bool
  | 0, _ => (⟨#[]⟩, false)
  | g + 1, i => if i < s.size then hit (L (del s i)) (scan L s g (i + wd s i)) else (⟨#[]⟩, false)
theorem scan_end (L : ByteArray → Option ByteArray) (s : ByteArray) (g i : Nat) (h : ¬ i < s.size) : scan L s g i = (⟨#[]⟩, false) := by
  cases g with
  | zero => rfl
  | succ g => rw [scan, if_neg h]
noncomputable def ans (L : ByteArray → Option ByteArray) (s : ByteArray) : ByteArray × Bool := hit (L s) (scan L s s.size 0)
def Gives2 (r : ByteArray × Bool) (w : World) (e : Ending) (w' : World) : Prop := e = .returned (.tuple #[.string r.1, .bool r.2]) ∧ Below w.heap.size w w'
theorem del_le (s : ByteArray) (i : Nat) (h : i + wd s i ≤ s.size) : (del s i).size ≤ s.size := by rw [del_size h]; omega
set_option maxRecDepth 100000 in
set_option maxHeartbeats 4000000 in
theorem model (o : Option Addr) (n cap : Nat) (f : Nat → ByteArray) (s : ByteArray) (w : World) (hn : n ≤ 65536) (hI : StrsAt w o n f) (hs : ∀ i, i < n → (f i).size ≤ 1048576) (hv : ∀ i, i < n → 3 < (f i).size → Valid (f i)) (ht : s.size ≤ 4096) (hvs : Valid s) :
    Calls Try.prog 15 #[.slice o n cap, .string s] w (Gives2 (ans (lk f n) s) w) := by
  have cL := fun (t : ByteArray) (W : World) (hb : Below w.heap.size w W) (hz : t.size ≤ 1048576) => lastWord o n cap f t W hn (hI.below hb) hs hv hz
  have hload : ∀ (W : World) (l : Nat), Below w.heap.size w W → l < n → ∃ b off, o = some ⟨b, off, none⟩ ∧ W.cell? ⟨b, off + l, none⟩ = some (.string (f l)) := fun W l hb hl => by
    rcases hI.below hb with h0 | ⟨b, off, he, _, hc⟩
    · omega
    · exact ⟨b, off, he, hc l hl⟩
  replace cL := Lib.hid cL
  replace hload := Lib.hid hload
  replace hI := Lib.hid hI
  replace hs := Lib.hid hs
  replace hv := Lib.hid hv
  go_enter Try.func15, Try.ntmps15
  go_wp2_with fail
  go_at_call 22
  refine (cL.out s w (Below.refl _ _) (by omega)).mono ?_
  rintro e w1 ⟨r, rfl, hr, B1⟩
  have hsz1 := B1.size
  rcases lk_of hr with ⟨rfl, hk⟩ | ⟨l, hl, rfl, hk⟩
  · have ha := Lib.hid (show ans (lk f n) s = scan (lk f n) s s.size 0 by rw [ans, hk]; rfl)
    replace B1 := Lib.hid B1
    clear hr hk
    go_wp2_with fail
    go_loopg [7] s.size (fun g iv wr => Below w.heap.size w wr ∧ ∃ i : Nat, i ≤ s.size ∧ s.size ≤ i + g ∧ iv = .int .i64 i ∧ (i < s.size → Start s i) ∧ scan (lk f n) s g i = ans (lk f n) s)
    case atStart => exact ⟨B1.out, 0, Nat.zero_le _, by omega, rfl, fun h => start_zero h, ha.out.symm⟩
    case round =>
      obtain ⟨hB, i, hi, hg, rfl, hst, hsc⟩ := hrel
      have hszB := hB.size
      rcases Nat.lt_or_ge i s.size with h | h
      · obtain ⟨g', rfl⟩ : ∃ g', gk = g' + 1 := ⟨gk - 1, by omega⟩
        have hS0 := hst h
        obtain ⟨g1, _, _, g4⟩ := good_shape h (hvs i hS0)
        have hwp := wd_pos s i h
        have hdl := del_le s i g1
        rw [scan, if_pos h] at hsc
        have hnx := fun hh => start_next hS0 hh
        have hwf : wf (bt s i) = wd s i := g4.symm
        have hdd : s.extract 0 i ++ s.extract (i + wd s i) s.size = del s i := rfl
        have e0 := bt_eq s i h
        have l0 : (i : Int) < (s.size : Int) := by omega
        have cR := runeWidth (bt s i) wr
        rw [hwf] at cR
        obtain ⟨W, hW⟩ : ∃ W, wd s i = W := ⟨_, rfl⟩
        rw [hW] at hdd g1 hwp hsc hnx cR
        have wq1 : IntKind.i64.wrap ((i : Int) + (W : Int)) = (i : Int) + (W : Int) := wraps_i64 _ (by omega) (by omega)
        have l1 : (i : Int) + (W : Int) ≤ (s.size : Int) := by omega
        replace hsc := Lib.hid hsc
        replace hnx := Lib.hid hnx
        replace hB := Lib.hid hB
        replace hW := Lib.hid hW
        replace hdd := Lib.hid hdd
        replace hdl := Lib.hid hdl
        clear hst g4 hwf
        go_wp2_with fail
        go_at_call 23
        refine cR.mono ?_
        rintro e w6 ⟨rfl, rfl⟩
        clear cR
        go_upto_region 7 with fail
        refine wp_region_held_drew (S := fun _ => True) (by kernel_rfl) trivial (fun hS => ?_)
        refine Take.takeD (i := 0) (v := ?_) (some 28) rfl rfl (by kernel_rfl) (by kernel_rfl) (by kernel_rfl) (fun _ _ _ h => h) (Or.inl ⟨by rfl, ?_⟩) hS ?_
        rotate_left 1
        · intro w9 _; go_simp; try with_reducible rfl
        try simp only [Act.put, List.setIfInBounds_toArray, List.set_cons_zero, List.set_cons_succ]
        refine Take.takeD (i := 1) (v := ?_) (some 29) rfl rfl (by kernel_rfl) (by kernel_rfl) (by kernel_rfl) (fun _ _ _ h => h) (Or.inl ⟨by rfl, ?_⟩) hS ?_
        rotate_left 1
        · intro w9 _; go_simp; try with_reducible rfl
        try simp only [Act.put, List.setIfInBounds_toArray, List.set_cons_zero, List.set_cons_succ]
        refine Take.takeD (i := 2) (v := .string (s.extract 0 i)) (some 30) rfl rfl (by kernel_rfl) (by kernel_rfl) (by kernel_rfl) (fun _ _ _ h => h) (Or.inl ⟨by rfl, fun w9 _ => by (go_simp; first | done | omega | exact wq1 | rfl | (simp; done) | (simp; omega) | (intro hneg; exfalso; omega) | trace_state)⟩) hS ?_
        try simp only [Act.put, List.setIfInBounds_toArray, List.set_cons_zero, List.set_cons_succ]
        refine Take.takeD (i := 3) (v := ?_) (some 31) rfl rfl (by kernel_rfl) (by kernel_rfl) (by kernel_rfl) (fun _ _ _ h => h) (Or.inl ⟨by rfl, ?_⟩) hS ?_
        rotate_left 1
        · intro w9 _; go_simp; try with_reducible rfl
        try simp only [Act.put, List.setIfInBounds_toArray, List.set_cons_zero, List.set_cons_succ]
        refine Take.takeD (i := 4) (v := ?_) (some 32) rfl rfl (by kernel_rfl) (by kernel_rfl) (by kernel_rfl) (fun _ _ _ h => h) (Or.inl ⟨by rfl, ?_⟩) hS ?_
        rotate_left 1
        · intro w9 _; go_simp; try with_reducible rfl
        try simp only [Act.put, List.setIfInBounds_toArray, List.set_cons_zero, List.set_cons_succ]
        refine Take.takeD (i := 5) (v := ?_) (some 33) rfl rfl (by kernel_rfl) (by kernel_rfl) (by kernel_rfl) (fun _ _ _ h => h) (Or.inl ⟨by rfl, ?_⟩) hS ?_
        rotate_left 1
        · intro w9 _; go_simp; try with_reducible rfl
        try simp only [Act.put, List.setIfInBounds_toArray, List.set_cons_zero, List.set_cons_succ]
        refine Take.takeD (i := 6) (v := .int .i64 ((i : Int) + (W : Int))) (some 34) rfl rfl (by kernel_rfl) (by kernel_rfl) (by kernel_rfl) (fun _ _ _ h => h) (Or.inl ⟨by rfl, fun w9 _ => by (go_simp; first | done | omega | exact wq1 | rfl | (simp; done) | (simp; omega) | (intro hneg; exfalso; omega) | trace_state)⟩) hS ?_
        try simp only [Act.put, List.setIfInBounds_toArray, List.set_cons_zero, List.set_cons_succ]
        refine Take.takeD (i := 7) (v := .string (s.extract (i + W) s.size)) (some 35) rfl rfl (by kernel_rfl) (by kernel_rfl) (by kernel_rfl) (fun _ _ _ h => h) (Or.inl ⟨by rfl, fun w9 _ => by (go_simp; first | done | omega | exact wq1 | rfl | (simp; done) | (simp; omega) | (intro hneg; exfalso; omega) | trace_state)⟩) hS ?_
        try simp only [Act.put, List.setIfInBounds_toArray, List.set_cons_zero, List.set_cons_succ]
        refine Take.takeD (i := 8) (v := .string (s.extract 0 i ++ s.extract (i + W) s.size)) (some 36) rfl rfl (by kernel_rfl) (by kernel_rfl) (by kernel_rfl) (fun _ _ _ h => h) (Or.inl ⟨by rfl, fun w9 _ => by (go_simp; first | done | omega | exact wq1 | rfl | (simp; done) | (simp; omega) | (intro hneg; exfalso; omega) | trace_state)⟩) hS ?_
        try simp only [Act.put, List.setIfInBounds_toArray, List.set_cons_zero, List.set_cons_succ]
        refine Take.takeD (i := 9) (v := ?_) (some 9) rfl rfl (by kernel_rfl) (by kernel_rfl) (by kernel_rfl) (fun _ _ _ h => h) (Or.inl ⟨by rfl, ?_⟩) hS ?_
        rotate_left 1
        · intro w9 _; go_simp; try with_reducible rfl
        try simp only [Act.put, List.setIfInBounds_toArray, List.set_cons_zero, List.set_cons_succ]
        refine wpAnyH_done (by kernel_rfl) ?_ _
        clear hS
        rw [hdd.out]
        go_wp2_with fail
        go_at_call 22
        refine (cL.out (del s i) _ (hB.out.trans (Below.refl _ _).drew) (by have := hdl.out; omega)).mono ?_
        rintro e w7 ⟨r, rfl, hr, B7⟩
        have B8 := (hB.out.trans (Below.refl _ _).drew).trans (B7.mono (by exact hszB))
        rcases lk_of hr with ⟨rfl, hk⟩ | ⟨l, hl, rfl, hk⟩
        · have hs2 := hsc.out
          rw [hk] at hs2
          replace hs2 := Lib.hid hs2
          replace B8 := Lib.hid B8
          clear hr hk B7
          go_wp2_with fail
          go_roundg g'
          case measure => omega
          case rel => exact ⟨B8.out, i + W, g1, by omega, by simp, fun hh => hnx.out hh, hs2.out⟩
        · obtain ⟨b, off, rfl, hc⟩ := hload.out w7 l B8 hl
          have hs2 : (f l, true) = ans (lk f n) s := by rw [← hsc.out, hk]; rfl
          have l3 : (l : Int) < (n : Int) := by omega
          replace B8 := Lib.hid B8
          replace hs2 := Lib.hid hs2
          clear hr hk B7
          go_wp2_with fail
          refine bodyPost_ret (v := .tuple #[.string (f l), .bool true]) (by simp [results, Try.results15, go_sem]) rfl ⟨by rw [← hs2.out], B8.out⟩
      · have hs2 := hsc
        rw [scan_end _ _ _ _ (by omega)] at hs2
        have hie : i = s.size := by omega
        replace hs2 := Lib.hid hs2
        replace hB := Lib.hid hB
        clear hsc hst
        subst hie
        go_wp2_with fail
        refine bodyPost_ret (v := .tuple #[.string ⟨#[]⟩, .bool false]) (by simp [results, Try.results15, go_sem]) rfl ⟨by rw [← hs2.out], hB.out⟩
  · obtain ⟨b, off, rfl, hc⟩ := hload.out w1 l B1 hl
    have hs2 : (f l, true) = ans (lk f n) s := by rw [ans, hk]; rfl
    have l3 : (l : Int) < (n : Int) := by omega
    replace B1 := Lib.hid B1
    replace hs2 := Lib.hid hs2
    clear hr hk
    go_wp2_with fail
    refine bodyPost_ret (v := .tuple #[.string (f l), .bool true]) (by simp [results, Try.results15, go_sem]) rfl ⟨by rw [← hs2.out], B1.out⟩
end Go.Proofs.Ytgeijelkojgapaa.Ty
