/-
  isUnsupportedRegularExpression walked. Condition: at most 2^20 bytes, a slash past the first byte.
-/
import Derived.Test.YtfalpclhekpnnaaFmtRx1
import Derived.Test.YtfalpclhekpnnaaFmtShelfRx
import Derived.LoopN
import Derived.Deep.LoopGhost
import Derived.Deep.CutRange
import Derived.WalkMore
import Derived.StillTailTactics
import Derived.Laws.RangeAny
import Derived.Lib.LastIndexByte
namespace Go.Proofs.YtfalpclhekpnnaaFmt.Rx
open Go.RowKit Go.Proofs.YtfalpclhekpnnaaFmt.Ints Go.Proofs.YtfalpclhekpnnaaFmt.Lg Go.Proofs.YtfalpclhekpnnaaFmt.U8
open Go.Extern.Stop Go.Stop Go.Extern

/-- The parser's cells that the scan reads. -/
structure Px (P K M H G : Nat) (F : Int) (w : World) : Prop where
  cE : w.cell? ⟨P, 18, none⟩ = some (.string ⟨#[]⟩)
  cF : w.cell? ⟨P, 23, none⟩ = some (.int .u64 F)
  cO : w.cell? ⟨P, 25, none⟩ = some (.int .u64 0)
  l0 : w.cell? ⟨P, 51, none⟩ = some (fAdd K M H G)
  l1 : w.cell? ⟨P, 52, none⟩ = some (fHas M H)
  l2 : w.cell? ⟨P, 53, none⟩ = some (fPeek M G)
  l3 : w.cell? ⟨P, 54, none⟩ = some (fDone M G)
  l4 : w.cell? ⟨P, 55, none⟩ = some (.int .i8 3)
  l5 : w.cell? ⟨P, 56, none⟩ = some (.map none)
  cT : w.cell? ⟨P, 76, none⟩ = some (.bool false)
  bP : ∃ C fr, w.heap[P]? = some (.cells C 159 fr)
theorem Px.below {P K M H G : Nat} {F : Int} {w w1 : World} (h : Px P K M H G F w) (hb : Below w.heap.size w w1) : Px P K M H G F w1 := by
  have lP : P < w.heap.size := lt_of_cell (a := ⟨P, 23, none⟩) h.cF
  have f : ∀ j x, w.cell? ⟨P, j, none⟩ = some x → w1.cell? ⟨P, j, none⟩ = some x := fun j x hx => (hb.cell (p := ⟨P, j, none⟩) lP).trans hx
  exact ⟨f _ _ h.cE, f _ _ h.cF, f _ _ h.cO, f _ _ h.l0, f _ _ h.l1, f _ _ h.l2, f _ _ h.l3, f _ _ h.l4, f _ _ h.l5, f _ _ h.cT, by obtain ⟨C, fr, hb1⟩ := h.bP; exact ⟨C, fr, (hb.block _ lP).trans hb1⟩⟩
theorem three (w : World) (a b c : Obj) : Below w.heap.size w (((w.alloc a).alloc b).alloc c) ∧ (((w.alloc a).alloc b).alloc c).heap[w.heap.size + 1 + 1]? = some c := by
  have e : ((w.alloc a).alloc b).heap.size = w.heap.size + 1 + 1 := by simp
  refine ⟨(((Below.refl _ _).alloc (Nat.le_refl _) _).alloc (by simp) _).alloc (by simp; omega) _, ?_⟩
  rw [← e]
  exact heap_alloc_new _ _
def Wb (w : World) (l r0 r1 : Int) : World := (w.alloc (.cells #[.int .i32 l] 56)).alloc (.cells #[.int .i32 r0, .int .i32 r1] 58)
theorem hpr (t p : ByteArray) (r : Bool) (h : Lib.hasPrefix t.data.toList p.data.toList = r) (w : World) : Calls Tryf.prog 20 #[.string t, .string p] w fun e w' => e = .returned (.bool r) ∧ w = w' :=
  (Tryf.strings_HasPrefix t p w).mono fun _ _ h' => ⟨by rw [h'.1, h], h'.2.symm⟩
theorem ixb (t : ByteArray) (c : Int) (x : Int) (h : Lib.indexByte t.data.toList c.toNat.toUInt8 = x) (w : World) : Calls Tryf.prog 19 #[.string t, .int .u8 c] w fun e w' => e = .returned (.int .i64 x) ∧ w = w' :=
  (Tryf.strings_IndexByte t c w).mono fun _ _ h' => ⟨by rw [h'.1, h], h'.2.symm⟩
theorem ixb62 (t : ByteArray) (x : Int) (h : Lib.indexByte t.data.toList 62 = x) (w : World) : Calls Tryf.prog 19 #[.string t, .int .u8 62] w fun e w' => e = .returned (.int .i64 x) ∧ w = w' := ixb t 62 x h w
theorem ixb125 (t : ByteArray) (x : Int) (h : Lib.indexByte t.data.toList 125 = x) (w : World) : Calls Tryf.prog 19 #[.string t, .int .u8 125] w fun e w' => e = .returned (.int .i64 x) ∧ w = w' := ixb t 125 x h w
theorem has' (a b : Int) (r : Bool) (h : hasB a b = r) (w : World) : Calls Tryf.prog 21 #[.int .u64 a, .int .u64 b] w fun e w' => e = .returned (.bool r) ∧ w = w' :=
  (has a b w).mono fun _ _ h' => ⟨by rw [h'.1, h], h'.2⟩
theorem stopR_of {F : Int} {s T : ByteArray} {i : Nat} (hT : tl s i = T) {a b c : Bool} {x : Int} (ha : Lib.hasPrefix T.data.toList [63, 60, 61] = a) (hb : Lib.hasPrefix T.data.toList [63, 60, 33] = b) (hc : Lib.hasPrefix T.data.toList [63, 60] = c) (hx : Lib.indexByte T.data.toList 62 = x) :
    stopR F s i = if (a || b) = true then hasB F 562949953421312 else if c = true then (hasB F 2251799813685248 && decide (0 ≤ x)) else false := by
  subst hT ha hb hc hx
  rfl
theorem stopB_of {F : Int} {u : Bool} {s T : ByteArray} {i : Nat} (hT : tl s i = T) {a b : Bool} {x : Int} (ha : Lib.hasPrefix T.data.toList [112, 123] = a) (hb : Lib.hasPrefix T.data.toList [80, 123] = b) (hx : Lib.indexByte T.data.toList 125 = x) :
    stopB F u s i = if (u && (a || b)) = true then (hasB F 18014398509481984 && decide (0 ≤ x)) else false := by
  subst hT ha hb hx
  rfl
theorem wb_blocks (w : World) (l r0 r1 : Int) : (Wb w l r0 r1).heap[w.heap.size]? = some (.cells #[.int .i32 l] 56 (0, 0)) ∧ (Wb w l r0 r1).heap[w.heap.size + 1]? = some (.cells #[.int .i32 r0, .int .i32 r1] 58 (0, 0)) :=
  two_blocks w _ _ _ _
theorem stop_blk {W X : World} {N : Nat} {x y x' y' : Value} {t : TypeId} {o : Obj} (h : W.heap[N]? = some (.cells #[x, y] t (0, 0))) (hX : ((W.setCell ⟨N, 0, none⟩ x').setCell ⟨N, 1, none⟩ y').alloc o = X) : X.heap[N]? = some (.cells #[x', y'] t (0, 0)) := by
  have h1 : (W.setCell ⟨N, 0, none⟩ x').heap[N]? = some (.cells #[x', y] t (0, 0)) := heap_setCell_same W N 0 _ t x' h
  have h2 : ((W.setCell ⟨N, 0, none⟩ x').setCell ⟨N, 1, none⟩ y').heap[N]? = some (.cells #[x', y'] t (0, 0)) := heap_setCell_same _ N 1 _ t y' h1
  rw [← hX]
  exact (Below.heap_alloc _ _ _ (lt_of_blk h2)).trans h2
theorem stop_cell {W X : World} {N : Nat} {x' y' v : Value} {t : TypeId} (hX : ((W.setCell ⟨N, 0, none⟩ x').setCell ⟨N, 1, none⟩ y').alloc (.cells #[v] t) = X) : X.cell? ⟨W.heap.size, 0, none⟩ = some v := by
  rw [← hX]
  have := cell_of_row (((W.setCell ⟨N, 0, none⟩ x').setCell ⟨N, 1, none⟩ y').alloc (.cells #[v] t)) ((W.setCell ⟨N, 0, none⟩ x').setCell ⟨N, 1, none⟩ y').heap.size 0 _ _ _ (heap_alloc_new _ _)
  simpa using this
theorem belowN (W : World) (k : Nat) : Below W.heap.size W (W.drewN k) := ⟨rfl, rfl, rfl, Nat.le_refl _, fun _ _ => rfl⟩
theorem st_alloc {W W' : World} {o : Obj} (h : W.alloc o = W') : Below W.heap.size W W' ∧ W'.heap[W.heap.size]? = some o := by
  subst h
  exact ⟨(Below.refl _ _).alloc (Nat.le_refl _) _, heap_alloc_new _ _⟩
/-- The cells that the last region reads. -/
structure SR (P K M H G N : Nat) (r0 r1 : Int) (w : World) : Prop where
  l0 : w.cell? ⟨P, 51, none⟩ = some (fAdd K M H G)
  l1 : w.cell? ⟨P, 52, none⟩ = some (fHas M H)
  l2 : w.cell? ⟨P, 53, none⟩ = some (fPeek M G)
  l3 : w.cell? ⟨P, 54, none⟩ = some (fDone M G)
  l4 : w.cell? ⟨P, 55, none⟩ = some (.int .i8 3)
  l5 : w.cell? ⟨P, 56, none⟩ = some (.map none)
  c0 : w.cell? ⟨N + 1, 0, none⟩ = some (.int .i32 r0)
  c1 : w.cell? ⟨N + 1, 1, none⟩ = some (.int .i32 r1)
theorem SR.of {P K M H G N : Nat} {F r0 r1 : Int} {w : World} {fr : Nat × Nat} (h : Px P K M H G F w) (q : w.heap[N + 1]? = some (.cells #[.int .i32 r0, .int .i32 r1] 58 fr)) : SR P K M H G N r0 r1 w :=
  ⟨h.l0, h.l1, h.l2, h.l3, h.l4, h.l5, by simp [World.cell?, q], by simp [World.cell?, q]⟩
theorem SR.same {P K M H G N : Nat} {r0 r1 : Int} {w w1 : World} (h : SR P K M H G N r0 r1 w) (e1 : w1.heap[P]? = w.heap[P]?) (e2 : w1.heap[N + 1]? = w.heap[N + 1]?) : SR P K M H G N r0 r1 w1 :=
  ⟨(World.cell?_of_block e1).trans h.l0, (World.cell?_of_block e1).trans h.l1, (World.cell?_of_block e1).trans h.l2, (World.cell?_of_block e1).trans h.l3, (World.cell?_of_block e1).trans h.l4, (World.cell?_of_block e1).trans h.l5, (World.cell?_of_block e2).trans h.c0, (World.cell?_of_block e2).trans h.c1⟩
theorem SR.more {B P K M H G N : Nat} {F r0 r1 : Int} {e : Bool} {n : Nat} {v : Value} {xs : List Value} {w w1 w2 : World} (h : SR P K M H G N r0 r1 w1) (hL : Lg B K M H G e n v xs w) (hP : Px P K M H G F w) (hN : w.heap.size ≤ N + 1) (k : Kp B H G v w1 w2) : SR P K M H G N r0 r1 w2 := by
  obtain ⟨C, fr, hb⟩ := hP.bP
  obtain ⟨n1, n2, n3⟩ := hL.new hN
  exact h.same (k.blk _ (lt_of_cell (a := ⟨P, 51, none⟩) h.l0) (ne_of_ty hb hL.bH (by decide)) (ne_of_ty hb hL.bG (by decide)) (own_ty hL.own hb (by decide)))
    (k.blk _ (lt_of_cell (a := ⟨N + 1, 0, none⟩) h.c0) n1 n2 n3)
theorem SR.below {P K M H G N : Nat} {r0 r1 : Int} {w w1 : World} (h : SR P K M H G N r0 r1 w) (hb : Below w.heap.size w w1) : SR P K M H G N r0 r1 w1 :=
  h.same (hb.block _ (lt_of_cell (a := ⟨P, 51, none⟩) h.l0)) (hb.block _ (lt_of_cell (a := ⟨N + 1, 0, none⟩) h.c0))
/-- What the function answers. -/
def Ans (B K M H G : Nat) (e : Bool) (v : Value) (w : World) (F : Int) (u : Bool) (pat fl : ByteArray) (y : Ending) (w' : World) : Prop :=
  y = .returned (.tuple #[.string pat, .string fl, .bool (uns F u pat fl)]) ∧ ∃ n' v' xs', Lg B K M H G (err F u pat || e) n' v' xs' w' ∧ Kp B H G v w w'
/-- Behind the scan of the pattern. -/
def Aft (o : Out) (w : World) (l : Int) (b8 b9 : Value) (wx : World) : Prop :=
  ∃ (z : Bool) (q : ByteArray) (r0 r1 : Int), b8 = .bool z ∧ b9 = .string q ∧ wx = Wb w l r0 r1 ∧ ((z = true ∧ o = .uns) ∨ (z = false ∧ o = .fin))
/-- Behind the flags. -/
def Aft2 (b : Bool) (w : World) (b8 b9 : Value) (wx : World) : Prop :=
  ∃ (q : ByteArray) (r0 r1 : Int), b8 = .bool b ∧ b9 = .string q ∧ Below w.heap.size w wx ∧ wx.heap[w.heap.size + 1]? = some (.cells #[.int .i32 r0, .int .i32 r1] 58 (0, 0))
set_option maxRecDepth 100000 in
set_option maxHeartbeats 4000000 in
theorem scan10 {I : Interp} (B P K M H G n : Nat) (e : Bool) (v : Value) (xs : List Value) (F : Int) (l : Int) (s : ByteArray) (w : World) (hI : I.answers w.tape) (hL : Lg B K M H G e n v xs w) (hB : B ≤ w.heap.size) (hn : n ≤ 65536) (hP : Px P K M H G F w) (z : Nat) (hz : Lib.lastIndexByte s 47 = (z : Int)) (h1 : 1 ≤ z) (h2 : z < s.size) (h3 : s.size ≤ 1048576) (u : Bool) (pat fl : ByteArray) (hp : s.extract 1 z = pat) (hf : s.extract (z + 1) s.size = fl) (hu : decide (0 ≤ Lib.indexByte fl.data.toList 117) = u) :
    Calls Tryf.prog 10 #[pt P, .agg #[.int .i32 l], .string s] w (Ans B K M H G e v w F u pat fl) := by
  have lP := lt_of_cell hP.cF
  have cF := hP.cF
  replace hI := Lib.hid hI
  replace hz := Lib.hid hz
  replace hu := Lib.hid hu
  have lp : pat.size ≤ 1048576 := by rw [← hp]; simp; omega
  replace hp := Lib.hid hp
  replace hf := Lib.hid hf
  unfold pt
  go_enter Tryf.func10, Tryf.ntmps10
  go_wp2_with fail
  go_step3
  go_wp2_with fail
  go_at_call 18
  refine (Tryf.strings_LastIndexByte s 47 (by omega) _).mono ?_
  rintro e w' ⟨rfl, rfl⟩
  rw [hz.out]
  go_wp2_with fail
  go_at_call 19
  rw [hf.out, hp.out]
  refine (Tryf.strings_IndexByte _ 117 _).mono ?_
  rintro e w' ⟨rfl, rfl⟩
  go_upto_region 7 with fail
  rw [hu.out]
  go_wp2_with fail
  go_step3
  iterate 3 (first | go_skip | go_guarded | go_step | go_upon | go_back)
  go_cut [8, 9] from 37 to 37 (fun b8 b9 wx => Aft (scan F u pat 0 0) w l b8 b9 wx)
  · go_wp2_with fail
    go_loopg [8, 9, 13, 14] pat.size (fun g b8 b9 dv iv wr => ∃ i d : Nat, g = pat.size - i ∧ i ≤ pat.size + 1 ∧ d ≤ i ∧ b8 = .bool false ∧ b9 = .string ⟨#[]⟩ ∧ iv = .int .i64 i ∧ dv = .int .i64 d ∧ wr = Wb w l 0 0 ∧ scan F u pat i d = scan F u pat 0 0)
    case atStart => exact ⟨0, 0, rfl, by omega, Nat.le_refl _, rfl, rfl, rfl, rfl, rfl, rfl⟩
    case round =>
      obtain ⟨i, d, rfl, hi, hd, rfl, rfl, rfl, rfl, rfl, hsc⟩ := hrel
      rw [scan.eq_1 F u pat i d] at hsc
      by_cases h0 : i < pat.size
      · rw [if_pos h0] at hsc
        have e0 := bt_eq pat i h0
        have i0 : (i : Int) < (pat.size : Int) := by omega
        have hb := bt_lt pat i
        by_cases c1 : bt pat i = 91
        · as_aux_lemma =>
            rw [if_pos c1] at hsc
            rw [c1] at e0
            clear c1 hb
            replace hsc := Lib.hid hsc
            go_wp2_with fail
            go_step3
            go_wp2_with fail
            go_step3
            go_wp2_with fail
            go_loopg [14] (pat.size - i) (fun g iv wr => ∃ j : Nat, g = pat.size + 1 - j ∧ i + 1 ≤ j ∧ j ≤ pat.size + 1 ∧ iv = .int .i64 j ∧ wr = Wb w l 0 0 ∧ Hid (cls pat j = cls pat (i + 1)))
            case atStart => exact ⟨i + 1, by omega, Nat.le_refl _, by omega, by go_num, rfl, Lib.hid rfl⟩
            case round =>
              obtain ⟨j, rfl, hj1, hj2, rfl, rfl, hcl⟩ := hrel
              by_cases j0 : j < pat.size
              · have f0 := bt_eq pat j j0
                have fi : (j : Int) < (pat.size : Int) := by omega
                have hu2 := cls.eq_1 pat j
                rw [if_pos j0] at hu2
                by_cases k1 : bt pat j = 93
                · rw [if_pos k1] at hu2
                  rw [k1] at f0
                  have hsc2 : scan F u pat (j + 1) d = scan F u pat 0 0 := by
                    have := hsc.out
                    rw [← hcl.out, hu2] at this
                    exact this
                  replace hsc2 := Lib.hid hsc2
                  clear hu2 k1
                  go_wp2_with fail
                  try simp only [Exit.noGoto_normal, Exit.inBlock, Exit.then]
                  go_wp2_with fail
                  go_roundg (pat.size - (j + 1))
                  case measure => omega
                  case rel => exact ⟨j + 1, d, rfl, by omega, by omega, rfl, rfl, by go_num, rfl, rfl, hsc2.out⟩
                · rw [if_neg k1] at hu2
                  by_cases k2 : bt pat j = 92
                  · rw [if_pos k2] at hu2
                    rw [k2] at f0
                    have hcl2 : Hid (cls pat (j + 2) = cls pat (i + 1)) := Lib.hid (hu2.symm.trans hcl.out)
                    clear hu2 k1 k2 hcl
                    go_wp2_with fail
                    go_roundg (pat.size + 1 - (j + 2))
                    case measure => omega
                    case rel => exact ⟨j + 2, rfl, by omega, by omega, by go_num, rfl, hcl2⟩
                  · rw [if_neg k2] at hu2
                    have hcl2 : Hid (cls pat (j + 1) = cls pat (i + 1)) := Lib.hid (hu2.symm.trans hcl.out)
                    have g1 : ((bt pat j : Int) == 93) = false := by simp; omega
                    have g2 : ((bt pat j : Int) == 92) = false := by simp; omega
                    clear hu2 hcl
                    generalize bt pat j = c at *
                    clear k1 k2
                    go_wp2_with fail
                    go_roundg (pat.size + 1 - (j + 1))
                    case measure => omega
                    case rel => exact ⟨j + 1, rfl, by omega, by omega, by go_num, rfl, hcl2⟩
              · have fi : ¬ (j : Int) < (pat.size : Int) := by omega
                have hu2 := cls.eq_1 pat j
                rw [if_neg j0] at hu2
                have hsc2 : scan F u pat j d = scan F u pat 0 0 := by
                  have := hsc.out
                  rw [← hcl.out, hu2] at this
                  exact this
                replace hsc2 := Lib.hid hsc2
                clear hu2
                go_wp2_with fail
                go_roundg (pat.size - j)
                case measure => omega
                case rel => exact ⟨j, d, rfl, by omega, by omega, rfl, rfl, rfl, rfl, rfl, hsc2.out⟩
        rw [if_neg c1] at hsc
        have t1 : ((bt pat i : Int) == 91) = false := by simp; omega
        by_cases c2 : bt pat i = 40
        · as_aux_lemma =>
            rw [if_pos c2] at hsc
            rw [c2] at e0
            obtain ⟨T, hT⟩ : ∃ T, tl pat (i + 1) = T := ⟨_, rfl⟩
            obtain ⟨x, hx⟩ : ∃ x, Lib.indexByte T.data.toList 62 = x := ⟨_, rfl⟩
            clear c1 c2 t1 hb
            cases hA : Lib.hasPrefix T.data.toList [63, 60, 61] with
            | true =>
              cases hM : hasB F 562949953421312 with
              | true =>
                rw [stopR_of hT hA rfl rfl hx] at hsc
                simp only [Bool.or_true, Bool.true_or, Bool.or_false, Bool.false_eq_true, if_true, if_false, Bool.and_true, Bool.true_and, Bool.false_and, hM] at hsc
                replace hsc := Lib.hid hsc
                have hT2 : pat.extract (i + 1) pat.size = T := hT
                replace hT2 := Lib.hid hT2
                replace hA := Lib.hid hA
                replace hM := Lib.hid hM
                replace hx := Lib.hid hx
                clear hT
                go_upto_region 23 with fail
                rw [hT2.out]
                unfold Wb
                go_wp2_with (first | (go_at_call 20; (with_reducible refine (hpr T ⟨#[63, 60, 61]⟩ true hA.out _).mono ?_); rintro y w' ⟨rfl, rfl⟩) | (go_at_call 21; (with_reducible refine (has' F 562949953421312 true hM.out _).mono ?_); rintro y w' ⟨rfl, rfl⟩))
                go_meet
                exact ⟨true, _, _, _, rfl, rfl, rfl, .inl ⟨rfl, hsc.out.symm⟩⟩
              | false =>
                rw [stopR_of hT hA rfl rfl hx] at hsc
                simp only [Bool.or_true, Bool.true_or, Bool.or_false, Bool.false_eq_true, if_true, if_false, Bool.and_true, Bool.true_and, Bool.false_and, hM] at hsc
                replace hsc := Lib.hid hsc
                have hT2 : pat.extract (i + 1) pat.size = T := hT
                replace hT2 := Lib.hid hT2
                replace hA := Lib.hid hA
                replace hM := Lib.hid hM
                replace hx := Lib.hid hx
                clear hT
                go_upto_region 23 with fail
                rw [hT2.out]
                unfold Wb
                go_wp2_with (first | (go_at_call 20; (with_reducible refine (hpr T ⟨#[63, 60, 61]⟩ true hA.out _).mono ?_); rintro y w' ⟨rfl, rfl⟩) | (go_at_call 21; (with_reducible refine (has' F 562949953421312 false hM.out _).mono ?_); rintro y w' ⟨rfl, rfl⟩))
                go_roundg (pat.size - (i + 1))
                case measure => omega
                case rel => exact ⟨i + 1, d + 1, rfl, by omega, by omega, rfl, rfl, by go_num, by go_num, rfl, hsc.out⟩
            | false =>
              cases hB2 : Lib.hasPrefix T.data.toList [63, 60, 33] with
              | true =>
                cases hM : hasB F 562949953421312 with
                | true =>
                  rw [stopR_of hT hA hB2 rfl hx] at hsc
                  simp only [Bool.or_true, Bool.true_or, Bool.or_false, Bool.false_eq_true, if_true, if_false, Bool.and_true, Bool.true_and, Bool.false_and, hM] at hsc
                  replace hsc := Lib.hid hsc
                  have hT2 : pat.extract (i + 1) pat.size = T := hT
                  replace hT2 := Lib.hid hT2
                  replace hA := Lib.hid hA
                  replace hB2 := Lib.hid hB2
                  replace hM := Lib.hid hM
                  replace hx := Lib.hid hx
                  clear hT
                  go_upto_region 23 with fail
                  rw [hT2.out]
                  unfold Wb
                  go_wp2_with (first | (go_at_call 20; (with_reducible refine (hpr T ⟨#[63, 60, 61]⟩ false hA.out _).mono ?_); rintro y w' ⟨rfl, rfl⟩) | (go_at_call 20; (with_reducible refine (hpr T ⟨#[63, 60, 33]⟩ true hB2.out _).mono ?_); rintro y w' ⟨rfl, rfl⟩) | (go_at_call 21; (with_reducible refine (has' F 562949953421312 true hM.out _).mono ?_); rintro y w' ⟨rfl, rfl⟩))
                  go_meet
                  exact ⟨true, _, _, _, rfl, rfl, rfl, .inl ⟨rfl, hsc.out.symm⟩⟩
                | false =>
                  rw [stopR_of hT hA hB2 rfl hx] at hsc
                  simp only [Bool.or_true, Bool.true_or, Bool.or_false, Bool.false_eq_true, if_true, if_false, Bool.and_true, Bool.true_and, Bool.false_and, hM] at hsc
                  replace hsc := Lib.hid hsc
                  have hT2 : pat.extract (i + 1) pat.size = T := hT
                  replace hT2 := Lib.hid hT2
                  replace hA := Lib.hid hA
                  replace hB2 := Lib.hid hB2
                  replace hM := Lib.hid hM
                  replace hx := Lib.hid hx
                  clear hT
                  go_upto_region 23 with fail
                  rw [hT2.out]
                  unfold Wb
                  go_wp2_with (first | (go_at_call 20; (with_reducible refine (hpr T ⟨#[63, 60, 61]⟩ false hA.out _).mono ?_); rintro y w' ⟨rfl, rfl⟩) | (go_at_call 20; (with_reducible refine (hpr T ⟨#[63, 60, 33]⟩ true hB2.out _).mono ?_); rintro y w' ⟨rfl, rfl⟩) | (go_at_call 21; (with_reducible refine (has' F 562949953421312 false hM.out _).mono ?_); rintro y w' ⟨rfl, rfl⟩))
                  go_roundg (pat.size - (i + 1))
                  case measure => omega
                  case rel => exact ⟨i + 1, d + 1, rfl, by omega, by omega, rfl, rfl, by go_num, by go_num, rfl, hsc.out⟩
              | false =>
                cases hC : Lib.hasPrefix T.data.toList [63, 60] with
                | true =>
                  cases hM : hasB F 2251799813685248 with
                  | true =>
                    by_cases hx0 : 0 ≤ x
                    · have hd : decide (0 ≤ x) = true := by simpa using hx0
                      rw [stopR_of hT hA hB2 hC hx] at hsc
                      simp only [Bool.or_true, Bool.true_or, Bool.or_false, Bool.false_eq_true, if_true, if_false, Bool.and_true, Bool.true_and, Bool.false_and, hM, hd] at hsc
                      replace hsc := Lib.hid hsc
                      have hT2 : pat.extract (i + 1) pat.size = T := hT
                      replace hT2 := Lib.hid hT2
                      replace hA := Lib.hid hA
                      replace hB2 := Lib.hid hB2
                      replace hC := Lib.hid hC
                      replace hM := Lib.hid hM
                      replace hx := Lib.hid hx
                      clear hT
                      go_upto_region 23 with fail
                      rw [hT2.out]
                      unfold Wb
                      go_wp2_with (first | (go_at_call 20; (with_reducible refine (hpr T ⟨#[63, 60, 61]⟩ false hA.out _).mono ?_); rintro y w' ⟨rfl, rfl⟩) | (go_at_call 20; (with_reducible refine (hpr T ⟨#[63, 60, 33]⟩ false hB2.out _).mono ?_); rintro y w' ⟨rfl, rfl⟩) | (go_at_call 20; (with_reducible refine (hpr T ⟨#[63, 60]⟩ true hC.out _).mono ?_); rintro y w' ⟨rfl, rfl⟩) | (go_at_call 21; (with_reducible refine (has' F 2251799813685248 true hM.out _).mono ?_); rintro y w' ⟨rfl, rfl⟩) | (go_at_call 19; (with_reducible refine (ixb62 T x hx.out _).mono ?_); rintro y w' ⟨rfl, rfl⟩))
                      go_meet
                      exact ⟨true, _, _, _, rfl, rfl, rfl, .inl ⟨rfl, hsc.out.symm⟩⟩
                    · have hd : decide (0 ≤ x) = false := by simpa using hx0
                      rw [stopR_of hT hA hB2 hC hx] at hsc
                      simp only [Bool.or_true, Bool.true_or, Bool.or_false, Bool.false_eq_true, if_true, if_false, Bool.and_true, Bool.true_and, Bool.false_and, hM, hd] at hsc
                      replace hsc := Lib.hid hsc
                      have hT2 : pat.extract (i + 1) pat.size = T := hT
                      replace hT2 := Lib.hid hT2
                      replace hA := Lib.hid hA
                      replace hB2 := Lib.hid hB2
                      replace hC := Lib.hid hC
                      replace hM := Lib.hid hM
                      replace hx := Lib.hid hx
                      clear hT
                      go_upto_region 23 with fail
                      rw [hT2.out]
                      unfold Wb
                      go_wp2_with (first | (go_at_call 20; (with_reducible refine (hpr T ⟨#[63, 60, 61]⟩ false hA.out _).mono ?_); rintro y w' ⟨rfl, rfl⟩) | (go_at_call 20; (with_reducible refine (hpr T ⟨#[63, 60, 33]⟩ false hB2.out _).mono ?_); rintro y w' ⟨rfl, rfl⟩) | (go_at_call 20; (with_reducible refine (hpr T ⟨#[63, 60]⟩ true hC.out _).mono ?_); rintro y w' ⟨rfl, rfl⟩) | (go_at_call 21; (with_reducible refine (has' F 2251799813685248 true hM.out _).mono ?_); rintro y w' ⟨rfl, rfl⟩) | (go_at_call 19; (with_reducible refine (ixb62 T x hx.out _).mono ?_); rintro y w' ⟨rfl, rfl⟩))
                      go_roundg (pat.size - (i + 1))
                      case measure => omega
                      case rel => exact ⟨i + 1, d + 1, rfl, by omega, by omega, rfl, rfl, by go_num, by go_num, rfl, hsc.out⟩
                  | false =>
                    rw [stopR_of hT hA hB2 hC hx] at hsc
                    simp only [Bool.or_true, Bool.true_or, Bool.or_false, Bool.false_eq_true, if_true, if_false, Bool.and_true, Bool.true_and, Bool.false_and, hM] at hsc
                    replace hsc := Lib.hid hsc
                    have hT2 : pat.extract (i + 1) pat.size = T := hT
                    replace hT2 := Lib.hid hT2
                    replace hA := Lib.hid hA
                    replace hB2 := Lib.hid hB2
                    replace hC := Lib.hid hC
                    replace hM := Lib.hid hM
                    replace hx := Lib.hid hx
                    clear hT
                    go_upto_region 23 with fail
                    rw [hT2.out]
                    unfold Wb
                    go_wp2_with (first | (go_at_call 20; (with_reducible refine (hpr T ⟨#[63, 60, 61]⟩ false hA.out _).mono ?_); rintro y w' ⟨rfl, rfl⟩) | (go_at_call 20; (with_reducible refine (hpr T ⟨#[63, 60, 33]⟩ false hB2.out _).mono ?_); rintro y w' ⟨rfl, rfl⟩) | (go_at_call 20; (with_reducible refine (hpr T ⟨#[63, 60]⟩ true hC.out _).mono ?_); rintro y w' ⟨rfl, rfl⟩) | (go_at_call 21; (with_reducible refine (has' F 2251799813685248 false hM.out _).mono ?_); rintro y w' ⟨rfl, rfl⟩))
                    go_roundg (pat.size - (i + 1))
                    case measure => omega
                    case rel => exact ⟨i + 1, d + 1, rfl, by omega, by omega, rfl, rfl, by go_num, by go_num, rfl, hsc.out⟩
                | false =>
                  rw [stopR_of hT hA hB2 hC hx] at hsc
                  simp only [Bool.or_true, Bool.true_or, Bool.or_false, Bool.false_eq_true, if_true, if_false, Bool.and_true, Bool.true_and, Bool.false_and] at hsc
                  replace hsc := Lib.hid hsc
                  have hT2 : pat.extract (i + 1) pat.size = T := hT
                  replace hT2 := Lib.hid hT2
                  replace hA := Lib.hid hA
                  replace hB2 := Lib.hid hB2
                  replace hC := Lib.hid hC
                  replace hx := Lib.hid hx
                  clear hT
                  go_upto_region 23 with fail
                  rw [hT2.out]
                  unfold Wb
                  go_wp2_with (first | (go_at_call 20; (with_reducible refine (hpr T ⟨#[63, 60, 61]⟩ false hA.out _).mono ?_); rintro y w' ⟨rfl, rfl⟩) | (go_at_call 20; (with_reducible refine (hpr T ⟨#[63, 60, 33]⟩ false hB2.out _).mono ?_); rintro y w' ⟨rfl, rfl⟩) | (go_at_call 20; (with_reducible refine (hpr T ⟨#[63, 60]⟩ false hC.out _).mono ?_); rintro y w' ⟨rfl, rfl⟩))
                  go_roundg (pat.size - (i + 1))
                  case measure => omega
                  case rel => exact ⟨i + 1, d + 1, rfl, by omega, by omega, rfl, rfl, by go_num, by go_num, rfl, hsc.out⟩
        rw [if_neg c2] at hsc
        have t2 : ((bt pat i : Int) == 40) = false := by simp; omega
        by_cases c3 : bt pat i = 41
        · as_aux_lemma =>
            rw [if_pos c3] at hsc
            rw [c3] at e0
            replace hsc := Lib.hid hsc
            clear c1 c2 c3 t1 t2 hb
            by_cases d0 : d = 0
            · subst d0
              unfold Wb
              go_upto_region 39 with fail
              obtain ⟨b0, q⟩ := three w (.cells #[.int .i32 l] 56) (.cells #[.int .i32 0, .int .i32 0] 58) (.cells #[.int .i32 (wrap32 (l + ((i : Int) + 1))), .int .i32 1] 58)
              generalize (((w.alloc (.cells #[.int .i32 l] 56)).alloc (.cells #[.int .i32 0, .int .i32 0] 58)).alloc (.cells #[.int .i32 (wrap32 (l + ((i : Int) + 1))), .int .i32 1] 58)) = W at *
              have hP3 := hP.below b0
              have lW := lt_of_blk q
              have l0 := hP3.l0
              have l1 := hP3.l1
              have l2 := hP3.l2
              have l3 := hP3.l3
              have l4 := hP3.l4
              have l5 := hP3.l5
              have r0 : W.cell? ⟨w.heap.size + 1 + 1, 0, none⟩ = some (.int .i32 (wrap32 (l + ((i : Int) + 1)))) := cell_of_row _ _ 0 _ _ _ q
              have r1 : W.cell? ⟨w.heap.size + 1 + 1, 1, none⟩ = some (.int .i32 1) := cell_of_row _ _ 1 _ _ _ q
              replace q := Lib.hid q
              replace b0 := Lib.hid b0
              clear hP cF
              have cA := Lib.hid (addError (B := B) (K := K) (M := M) (H := H) (G := G) P 67 (wrap32 (l + ((i : Int) + 1))) 1 ⟨#[85, 110, 101, 120, 112, 101, 99, 116, 101, 100, 32, 34, 41, 34, 32, 105, 110, 32, 114, 101, 103, 117, 108, 97, 114, 32, 101, 120, 112, 114, 101, 115, 115, 105, 111, 110]⟩ W.drew hP3.cT ((hL.below b0.out).below (Below.refl _ _).drew) (Nat.le_trans hB b0.out.size) hn)
              clear hP3
              go_still_tail 8, (by kernel_rfl)
              go_wp2_with fail
              unfold logC at cA
              go_at_call 22
              refine cA.out.mono ?_
              rintro y w2 ⟨v', rfl, hL2, k2⟩
              have hans : Ans B K M H G e v w F u pat fl (.returned (.tuple #[.string pat, .string fl, .bool false])) w2 := by
                have hse : scan F u pat 0 0 = .err := hsc.out.symm
                have ue : uns F u pat fl = false := by unfold uns; rw [hse]
                have ee : err F u pat = true := by unfold err; rw [hse]
                refine ⟨by rw [ue], _, v', _, by rw [ee]; exact hL2, Kp.start (b0.out.drew) hB k2⟩
              replace hans := Lib.hid hans
              clear hL2 k2 cA
              go_wp2_with fail
              simp only [Exit.noGoto_ret, Exit.inBlock, Exit.then]
              go_ret3
              exact hans.out
            · have d1 : ((d : Int) == 0) = false := by simp; omega
              go_wp2_with fail
              go_roundg (pat.size - (i + 1))
              case measure => omega
              case rel => exact ⟨i + 1, d - 1, rfl, by omega, by omega, rfl, rfl, by go_num, by go_num, rfl, by have := hsc.out; rw [if_neg d0] at this; exact this⟩
        rw [if_neg c3] at hsc
        have t3 : ((bt pat i : Int) == 41) = false := by simp; omega
        by_cases c4 : bt pat i = 92
        · as_aux_lemma =>
            rw [if_pos c4] at hsc
            rw [c4] at e0
            obtain ⟨T, hT⟩ : ∃ T, tl pat (i + 1) = T := ⟨_, rfl⟩
            obtain ⟨x, hx⟩ : ∃ x, Lib.indexByte T.data.toList 125 = x := ⟨_, rfl⟩
            clear c1 c2 c3 c4 t1 t2 t3 hb
            cases u with
            | false =>
              rw [stopB_of hT rfl rfl hx] at hsc
              simp only [Bool.or_true, Bool.true_or, Bool.or_false, Bool.false_eq_true, if_true, if_false, Bool.and_true, Bool.true_and, Bool.false_and] at hsc
              replace hsc := Lib.hid hsc
              have hT2 : pat.extract (i + 1) pat.size = T := hT
              replace hT2 := Lib.hid hT2
              replace hx := Lib.hid hx
              clear hT
              go_upto_region 43 with fail
              rw [hT2.out]
              unfold Wb
              go_wp2_with fail
              go_roundg (pat.size - (i + 2))
              case measure => omega
              case rel => exact ⟨i + 2, d, rfl, by omega, by omega, rfl, rfl, by go_num, rfl, rfl, hsc.out⟩
            | true =>
              cases hA : Lib.hasPrefix T.data.toList [112, 123] with
              | true =>
                cases hM : hasB F 18014398509481984 with
                | true =>
                  by_cases hx0 : 0 ≤ x
                  · have hd : decide (0 ≤ x) = true := by simpa using hx0
                    rw [stopB_of hT hA rfl hx] at hsc
                    simp only [Bool.or_true, Bool.true_or, Bool.or_false, Bool.false_eq_true, if_true, if_false, Bool.and_true, Bool.true_and, Bool.false_and, hM, hd] at hsc
                    replace hsc := Lib.hid hsc
                    have hT2 : pat.extract (i + 1) pat.size = T := hT
                    replace hT2 := Lib.hid hT2
                    replace hA := Lib.hid hA
                    replace hM := Lib.hid hM
                    replace hx := Lib.hid hx
                    clear hT
                    go_upto_region 43 with fail
                    rw [hT2.out]
                    unfold Wb
                    go_wp2_with (first | (go_at_call 20; (with_reducible refine (hpr T ⟨#[112, 123]⟩ true hA.out _).mono ?_); rintro y w' ⟨rfl, rfl⟩) | (go_at_call 21; (with_reducible refine (has' F 18014398509481984 true hM.out _).mono ?_); rintro y w' ⟨rfl, rfl⟩) | (go_at_call 19; (with_reducible refine (ixb125 T x hx.out _).mono ?_); rintro y w' ⟨rfl, rfl⟩))
                    go_meet
                    exact ⟨true, _, _, _, rfl, rfl, rfl, .inl ⟨rfl, hsc.out.symm⟩⟩
                  · have hd : decide (0 ≤ x) = false := by simpa using hx0
                    rw [stopB_of hT hA rfl hx] at hsc
                    simp only [Bool.or_true, Bool.true_or, Bool.or_false, Bool.false_eq_true, if_true, if_false, Bool.and_true, Bool.true_and, Bool.false_and, hM, hd] at hsc
                    replace hsc := Lib.hid hsc
                    have hT2 : pat.extract (i + 1) pat.size = T := hT
                    replace hT2 := Lib.hid hT2
                    replace hA := Lib.hid hA
                    replace hM := Lib.hid hM
                    replace hx := Lib.hid hx
                    clear hT
                    go_upto_region 43 with fail
                    rw [hT2.out]
                    unfold Wb
                    go_wp2_with (first | (go_at_call 20; (with_reducible refine (hpr T ⟨#[112, 123]⟩ true hA.out _).mono ?_); rintro y w' ⟨rfl, rfl⟩) | (go_at_call 21; (with_reducible refine (has' F 18014398509481984 true hM.out _).mono ?_); rintro y w' ⟨rfl, rfl⟩) | (go_at_call 19; (with_reducible refine (ixb125 T x hx.out _).mono ?_); rintro y w' ⟨rfl, rfl⟩))
                    go_roundg (pat.size - (i + 2))
                    case measure => omega
                    case rel => exact ⟨i + 2, d, rfl, by omega, by omega, rfl, rfl, by go_num, rfl, rfl, hsc.out⟩
                | false =>
                  rw [stopB_of hT hA rfl hx] at hsc
                  simp only [Bool.or_true, Bool.true_or, Bool.or_false, Bool.false_eq_true, if_true, if_false, Bool.and_true, Bool.true_and, Bool.false_and, hM] at hsc
                  replace hsc := Lib.hid hsc
                  have hT2 : pat.extract (i + 1) pat.size = T := hT
                  replace hT2 := Lib.hid hT2
                  replace hA := Lib.hid hA
                  replace hM := Lib.hid hM
                  replace hx := Lib.hid hx
                  clear hT
                  go_upto_region 43 with fail
                  rw [hT2.out]
                  unfold Wb
                  go_wp2_with (first | (go_at_call 20; (with_reducible refine (hpr T ⟨#[112, 123]⟩ true hA.out _).mono ?_); rintro y w' ⟨rfl, rfl⟩) | (go_at_call 21; (with_reducible refine (has' F 18014398509481984 false hM.out _).mono ?_); rintro y w' ⟨rfl, rfl⟩))
                  go_roundg (pat.size - (i + 2))
                  case measure => omega
                  case rel => exact ⟨i + 2, d, rfl, by omega, by omega, rfl, rfl, by go_num, rfl, rfl, hsc.out⟩
              | false =>
                cases hB2 : Lib.hasPrefix T.data.toList [80, 123] with
                | true =>
                  cases hM : hasB F 18014398509481984 with
                  | true =>
                    by_cases hx0 : 0 ≤ x
                    · have hd : decide (0 ≤ x) = true := by simpa using hx0
                      rw [stopB_of hT hA hB2 hx] at hsc
                      simp only [Bool.or_true, Bool.true_or, Bool.or_false, Bool.false_eq_true, if_true, if_false, Bool.and_true, Bool.true_and, Bool.false_and, hM, hd] at hsc
                      replace hsc := Lib.hid hsc
                      have hT2 : pat.extract (i + 1) pat.size = T := hT
                      replace hT2 := Lib.hid hT2
                      replace hA := Lib.hid hA
                      replace hB2 := Lib.hid hB2
                      replace hM := Lib.hid hM
                      replace hx := Lib.hid hx
                      clear hT
                      go_upto_region 43 with fail
                      rw [hT2.out]
                      unfold Wb
                      go_wp2_with (first | (go_at_call 20; (with_reducible refine (hpr T ⟨#[112, 123]⟩ false hA.out _).mono ?_); rintro y w' ⟨rfl, rfl⟩) | (go_at_call 20; (with_reducible refine (hpr T ⟨#[80, 123]⟩ true hB2.out _).mono ?_); rintro y w' ⟨rfl, rfl⟩) | (go_at_call 21; (with_reducible refine (has' F 18014398509481984 true hM.out _).mono ?_); rintro y w' ⟨rfl, rfl⟩) | (go_at_call 19; (with_reducible refine (ixb125 T x hx.out _).mono ?_); rintro y w' ⟨rfl, rfl⟩))
                      go_meet
                      exact ⟨true, _, _, _, rfl, rfl, rfl, .inl ⟨rfl, hsc.out.symm⟩⟩
                    · have hd : decide (0 ≤ x) = false := by simpa using hx0
                      rw [stopB_of hT hA hB2 hx] at hsc
                      simp only [Bool.or_true, Bool.true_or, Bool.or_false, Bool.false_eq_true, if_true, if_false, Bool.and_true, Bool.true_and, Bool.false_and, hM, hd] at hsc
                      replace hsc := Lib.hid hsc
                      have hT2 : pat.extract (i + 1) pat.size = T := hT
                      replace hT2 := Lib.hid hT2
                      replace hA := Lib.hid hA
                      replace hB2 := Lib.hid hB2
                      replace hM := Lib.hid hM
                      replace hx := Lib.hid hx
                      clear hT
                      go_upto_region 43 with fail
                      rw [hT2.out]
                      unfold Wb
                      go_wp2_with (first | (go_at_call 20; (with_reducible refine (hpr T ⟨#[112, 123]⟩ false hA.out _).mono ?_); rintro y w' ⟨rfl, rfl⟩) | (go_at_call 20; (with_reducible refine (hpr T ⟨#[80, 123]⟩ true hB2.out _).mono ?_); rintro y w' ⟨rfl, rfl⟩) | (go_at_call 21; (with_reducible refine (has' F 18014398509481984 true hM.out _).mono ?_); rintro y w' ⟨rfl, rfl⟩) | (go_at_call 19; (with_reducible refine (ixb125 T x hx.out _).mono ?_); rintro y w' ⟨rfl, rfl⟩))
                      go_roundg (pat.size - (i + 2))
                      case measure => omega
                      case rel => exact ⟨i + 2, d, rfl, by omega, by omega, rfl, rfl, by go_num, rfl, rfl, hsc.out⟩
                  | false =>
                    rw [stopB_of hT hA hB2 hx] at hsc
                    simp only [Bool.or_true, Bool.true_or, Bool.or_false, Bool.false_eq_true, if_true, if_false, Bool.and_true, Bool.true_and, Bool.false_and, hM] at hsc
                    replace hsc := Lib.hid hsc
                    have hT2 : pat.extract (i + 1) pat.size = T := hT
                    replace hT2 := Lib.hid hT2
                    replace hA := Lib.hid hA
                    replace hB2 := Lib.hid hB2
                    replace hM := Lib.hid hM
                    replace hx := Lib.hid hx
                    clear hT
                    go_upto_region 43 with fail
                    rw [hT2.out]
                    unfold Wb
                    go_wp2_with (first | (go_at_call 20; (with_reducible refine (hpr T ⟨#[112, 123]⟩ false hA.out _).mono ?_); rintro y w' ⟨rfl, rfl⟩) | (go_at_call 20; (with_reducible refine (hpr T ⟨#[80, 123]⟩ true hB2.out _).mono ?_); rintro y w' ⟨rfl, rfl⟩) | (go_at_call 21; (with_reducible refine (has' F 18014398509481984 false hM.out _).mono ?_); rintro y w' ⟨rfl, rfl⟩))
                    go_roundg (pat.size - (i + 2))
                    case measure => omega
                    case rel => exact ⟨i + 2, d, rfl, by omega, by omega, rfl, rfl, by go_num, rfl, rfl, hsc.out⟩
                | false =>
                  rw [stopB_of hT hA hB2 hx] at hsc
                  simp only [Bool.or_true, Bool.true_or, Bool.or_false, Bool.false_eq_true, if_true, if_false, Bool.and_true, Bool.true_and, Bool.false_and] at hsc
                  replace hsc := Lib.hid hsc
                  have hT2 : pat.extract (i + 1) pat.size = T := hT
                  replace hT2 := Lib.hid hT2
                  replace hA := Lib.hid hA
                  replace hB2 := Lib.hid hB2
                  replace hx := Lib.hid hx
                  clear hT
                  go_upto_region 43 with fail
                  rw [hT2.out]
                  unfold Wb
                  go_wp2_with (first | (go_at_call 20; (with_reducible refine (hpr T ⟨#[112, 123]⟩ false hA.out _).mono ?_); rintro y w' ⟨rfl, rfl⟩) | (go_at_call 20; (with_reducible refine (hpr T ⟨#[80, 123]⟩ false hB2.out _).mono ?_); rintro y w' ⟨rfl, rfl⟩))
                  go_roundg (pat.size - (i + 2))
                  case measure => omega
                  case rel => exact ⟨i + 2, d, rfl, by omega, by omega, rfl, rfl, by go_num, rfl, rfl, hsc.out⟩
        rw [if_neg c4] at hsc
        have t4 : ((bt pat i : Int) == 92) = false := by simp; omega
        generalize bt pat i = c at *
        replace hsc := Lib.hid hsc
        clear c1 c2 c3 c4
        go_wp2_with fail
        go_roundg (pat.size - (i + 1))
        case measure => omega
        case rel => exact ⟨i + 1, d, rfl, by omega, by omega, rfl, rfl, by go_num, rfl, rfl, hsc.out⟩
      · rw [if_neg h0] at hsc
        have i1 : ¬ (i : Int) < (pat.size : Int) := by omega
        replace hsc := Lib.hid hsc
        go_wp2_with fail
        go_meet
        exact ⟨false, _, 0, 0, rfl, rfl, rfl, .inr ⟨rfl, hsc.out.symm⟩⟩
  · obtain ⟨z', q, r0, r1, rfl, rfl, rfl, hz'⟩ := hcut
    have ee : err F u pat = false := by
      rcases hz' with ⟨_, h⟩ | ⟨_, h⟩ <;> unfold err <;> rw [h]
    replace ee := Lib.hid ee
    go_upto_if 177 with fail
    go_cut [8, 9] from 178 to 244 (fun b8 b9 wx => Aft2 (uns F u pat fl) w b8 b9 wx)
    · have bV : Below w.heap.size w (Wb w l r0 r1) := ((Below.refl _ _).alloc (Nat.le_refl _) _).alloc (by simp) _
      obtain ⟨qV0, qV⟩ := wb_blocks w l r0 r1
      have sV : (Wb w l r0 r1).heap.size = w.heap.size + 1 + 1 := by simp [Wb]
      generalize Wb w l r0 r1 = V at *
      cases z' with
      | true =>
        have hsc : scan F u pat 0 0 = .uns := by simpa using hz'
        have ue : uns F u pat fl = true := by unfold uns; rw [hsc]
        replace qV := Lib.hid qV
        replace qV0 := Lib.hid qV0
        replace bV := Lib.hid bV
        replace sV := Lib.hid sV
        replace ue := Lib.hid ue
        clear hsc hz'
        go_wp2_with fail
        go_meet
        exact ⟨q, r0, r1, by rw [ue.out], rfl, bV.out, qV.out⟩
      | false =>
        have hsc : scan F u pat 0 0 = .fin := by simpa using hz'
        have ue : uns F u pat fl = flg F fl 0 := by unfold uns; rw [hsc]
        have cV : V.cell? ⟨P, 23, none⟩ = some (.int .u64 F) := (hP.below bV).cF
        have k0 : V.cell? ⟨w.heap.size, 0, none⟩ = some (.int .i32 l) := cell_of_row _ _ 0 _ _ _ qV0
        have k1 : V.cell? ⟨w.heap.size + 1, 0, none⟩ = some (.int .i32 r0) := cell_of_row _ _ 0 _ _ _ qV
        have k2 : V.cell? ⟨w.heap.size + 1, 1, none⟩ = some (.int .i32 r1) := cell_of_row _ _ 1 _ _ _ qV
        have k3 : V.frozen? ⟨w.heap.size + 1, 0, none⟩ = false := frozen_of_row _ _ 0 _ _ qV
        have k4 : V.frozen? ⟨w.heap.size + 1, 1, none⟩ = false := frozen_of_row _ _ 1 _ _ qV
        have lV0 := lt_of_blk qV0
        have lV1 := lt_of_blk qV
        have lVP := lt_of_cell cV
        have lVP : P < V.heap.size := lVP
        replace qV := Lib.hid qV
        replace qV0 := Lib.hid qV0
        replace bV := Lib.hid bV
        replace sV := Lib.hid sV
        replace ue := Lib.hid ue
        clear hsc hz'
        go_wp2_with fail
        go_loopg [8, 9] fl.size (fun g b8 b9 wr => ∃ pos : Nat, wr = V.iter fl pos ∧ b8 = .bool false ∧ b9 = .string q ∧ flg F fl pos = flg F fl 0 ∧ fl.size ≤ pos + g)
        case atStart => exact ⟨0, rfl, rfl, rfl, rfl, by omega⟩
        case round =>
          obtain ⟨pos, rfl, rfl, rfl, hfl, hg⟩ := hrel
          rw [flg.eq_1 F fl pos] at hfl
          by_cases hp0 : pos < fl.size
          · have hnx := fun ty => run_next_any (P := Tryf.prog) V fl pos ty hp0
            have hw := dec_pos fl pos hp0
            rw [if_pos hp0] at hfl
            obtain ⟨g', rfl⟩ : ∃ g', gk = g' + 1 := ⟨gk - 1, by omega⟩
            generalize Utf8.decode fl pos = D at hnx hw hfl
            obtain ⟨c, n0⟩ := D
            dsimp only at hnx hw hfl
            have bI : Below V.heap.size V (V.iter fl (pos + n0)) := (Below.refl _ _).alloc (Nat.le_refl _) _
            generalize hW2 : V.iter fl (pos + n0) = W2 at *
            have cV2 : W2.cell? ⟨P, 23, none⟩ = some (.int .u64 F) := (bI.cell (p := ⟨P, 23, none⟩) lVP).trans cV
            have j0 : W2.cell? ⟨w.heap.size, 0, none⟩ = some (.int .i32 l) := (bI.cell (p := ⟨w.heap.size, 0, none⟩) lV0).trans k0
            have j1 : W2.cell? ⟨w.heap.size + 1, 0, none⟩ = some (.int .i32 r0) := (bI.cell (p := ⟨w.heap.size + 1, 0, none⟩) lV1).trans k1
            have j2 : W2.cell? ⟨w.heap.size + 1, 1, none⟩ = some (.int .i32 r1) := (bI.cell (p := ⟨w.heap.size + 1, 1, none⟩) lV1).trans k2
            have j3 : W2.frozen? ⟨w.heap.size + 1, 0, none⟩ = false := (bI.frozen (p := ⟨w.heap.size + 1, 0, none⟩) lV1).trans k3
            have j4 : W2.frozen? ⟨w.heap.size + 1, 1, none⟩ = false := (bI.frozen (p := ⟨w.heap.size + 1, 1, none⟩) lV1).trans k4
            have bW2 := Lib.hid (bV.out.trans (bI.mono bV.out.size))
            have qW2 := Lib.hid ((bI.block _ lV1).trans qV.out)
            have sW2 : w.heap.size + 1 < W2.heap.size := lt_of_cell j1
            have lPW : P < W2.heap.size := lt_of_cell cV2
            replace hW2 := Lib.hid hW2
            replace sW2 := Lib.hid sW2
            clear bI
            by_cases e103 : c = 103
            · as_aux_lemma =>
                subst e103
                have hfl2 : Hid (flg F fl (pos + n0) = flg F fl 0) := Lib.hid (by rw [← hfl]; simp [badF])
                clear hfl
                go_wp2_with fail
                go_roundg g'
                case measure => omega
                case rel => exact ⟨pos + n0, hW2.out.symm, rfl, rfl, hfl2.out, by omega⟩
            by_cases e105 : c = 105
            · as_aux_lemma =>
                subst e105
                have hfl2 : Hid (flg F fl (pos + n0) = flg F fl 0) := Lib.hid (by rw [← hfl]; simp [badF])
                clear hfl e103
                go_wp2_with fail
                go_roundg g'
                case measure => omega
                case rel => exact ⟨pos + n0, hW2.out.symm, rfl, rfl, hfl2.out, by omega⟩
            by_cases e109 : c = 109
            · as_aux_lemma =>
                subst e109
                have hfl2 : Hid (flg F fl (pos + n0) = flg F fl 0) := Lib.hid (by rw [← hfl]; simp [badF])
                clear hfl e103 e105
                go_wp2_with fail
                go_roundg g'
                case measure => omega
                case rel => exact ⟨pos + n0, hW2.out.symm, rfl, rfl, hfl2.out, by omega⟩
            by_cases e115 : c = 115
            · as_aux_lemma =>
                subst e115
                cases hM : hasB F 281474976710656 with
                | true =>
                  have hfl2 : Hid (flg F fl 0 = true) := Lib.hid (by rw [← hfl]; simp [badF, hM])
                  replace hM := Lib.hid hM
                  clear hfl e103 e105 e109
                  go_wp2_with (go_at_call 21; (with_reducible refine (has' F 281474976710656 true hM.out _).mono ?_); rintro y w' ⟨rfl, rfl⟩)
                  generalize hX : World.alloc (World.setCell (World.setCell W2 _ _) _ _) _ = X
                  have bX : Below w.heap.size w X := by rw [← hX]; exact ((bW2.out.setCell (Nat.le_succ _) _).setCell (Nat.le_succ _) _).alloc (by simp; have := sW2.out; omega) _
                  have qX := stop_blk qW2.out (by exact hX)
                  obtain ⟨sv, hs⟩ := spr1 (F := I) (w := X) (bX.tape ▸ hI.out) W2.heap.size _ (stop_cell hX)
                  unfold fm1 at hs
                  rw [hs]
                  replace hX := Lib.hid hX
                  replace bX := Lib.hid bX
                  replace qX := Lib.hid qX
                  clear hs
                  go_wp2_with fail
                  go_meet
                  exact ⟨sv, _, _, by rw [ue.out, hfl2.out], rfl, bX.out.drew, qX.out⟩
                | false =>
                  have hfl2 : Hid (flg F fl (pos + n0) = flg F fl 0) := Lib.hid (by rw [← hfl]; simp [badF, hM])
                  replace hM := Lib.hid hM
                  clear hfl e103 e105 e109
                  go_wp2_with (go_at_call 21; (with_reducible refine (has' F 281474976710656 false hM.out _).mono ?_); rintro y w' ⟨rfl, rfl⟩)
                  go_roundg g'
                  case measure => omega
                  case rel => exact ⟨pos + n0, hW2.out.symm, rfl, rfl, hfl2.out, by omega⟩
            by_cases e121 : c = 121
            · as_aux_lemma =>
                subst e121
                cases hM : hasB F 9007199254740992 with
                | true =>
                  have hfl2 : Hid (flg F fl 0 = true) := Lib.hid (by rw [← hfl]; simp [badF, hM])
                  replace hM := Lib.hid hM
                  clear hfl e103 e105 e109 e115
                  go_wp2_with (go_at_call 21; (with_reducible refine (has' F 9007199254740992 true hM.out _).mono ?_); rintro y w' ⟨rfl, rfl⟩)
                  generalize hX : World.alloc (World.setCell (World.setCell W2 _ _) _ _) _ = X
                  have bX : Below w.heap.size w X := by rw [← hX]; exact ((bW2.out.setCell (Nat.le_succ _) _).setCell (Nat.le_succ _) _).alloc (by simp; have := sW2.out; omega) _
                  have qX := stop_blk qW2.out (by exact hX)
                  obtain ⟨sv, hs⟩ := spr1 (F := I) (w := X) (bX.tape ▸ hI.out) W2.heap.size _ (stop_cell hX)
                  unfold fm1 at hs
                  rw [hs]
                  replace hX := Lib.hid hX
                  replace bX := Lib.hid bX
                  replace qX := Lib.hid qX
                  clear hs
                  go_wp2_with fail
                  go_meet
                  exact ⟨sv, _, _, by rw [ue.out, hfl2.out], rfl, bX.out.drew, qX.out⟩
                | false =>
                  have hfl2 : Hid (flg F fl (pos + n0) = flg F fl 0) := Lib.hid (by rw [← hfl]; simp [badF, hM])
                  replace hM := Lib.hid hM
                  clear hfl e103 e105 e109 e115
                  go_wp2_with (go_at_call 21; (with_reducible refine (has' F 9007199254740992 false hM.out _).mono ?_); rintro y w' ⟨rfl, rfl⟩)
                  go_roundg g'
                  case measure => omega
                  case rel => exact ⟨pos + n0, hW2.out.symm, rfl, rfl, hfl2.out, by omega⟩
            by_cases e117 : c = 117
            · as_aux_lemma =>
                subst e117
                cases hM : hasB F 9007199254740992 with
                | true =>
                  have hfl2 : Hid (flg F fl 0 = true) := Lib.hid (by rw [← hfl]; simp [badF, hM])
                  replace hM := Lib.hid hM
                  clear hfl e103 e105 e109 e115 e121
                  go_wp2_with (go_at_call 21; (with_reducible refine (has' F 9007199254740992 true hM.out _).mono ?_); rintro y w' ⟨rfl, rfl⟩)
                  generalize hX : World.alloc (World.setCell (World.setCell W2 _ _) _ _) _ = X
                  have bX : Below w.heap.size w X := by rw [← hX]; exact ((bW2.out.setCell (Nat.le_succ _) _).setCell (Nat.le_succ _) _).alloc (by simp; have := sW2.out; omega) _
                  have qX := stop_blk qW2.out (by exact hX)
                  obtain ⟨sv, hs⟩ := spr1 (F := I) (w := X) (bX.tape ▸ hI.out) W2.heap.size _ (stop_cell hX)
                  unfold fm1 at hs
                  rw [hs]
                  replace hX := Lib.hid hX
                  replace bX := Lib.hid bX
                  replace qX := Lib.hid qX
                  clear hs
                  go_wp2_with fail
                  go_meet
                  exact ⟨sv, _, _, by rw [ue.out, hfl2.out], rfl, bX.out.drew, qX.out⟩
                | false =>
                  have hfl2 : Hid (flg F fl (pos + n0) = flg F fl 0) := Lib.hid (by rw [← hfl]; simp [badF, hM])
                  replace hM := Lib.hid hM
                  clear hfl e103 e105 e109 e115 e121
                  go_wp2_with (go_at_call 21; (with_reducible refine (has' F 9007199254740992 false hM.out _).mono ?_); rintro y w' ⟨rfl, rfl⟩)
                  go_roundg g'
                  case measure => omega
                  case rel => exact ⟨pos + n0, hW2.out.symm, rfl, rfl, hfl2.out, by omega⟩
            by_cases e100 : c = 100
            · as_aux_lemma =>
                subst e100
                cases hM : hasB F 1125899906842624 with
                | true =>
                  have hfl2 : Hid (flg F fl 0 = true) := Lib.hid (by rw [← hfl]; simp [badF, hM])
                  replace hM := Lib.hid hM
                  clear hfl e103 e105 e109 e115 e121 e117
                  go_wp2_with (go_at_call 21; (with_reducible refine (has' F 1125899906842624 true hM.out _).mono ?_); rintro y w' ⟨rfl, rfl⟩)
                  generalize hX : World.alloc (World.setCell (World.setCell W2 _ _) _ _) _ = X
                  have bX : Below w.heap.size w X := by rw [← hX]; exact ((bW2.out.setCell (Nat.le_succ _) _).setCell (Nat.le_succ _) _).alloc (by simp; have := sW2.out; omega) _
                  have qX := stop_blk qW2.out (by exact hX)
                  obtain ⟨sv, hs⟩ := spr1 (F := I) (w := X) (bX.tape ▸ hI.out) W2.heap.size _ (stop_cell hX)
                  unfold fm1 at hs
                  rw [hs]
                  replace hX := Lib.hid hX
                  replace bX := Lib.hid bX
                  replace qX := Lib.hid qX
                  clear hs
                  go_wp2_with fail
                  go_meet
                  exact ⟨sv, _, _, by rw [ue.out, hfl2.out], rfl, bX.out.drew, qX.out⟩
                | false =>
                  have hfl2 : Hid (flg F fl (pos + n0) = flg F fl 0) := Lib.hid (by rw [← hfl]; simp [badF, hM])
                  replace hM := Lib.hid hM
                  clear hfl e103 e105 e109 e115 e121 e117
                  go_wp2_with (go_at_call 21; (with_reducible refine (has' F 1125899906842624 false hM.out _).mono ?_); rintro y w' ⟨rfl, rfl⟩)
                  go_roundg g'
                  case measure => omega
                  case rel => exact ⟨pos + n0, hW2.out.symm, rfl, rfl, hfl2.out, by omega⟩
            by_cases e118 : c = 118
            · as_aux_lemma =>
                subst e118
                cases hM : hasB F 4503599627370496 with
                | true =>
                  have hfl2 : Hid (flg F fl 0 = true) := Lib.hid (by rw [← hfl]; simp [badF, hM])
                  replace hM := Lib.hid hM
                  clear hfl e103 e105 e109 e115 e121 e117 e100
                  go_wp2_with (go_at_call 21; (with_reducible refine (has' F 4503599627370496 true hM.out _).mono ?_); rintro y w' ⟨rfl, rfl⟩)
                  generalize hX : World.alloc (World.setCell (World.setCell W2 _ _) _ _) _ = X
                  have bX : Below w.heap.size w X := by rw [← hX]; exact ((bW2.out.setCell (Nat.le_succ _) _).setCell (Nat.le_succ _) _).alloc (by simp; have := sW2.out; omega) _
                  have qX := stop_blk qW2.out (by exact hX)
                  obtain ⟨sv, hs⟩ := spr1 (F := I) (w := X) (bX.tape ▸ hI.out) W2.heap.size _ (stop_cell hX)
                  unfold fm1 at hs
                  rw [hs]
                  replace hX := Lib.hid hX
                  replace bX := Lib.hid bX
                  replace qX := Lib.hid qX
                  clear hs
                  go_wp2_with fail
                  go_meet
                  exact ⟨sv, _, _, by rw [ue.out, hfl2.out], rfl, bX.out.drew, qX.out⟩
                | false =>
                  have hfl2 : Hid (flg F fl (pos + n0) = flg F fl 0) := Lib.hid (by rw [← hfl]; simp [badF, hM])
                  replace hM := Lib.hid hM
                  clear hfl e103 e105 e109 e115 e121 e117 e100
                  go_wp2_with (go_at_call 21; (with_reducible refine (has' F 4503599627370496 false hM.out _).mono ?_); rintro y w' ⟨rfl, rfl⟩)
                  go_roundg g'
                  case measure => omega
                  case rel => exact ⟨pos + n0, hW2.out.symm, rfl, rfl, hfl2.out, by omega⟩
            have hfl2 : Hid (flg F fl 0 = true) := Lib.hid (by rw [← hfl]; simp [badF, e103, e105, e109, e115, e121, e117, e100, e118])
            have f103 : ((c : Int) == 103) = false := by simp; omega
            have f105 : ((c : Int) == 105) = false := by simp; omega
            have f109 : ((c : Int) == 109) = false := by simp; omega
            have f115 : ((c : Int) == 115) = false := by simp; omega
            have f121 : ((c : Int) == 121) = false := by simp; omega
            have f117 : ((c : Int) == 117) = false := by simp; omega
            have f100 : ((c : Int) == 100) = false := by simp; omega
            have f118 : ((c : Int) == 118) = false := by simp; omega
            clear hfl e103 e105 e109 e115 e121 e117 e100 e118
            go_wp2_with fail
            generalize hX : World.alloc (World.setCell (World.setCell W2 _ _) _ _) _ = X
            have bX : Below w.heap.size w X := by rw [← hX]; exact ((bW2.out.setCell (Nat.le_succ _) _).setCell (Nat.le_succ _) _).alloc (by simp; have := sW2.out; omega) _
            have qX := stop_blk qW2.out (by exact hX)
            obtain ⟨sv, hs⟩ := spr1 (F := I) (w := X) (bX.tape ▸ hI.out) W2.heap.size _ (stop_cell hX)
            unfold fm1 at hs
            rw [hs]
            replace hX := Lib.hid hX
            replace bX := Lib.hid bX
            replace qX := Lib.hid qX
            clear hs
            go_wp2_with fail
            go_meet
            exact ⟨sv, _, _, by rw [ue.out, hfl2.out], rfl, bX.out.drew, qX.out⟩
          · have hnx := fun ty => run_next_end (P := Tryf.prog) V fl pos ty hp0
            rw [if_neg hp0] at hfl
            replace hfl := Lib.hid hfl
            go_wp2_with fail
            go_meet
            exact ⟨q, r0, r1, by rw [ue.out, ← hfl.out], rfl, bV.out.alloc (by rw [sV.out]; omega) _, (Below.heap_alloc _ _ _ lV1).trans qV.out⟩
    · obtain ⟨q2, x0, x1, rfl, rfl, bC, qC⟩ := hcut
      clear hz'
      cases hU : uns F u pat fl with
      | false =>
        have hans : Ans B K M H G e v w F u pat fl (.returned (.tuple #[.string pat, .string fl, .bool false])) wc :=
          ⟨by rw [hU], n, v, xs, by rw [ee.out]; exact hL.below bC, bC.mono hB, fun b hb _ _ _ => bC.block b hb⟩
        replace hans := Lib.hid hans
        clear hU bC qC ee
        go_wp2_with fail
        simp only [Exit.noGoto_ret, Exit.inBlock, Exit.then]
        go_ret3
        exact hans.out
      | true =>
        have hPC := hP.below bC
        have cE := hPC.cE
        have cO := hPC.cO
        have lPC := lt_of_cell cE
        have lPC : P < wc.heap.size := lPC
        have hS0 := SR.of hPC qC
        replace hPC := Lib.hid hPC
        replace hS0 := Lib.hid hS0
        replace hU := Lib.hid hU
        replace bC := Lib.hid bC
        replace qC := Lib.hid qC
        go_upto_region 72 with fail
        go_quiet ((go_at_call 24; exact Calls.quiet_of_same ((pretty _).mono fun _ _ h => ⟨h.1, h.2.symm⟩)))
        go_upto_region 73 with fail
        have bD : Below wc.heap.size wc (wc.drewN nq) := belowN _ _
        have hPD := Lib.hid (hPC.out.below bD)
        have hSD := Lib.hid (hS0.out.below bD)
        have bDw := Lib.hid (bC.out.trans (bD.mono bC.out.size))
        clear cE cO lPC hPC hS0 bD
        obtain ⟨V2, hV2⟩ : ∃ V2, V2 = wc.drewN nq := ⟨_, rfl⟩
        rw [← hV2] at hPD hSD bDw ⊢
        clear hV2
        refine wp_region_held_drew (S := SR P K M H G w.heap.size x0 x1) (by kernel_rfl) (hSD.out.below (Below.refl _ _).drew) (fun hS => ?_)
        refine Take.takeD (i := 0) (v := .pointer (some ⟨P, 0, none⟩)) (some 259) rfl rfl (by kernel_rfl) (by kernel_rfl) (by kernel_rfl) (fun _ _ _ h => h) (Or.inl ⟨by rfl, fun w9 hw9 => by (go_simp; first | done | rfl | (simp [logC, hw9.l0, hw9.l1, hw9.l2, hw9.l3, hw9.l4, hw9.l5, hw9.c0, hw9.c1]; done))⟩) hS ?_
        try simp only [Act.put, List.setIfInBounds_toArray, List.set_cons_zero, List.set_cons_succ]
        refine Take.takeD (i := 1) (v := .pointer (some ⟨P, 0, none⟩)) (some 260) rfl rfl (by kernel_rfl) (by kernel_rfl) (by kernel_rfl) (fun _ _ _ h => h) (Or.inl ⟨by rfl, fun w9 hw9 => by (go_simp; first | done | rfl | (simp [logC, hw9.l0, hw9.l1, hw9.l2, hw9.l3, hw9.l4, hw9.l5, hw9.c0, hw9.c1]; done))⟩) hS ?_
        try simp only [Act.put, List.setIfInBounds_toArray, List.set_cons_zero, List.set_cons_succ]
        refine Take.takeD (i := 2) (v := .pointer (some ⟨P, 51, none⟩)) (some 261) rfl rfl (by kernel_rfl) (by kernel_rfl) (by kernel_rfl) (fun _ _ _ h => h) (Or.inl ⟨by rfl, fun w9 hw9 => by (go_simp; first | done | rfl | (simp [logC, hw9.l0, hw9.l1, hw9.l2, hw9.l3, hw9.l4, hw9.l5, hw9.c0, hw9.c1]; done))⟩) hS ?_
        try simp only [Act.put, List.setIfInBounds_toArray, List.set_cons_zero, List.set_cons_succ]
        refine Take.takeD (i := 3) (v := .agg (logC K M H G)) (some 262) rfl rfl (by kernel_rfl) (by kernel_rfl) (by kernel_rfl) (fun _ _ _ h => h) (Or.inl ⟨by rfl, fun w9 hw9 => by (go_simp; first | done | rfl | (simp [logC, hw9.l0, hw9.l1, hw9.l2, hw9.l3, hw9.l4, hw9.l5, hw9.c0, hw9.c1]; done))⟩) hS ?_
        try simp only [Act.put, List.setIfInBounds_toArray, List.set_cons_zero, List.set_cons_succ]
        refine Take.takeD (i := 4) (v := .pointer (some ⟨P, 0, none⟩)) (some 263) rfl rfl (by kernel_rfl) (by kernel_rfl) (by kernel_rfl) (fun _ _ _ h => h) (Or.inl ⟨by rfl, fun w9 hw9 => by (go_simp; first | done | rfl | (simp [logC, hw9.l0, hw9.l1, hw9.l2, hw9.l3, hw9.l4, hw9.l5, hw9.c0, hw9.c1]; done))⟩) hS ?_
        try simp only [Act.put, List.setIfInBounds_toArray, List.set_cons_zero, List.set_cons_succ]
        refine Take.takeD (i := 5) (v := .pointer (some ⟨P, 0, none⟩)) (some 264) rfl rfl (by kernel_rfl) (by kernel_rfl) (by kernel_rfl) (fun _ _ _ h => h) (Or.inl ⟨by rfl, fun w9 hw9 => by (go_simp; first | done | rfl | (simp [logC, hw9.l0, hw9.l1, hw9.l2, hw9.l3, hw9.l4, hw9.l5, hw9.c0, hw9.c1]; done))⟩) hS ?_
        try simp only [Act.put, List.setIfInBounds_toArray, List.set_cons_zero, List.set_cons_succ]
        refine Take.takeD (i := 6) (v := .pointer (some ⟨P, 67, none⟩)) (some 265) rfl rfl (by kernel_rfl) (by kernel_rfl) (by kernel_rfl) (fun _ _ _ h => h) (Or.inl ⟨by rfl, fun w9 hw9 => by (go_simp; first | done | rfl | (simp [logC, hw9.l0, hw9.l1, hw9.l2, hw9.l3, hw9.l4, hw9.l5, hw9.c0, hw9.c1]; done))⟩) hS ?_
        try simp only [Act.put, List.setIfInBounds_toArray, List.set_cons_zero, List.set_cons_succ]
        refine Take.takeD (i := 7) (v := .agg #[.int .i32 x0, .int .i32 x1]) (some 266) rfl rfl (by kernel_rfl) (by kernel_rfl) (by kernel_rfl) (fun _ _ _ h => h) (Or.inl ⟨by rfl, fun w9 hw9 => by (go_simp; first | done | rfl | (simp [logC, hw9.l0, hw9.l1, hw9.l2, hw9.l3, hw9.l4, hw9.l5, hw9.c0, hw9.c1]; done))⟩) hS ?_
        try simp only [Act.put, List.setIfInBounds_toArray, List.set_cons_zero, List.set_cons_succ]
        refine Take.takeD (i := 8) (v := .string q2) (some 267) rfl rfl (by kernel_rfl) (by kernel_rfl) (by kernel_rfl) (fun _ _ _ h => h) (Or.inl ⟨by rfl, fun w9 hw9 => by (go_simp; first | done | rfl | (simp [logC, hw9.l0, hw9.l1, hw9.l2, hw9.l3, hw9.l4, hw9.l5, hw9.c0, hw9.c1]; done))⟩) hS ?_
        try simp only [Act.put, List.setIfInBounds_toArray, List.set_cons_zero, List.set_cons_succ]
        refine Take.takeD (i := 9) (v := .iface 9 (.string q2)) (some 268) rfl rfl (by kernel_rfl) (by kernel_rfl) (by kernel_rfl) (fun _ _ _ h => h) (Or.inl ⟨by rfl, fun w9 hw9 => by (go_simp; first | done | rfl | (simp [logC, hw9.l0, hw9.l1, hw9.l2, hw9.l3, hw9.l4, hw9.l5, hw9.c0, hw9.c1]; done))⟩) hS ?_
        try simp only [Act.put, List.setIfInBounds_toArray, List.set_cons_zero, List.set_cons_succ]
        refine Take.takeD (i := 10) (v := .string whereS) (some 269) rfl rfl (by kernel_rfl) (by kernel_rfl) (by kernel_rfl) (fun _ _ _ h => h) (Or.inl ⟨by rfl, fun w9 hw9 => by (go_simp; first | done | rfl | (simp [logC, hw9.l0, hw9.l1, hw9.l2, hw9.l3, hw9.l4, hw9.l5, hw9.c0, hw9.c1]; done))⟩) hS ?_
        try simp only [Act.put, List.setIfInBounds_toArray, List.set_cons_zero, List.set_cons_succ]
        refine Take.takeD (i := 11) (v := .iface 9 (.string whereS)) (some 270) rfl rfl (by kernel_rfl) (by kernel_rfl) (by kernel_rfl) (fun _ _ _ h => h) (Or.inl ⟨by rfl, fun w9 hw9 => by (go_simp; first | done | rfl | (simp [logC, hw9.l0, hw9.l1, hw9.l2, hw9.l3, hw9.l4, hw9.l5, hw9.c0, hw9.c1]; done))⟩) hS ?_
        try simp only [Act.put, List.setIfInBounds_toArray, List.set_cons_zero, List.set_cons_succ]
        refine Take.takeD (i := 14) (v := ?_) (some 273) rfl rfl (by kernel_rfl) (by kernel_rfl) (by kernel_rfl) (fun _ _ _ h => h) (Or.inl ⟨by rfl, ?_⟩) hS ?_
        rotate_left 1
        · intro w9 _; go_simp; try with_reducible rfl
        try simp only [Act.put, List.setIfInBounds_toArray, List.set_cons_zero, List.set_cons_succ]
        clear hS
        have hP3 := Lib.hid (hPD.out.below (Below.refl _ _).drew)
        have hS3 := Lib.hid (hSD.out.below (Below.refl _ _).drew)
        have b3 := Lib.hid (bDw.out.drew)
        clear hPD hSD bDw
        generalize V2.drew = V3 at *
        refine wpAnyH_ready (rs := [12, 15]) (by kernel_rfl) (by decide) ?_
        refine AllReadyH.cons rfl (fun K' hK => ?_) ?_
        · rw [if_pos (by kernel_rfl)]
          go_wp2_with fail
          refine hK.out _ _ (hS3.out.below ((Below.refl _ _).alloc (Nat.le_refl _) _)) (fun _ => ?_)
          clear hK
          generalize hV4 : World.alloc V3 _ = V4
          obtain ⟨bn, qn⟩ := st_alloc hV4
          have A0 : V4.cell? ⟨V3.heap.size, 0, none⟩ = some (.iface 9 (.string q2)) := cell_of_row _ _ 0 _ _ _ qn
          have A1 : V4.cell? ⟨V3.heap.size, 1, none⟩ = some (.iface 9 (.string whereS)) := cell_of_row _ _ 1 _ _ _ qn
          have hP4 := Lib.hid (hP3.out.below bn)
          have hS4 := Lib.hid (hS3.out.below bn)
          have b4 := Lib.hid (b3.out.trans (bn.mono b3.out.size))
          clear bn qn hV4
          refine wpAnyH_ready (rs := [13, 15]) (by kernel_rfl) (by decide) ?_
          refine AllReadyH.cons rfl (fun K' hK => ?_) ?_
          · obtain ⟨sv, hs⟩ := spr2 (F := I) (b4.out.tape ▸ hI.out) _ q2 whereS A0 A1
            unfold fm2 at hs
            rw [if_pos (by kernel_rfl)]
            go_wp2_with fail
            refine hK.out _ _ (hS4.out.below (Below.refl _ _).drew) (fun _ => ?_)
            clear hK hs A0 A1
            have bn : Below V4.heap.size V4 V4.drew := (Below.refl _ _).drew
            have hP5 := Lib.hid (hP4.out.below bn)
            have hS5 := Lib.hid (hS4.out.below bn)
            have b5 := Lib.hid (b4.out.trans (bn.mono b4.out.size))
            clear bn
            generalize V4.drew = V5 at *
            refine wpAnyH_ready (rs := [15]) (by kernel_rfl) (by decide) ?_
            refine AllReadyH.cons rfl (fun K' hK => ?_) AllReadyH.nil
            rw [if_pos (by kernel_rfl)]
            go_wp2_with fail
            refine hK.out _ _ (hS5.out.below ((Below.refl _ _).alloc (Nat.le_refl _) _)) (fun _ => ?_)
            clear hK
            generalize hV6 : World.alloc V5 _ = V6
            obtain ⟨bn, qn⟩ := st_alloc hV6
            have hP6 := Lib.hid (hP5.out.below bn)
            have hS6 := Lib.hid (hS5.out.below bn)
            have b6 := Lib.hid (b5.out.trans (bn.mono b5.out.size))
            clear bn qn hV6
            refine wpAnyH_ready (rs := [16]) (by kernel_rfl) (by decide) ?_
            refine AllReadyH.cons rfl (fun K' hK => ?_) AllReadyH.nil
            rw [if_pos (by kernel_rfl)]
            have cC := Lib.hid (addID (B := B) (K := K) (M := M) (H := H) (G := G) 32 4 (by decide) P 67 x0 x1 sv (some ⟨V5.heap.size, 0, none⟩) 1 1 V6 hP6.out.cT (hL.below b6.out) (Nat.le_trans hB b6.out.size) hn)
            unfold logC at cC
            unfold logC
            go_wp2_with fail
            refine cC.out.mono ?_
            rintro y w2 ⟨v', rfl, hL2, k2⟩
            have hS9 := hS6.out.more (w := w) hL hP (by omega) k2
            have hans : Ans B K M H G e v w F u pat fl (.returned (.tuple #[.string pat, .string fl, .bool true])) w2 :=
              ⟨by rw [hU.out], _, v', _, by rw [ee.out]; exact hL2, k2.start b6.out hB⟩
            replace hans := Lib.hid hans
            refine hK.out _ _ hS9 (fun _ => ?_)
            clear hK hL2 k2 cC hS9
            refine wpAnyH_done (by kernel_rfl) ?_ _
            go_wp2_with fail
            simp only [Exit.noGoto_ret, Exit.inBlock, Exit.then]
            go_ret3
            exact hans.out
          · refine AllReadyH.cons rfl (fun K' hK => ?_) AllReadyH.nil
            rw [if_pos (by kernel_rfl)]
            go_wp2_with fail
            refine hK.out _ _ (hS4.out.below ((Below.refl _ _).alloc (Nat.le_refl _) _)) (fun _ => ?_)
            clear hK
            generalize hV5 : World.alloc V4 _ = V5
            obtain ⟨bn, qn⟩ := st_alloc hV5
            replace A0 := (bn.cell (lt_of_cell A0)).trans A0
            replace A1 := (bn.cell (lt_of_cell A1)).trans A1
            have hP5 := Lib.hid (hP4.out.below bn)
            have hS5 := Lib.hid (hS4.out.below bn)
            have b5 := Lib.hid (b4.out.trans (bn.mono b4.out.size))
            clear bn qn hV5
            refine wpAnyH_ready (rs := [13]) (by kernel_rfl) (by decide) ?_
            refine AllReadyH.cons rfl (fun K' hK => ?_) AllReadyH.nil
            obtain ⟨sv, hs⟩ := spr2 (F := I) (b5.out.tape ▸ hI.out) _ q2 whereS A0 A1
            unfold fm2 at hs
            rw [if_pos (by kernel_rfl)]
            go_wp2_with fail
            refine hK.out _ _ (hS5.out.below (Below.refl _ _).drew) (fun _ => ?_)
            clear hK hs A0 A1
            have bn : Below V5.heap.size V5 V5.drew := (Below.refl _ _).drew
            have hP6 := Lib.hid (hP5.out.below bn)
            have hS6 := Lib.hid (hS5.out.below bn)
            have b6 := Lib.hid (b5.out.trans (bn.mono b5.out.size))
            clear bn
            generalize V5.drew = V6 at *
            refine wpAnyH_ready (rs := [16]) (by kernel_rfl) (by decide) ?_
            refine AllReadyH.cons rfl (fun K' hK => ?_) AllReadyH.nil
            rw [if_pos (by kernel_rfl)]
            have cC := Lib.hid (addID (B := B) (K := K) (M := M) (H := H) (G := G) 32 4 (by decide) P 67 x0 x1 sv (some ⟨V4.heap.size, 0, none⟩) 1 1 V6 hP6.out.cT (hL.below b6.out) (Nat.le_trans hB b6.out.size) hn)
            unfold logC at cC
            unfold logC
            go_wp2_with fail
            refine cC.out.mono ?_
            rintro y w2 ⟨v', rfl, hL2, k2⟩
            have hS9 := hS6.out.more (w := w) hL hP (by omega) k2
            have hans : Ans B K M H G e v w F u pat fl (.returned (.tuple #[.string pat, .string fl, .bool true])) w2 :=
              ⟨by rw [hU.out], _, v', _, by rw [ee.out]; exact hL2, k2.start b6.out hB⟩
            replace hans := Lib.hid hans
            refine hK.out _ _ hS9 (fun _ => ?_)
            clear hK hL2 k2 cC hS9
            refine wpAnyH_done (by kernel_rfl) ?_ _
            go_wp2_with fail
            simp only [Exit.noGoto_ret, Exit.inBlock, Exit.then]
            go_ret3
            exact hans.out
        · refine AllReadyH.cons rfl (fun K' hK => ?_) AllReadyH.nil
          rw [if_pos (by kernel_rfl)]
          go_wp2_with fail
          refine hK.out _ _ (hS3.out.below ((Below.refl _ _).alloc (Nat.le_refl _) _)) (fun _ => ?_)
          clear hK
          generalize hV4 : World.alloc V3 _ = V4
          obtain ⟨bn, qn⟩ := st_alloc hV4
          have hP4 := Lib.hid (hP3.out.below bn)
          have hS4 := Lib.hid (hS3.out.below bn)
          have b4 := Lib.hid (b3.out.trans (bn.mono b3.out.size))
          clear bn qn hV4
          refine wpAnyH_ready (rs := [12]) (by kernel_rfl) (by decide) ?_
          refine AllReadyH.cons rfl (fun K' hK => ?_) AllReadyH.nil
          rw [if_pos (by kernel_rfl)]
          go_wp2_with fail
          refine hK.out _ _ (hS4.out.below ((Below.refl _ _).alloc (Nat.le_refl _) _)) (fun _ => ?_)
          clear hK
          generalize hV5 : World.alloc V4 _ = V5
          obtain ⟨bn, qn⟩ := st_alloc hV5
          have A0 : V5.cell? ⟨V4.heap.size, 0, none⟩ = some (.iface 9 (.string q2)) := cell_of_row _ _ 0 _ _ _ qn
          have A1 : V5.cell? ⟨V4.heap.size, 1, none⟩ = some (.iface 9 (.string whereS)) := cell_of_row _ _ 1 _ _ _ qn
          have hP5 := Lib.hid (hP4.out.below bn)
          have hS5 := Lib.hid (hS4.out.below bn)
          have b5 := Lib.hid (b4.out.trans (bn.mono b4.out.size))
          clear bn qn hV5
          refine wpAnyH_ready (rs := [13]) (by kernel_rfl) (by decide) ?_
          refine AllReadyH.cons rfl (fun K' hK => ?_) AllReadyH.nil
          obtain ⟨sv, hs⟩ := spr2 (F := I) (b5.out.tape ▸ hI.out) _ q2 whereS A0 A1
          unfold fm2 at hs
          rw [if_pos (by kernel_rfl)]
          go_wp2_with fail
          refine hK.out _ _ (hS5.out.below (Below.refl _ _).drew) (fun _ => ?_)
          clear hK hs A0 A1
          have bn : Below V5.heap.size V5 V5.drew := (Below.refl _ _).drew
          have hP6 := Lib.hid (hP5.out.below bn)
          have hS6 := Lib.hid (hS5.out.below bn)
          have b6 := Lib.hid (b5.out.trans (bn.mono b5.out.size))
          clear bn
          generalize V5.drew = V6 at *
          refine wpAnyH_ready (rs := [16]) (by kernel_rfl) (by decide) ?_
          refine AllReadyH.cons rfl (fun K' hK => ?_) AllReadyH.nil
          rw [if_pos (by kernel_rfl)]
          have cC := Lib.hid (addID (B := B) (K := K) (M := M) (H := H) (G := G) 32 4 (by decide) P 67 x0 x1 sv (some ⟨V3.heap.size, 0, none⟩) 1 1 V6 hP6.out.cT (hL.below b6.out) (Nat.le_trans hB b6.out.size) hn)
          unfold logC at cC
          unfold logC
          go_wp2_with fail
          refine cC.out.mono ?_
          rintro y w2 ⟨v', rfl, hL2, k2⟩
          have hS9 := hS6.out.more (w := w) hL hP (by omega) k2
          have hans : Ans B K M H G e v w F u pat fl (.returned (.tuple #[.string pat, .string fl, .bool true])) w2 :=
            ⟨by rw [hU.out], _, v', _, by rw [ee.out]; exact hL2, k2.start b6.out hB⟩
          replace hans := Lib.hid hans
          refine hK.out _ _ hS9 (fun _ => ?_)
          clear hK hL2 k2 cC hS9
          refine wpAnyH_done (by kernel_rfl) ?_ _
          go_wp2_with fail
          simp only [Exit.noGoto_ret, Exit.inBlock, Exit.then]
          go_ret3
          exact hans.out
end Go.Proofs.YtfalpclhekpnnaaFmt.Rx
