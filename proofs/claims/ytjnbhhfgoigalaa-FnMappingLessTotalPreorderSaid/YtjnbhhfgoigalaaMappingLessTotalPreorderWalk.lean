/-
  The walk of FnMappingLessTotalPreorder: it returns true for every six numbers. No condition.
-/
import Derived.Test.YtjnbhhfgoigalaaRows
import Derived.WalkKit
import Derived.Below
import Derived.WalkLawsBesides
import Derived.Lib.Hide
namespace Go.Proofs.Ytjnbhhfgoigalaa.fnMappingLessTotalPreorder
open Go.RowKit

def lessB (l c l' c' : Int) : Bool := decide (l < l') || ((l == l') && decide (c ≤ c'))

theorem less (b I J : Nat) (l c l' c' : Int) (hI : I < 3) (hJ : J < 3) (w : World)
    (h0 : w.cell? ⟨b, I * 6, none⟩ = some (.int .i32 l)) (h1 : w.cell? ⟨b, I * 6 + 1, none⟩ = some (.int .i32 c)) (h2 : w.cell? ⟨b, I * 6 + 2, none⟩ = some (.int .i32 0)) (h3 : w.cell? ⟨b, I * 6 + 3, none⟩ = some (.int .i32 0)) (h4 : w.cell? ⟨b, I * 6 + 4, none⟩ = some (.int .i32 0)) (h5 : w.cell? ⟨b, I * 6 + 5, none⟩ = some (.int .u32 0))
    (g0 : w.cell? ⟨b, J * 6, none⟩ = some (.int .i32 l')) (g1 : w.cell? ⟨b, J * 6 + 1, none⟩ = some (.int .i32 c')) (g2 : w.cell? ⟨b, J * 6 + 2, none⟩ = some (.int .i32 0)) (g3 : w.cell? ⟨b, J * 6 + 3, none⟩ = some (.int .i32 0)) (g4 : w.cell? ⟨b, J * 6 + 4, none⟩ = some (.int .i32 0)) (g5 : w.cell? ⟨b, J * 6 + 5, none⟩ = some (.int .u32 0)) (hb : b < w.heap.size) :
    Calls Try.prog 43 #[.slice (some ⟨b, 0, none⟩) 3 3, .int .i64 I, .int .i64 J] w fun e w' => e = .returned (.bool (lessB l c l' c')) ∧ Below w.heap.size w w' := by
  have B : ∀ o o', Below w.heap.size w ((w.alloc o).alloc o') := fun o o' => ((Below.refl _ _).alloc (Nat.le_refl _) _).alloc (by simp) _
  replace B := Lib.hid B
  by_cases t1 : l < l'
  · have HR : Hid (lessB l c l' c' = true) := Lib.hid (by simp [lessB, t1])
    go_enter Try.func43, Try.ntmps43
    go_wp2
    go_ret
    exact ⟨congrArg (fun b => Ending.returned (.bool b)) HR.out.symm, B.out _ _⟩
  · have d1 : decide (l < l') = false := decide_eq_false t1
    cases t2 : (l == l') with
    | false =>
      have HR : Hid (lessB l c l' c' = false) := Lib.hid (by simp [lessB, t1, t2])
      clear t1
      go_enter Try.func43, Try.ntmps43
      go_wp2
      go_ret
      exact ⟨congrArg (fun b => Ending.returned (.bool b)) HR.out.symm, B.out _ _⟩
    | true =>
      have HR : Hid (lessB l c l' c' = decide (c ≤ c')) := Lib.hid (by simp [lessB, t1, t2])
      clear t1
      go_enter Try.func43, Try.ntmps43
      go_wp2
      go_ret
      exact ⟨congrArg (fun b => Ending.returned (.bool b)) HR.out.symm, B.out _ _⟩

def Lf (x y z : Int) (k : Nat) : Int := if k = 0 then x else if k = 1 then y else z
/-- The three mappings lie in block b. -/
def Holds (b : Nat) (l0 c0 l1 c1 l2 c2 : Int) (w : World) : Prop := b < w.heap.size ∧ ∀ k, k < 3 →
  w.cell? ⟨b, k * 6, none⟩ = some (.int .i32 (Lf l0 l1 l2 k)) ∧ w.cell? ⟨b, k * 6 + 1, none⟩ = some (.int .i32 (Lf c0 c1 c2 k)) ∧ w.cell? ⟨b, k * 6 + 2, none⟩ = some (.int .i32 0) ∧ w.cell? ⟨b, k * 6 + 3, none⟩ = some (.int .i32 0) ∧ w.cell? ⟨b, k * 6 + 4, none⟩ = some (.int .i32 0) ∧ w.cell? ⟨b, k * 6 + 5, none⟩ = some (.int .u32 0)
theorem Holds.keep {b : Nat} {l0 c0 l1 c1 l2 c2 : Int} {w w' : World} (h : Holds b l0 c0 l1 c1 l2 c2 w) (hb : Below w.heap.size w w') : Holds b l0 c0 l1 c1 l2 c2 w' := by
  refine ⟨Nat.lt_of_lt_of_le h.1 hb.size, fun k hk => ?_⟩
  have e : ∀ o, w'.cell? ⟨b, o, none⟩ = w.cell? ⟨b, o, none⟩ := fun o => hb.cell (p := ⟨b, o, none⟩) h.1
  simp only [e]
  exact h.2 k hk

def Post (r : Bool) (b : Nat) (l0 c0 l1 c1 l2 c2 : Int) (w : World) (e : Ending) (w' : World) : Prop := e = .returned (.bool r) ∧ Below w.heap.size w w' ∧ Holds b l0 c0 l1 c1 l2 c2 w'

theorem lessH (b I J : Nat) (hI : I < 3) (hJ : J < 3) {l0 c0 l1 c1 l2 c2 : Int} {w : World} (h : Holds b l0 c0 l1 c1 l2 c2 w) :
    Calls Try.prog 43 #[.slice (some ⟨b, 0, none⟩) 3 3, .int .i64 I, .int .i64 J] w (Post (lessB (Lf l0 l1 l2 I) (Lf c0 c1 c2 I) (Lf l0 l1 l2 J) (Lf c0 c1 c2 J)) b l0 c0 l1 c1 l2 c2 w) := by
  obtain ⟨a0, a1, a2, a3, a4, a5⟩ := h.2 I hI
  obtain ⟨b0, b1, b2, b3, b4, b5⟩ := h.2 J hJ
  exact (less b I J _ _ _ _ hI hJ w a0 a1 a2 a3 a4 a5 b0 b1 b2 b3 b4 b5 h.1).mono fun _ _ ⟨he, hb⟩ => ⟨he, hb, h.keep hb⟩

theorem z00 (b : Nat) {l0 c0 l1 c1 l2 c2 : Int} {r : Bool} (hr : lessB l0 c0 l0 c0 = r) {w : World} (h : Holds b l0 c0 l1 c1 l2 c2 w) :
    Calls Try.prog 10 #[.slice (some ⟨b, 0, none⟩) 3 3, .int .i64 0, .int .i64 0] w (Post r b l0 c0 l1 c1 l2 c2 w) := by
  have hc : Calls Try.prog 43 #[.slice (some ⟨b, 0, none⟩) 3 3, .int .i64 0, .int .i64 0] w (Post (lessB l0 c0 l0 c0) b l0 c0 l1 c1 l2 c2 w) := lessH b 0 0 (by decide) (by decide) h
  rw [hr] at hc
  replace hc := Lib.hid hc
  clear hr h
  go_enter Try.func10, Try.ntmps10
  go_wp2_with (go_at_call 43; refine hc.out.mono ?_; rintro e w' ⟨rfl, hb⟩)
  go_ret
  exact ⟨rfl, hb⟩
theorem z01 (b : Nat) {l0 c0 l1 c1 l2 c2 : Int} {r : Bool} (hr : lessB l0 c0 l1 c1 = r) {w : World} (h : Holds b l0 c0 l1 c1 l2 c2 w) :
    Calls Try.prog 10 #[.slice (some ⟨b, 0, none⟩) 3 3, .int .i64 0, .int .i64 1] w (Post r b l0 c0 l1 c1 l2 c2 w) := by
  have hc : Calls Try.prog 43 #[.slice (some ⟨b, 0, none⟩) 3 3, .int .i64 0, .int .i64 1] w (Post (lessB l0 c0 l1 c1) b l0 c0 l1 c1 l2 c2 w) := lessH b 0 1 (by decide) (by decide) h
  rw [hr] at hc
  replace hc := Lib.hid hc
  clear hr h
  go_enter Try.func10, Try.ntmps10
  go_wp2_with (go_at_call 43; refine hc.out.mono ?_; rintro e w' ⟨rfl, hb⟩)
  go_ret
  exact ⟨rfl, hb⟩
theorem z02 (b : Nat) {l0 c0 l1 c1 l2 c2 : Int} {r : Bool} (hr : lessB l0 c0 l2 c2 = r) {w : World} (h : Holds b l0 c0 l1 c1 l2 c2 w) :
    Calls Try.prog 10 #[.slice (some ⟨b, 0, none⟩) 3 3, .int .i64 0, .int .i64 2] w (Post r b l0 c0 l1 c1 l2 c2 w) := by
  have hc : Calls Try.prog 43 #[.slice (some ⟨b, 0, none⟩) 3 3, .int .i64 0, .int .i64 2] w (Post (lessB l0 c0 l2 c2) b l0 c0 l1 c1 l2 c2 w) := lessH b 0 2 (by decide) (by decide) h
  rw [hr] at hc
  replace hc := Lib.hid hc
  clear hr h
  go_enter Try.func10, Try.ntmps10
  go_wp2_with (go_at_call 43; refine hc.out.mono ?_; rintro e w' ⟨rfl, hb⟩)
  go_ret
  exact ⟨rfl, hb⟩
theorem z10 (b : Nat) {l0 c0 l1 c1 l2 c2 : Int} {r : Bool} (hr : lessB l1 c1 l0 c0 = r) {w : World} (h : Holds b l0 c0 l1 c1 l2 c2 w) :
    Calls Try.prog 10 #[.slice (some ⟨b, 0, none⟩) 3 3, .int .i64 1, .int .i64 0] w (Post r b l0 c0 l1 c1 l2 c2 w) := by
  have hc : Calls Try.prog 43 #[.slice (some ⟨b, 0, none⟩) 3 3, .int .i64 1, .int .i64 0] w (Post (lessB l1 c1 l0 c0) b l0 c0 l1 c1 l2 c2 w) := lessH b 1 0 (by decide) (by decide) h
  rw [hr] at hc
  replace hc := Lib.hid hc
  clear hr h
  go_enter Try.func10, Try.ntmps10
  go_wp2_with (go_at_call 43; refine hc.out.mono ?_; rintro e w' ⟨rfl, hb⟩)
  go_ret
  exact ⟨rfl, hb⟩
theorem z11 (b : Nat) {l0 c0 l1 c1 l2 c2 : Int} {r : Bool} (hr : lessB l1 c1 l1 c1 = r) {w : World} (h : Holds b l0 c0 l1 c1 l2 c2 w) :
    Calls Try.prog 10 #[.slice (some ⟨b, 0, none⟩) 3 3, .int .i64 1, .int .i64 1] w (Post r b l0 c0 l1 c1 l2 c2 w) := by
  have hc : Calls Try.prog 43 #[.slice (some ⟨b, 0, none⟩) 3 3, .int .i64 1, .int .i64 1] w (Post (lessB l1 c1 l1 c1) b l0 c0 l1 c1 l2 c2 w) := lessH b 1 1 (by decide) (by decide) h
  rw [hr] at hc
  replace hc := Lib.hid hc
  clear hr h
  go_enter Try.func10, Try.ntmps10
  go_wp2_with (go_at_call 43; refine hc.out.mono ?_; rintro e w' ⟨rfl, hb⟩)
  go_ret
  exact ⟨rfl, hb⟩
theorem z12 (b : Nat) {l0 c0 l1 c1 l2 c2 : Int} {r : Bool} (hr : lessB l1 c1 l2 c2 = r) {w : World} (h : Holds b l0 c0 l1 c1 l2 c2 w) :
    Calls Try.prog 10 #[.slice (some ⟨b, 0, none⟩) 3 3, .int .i64 1, .int .i64 2] w (Post r b l0 c0 l1 c1 l2 c2 w) := by
  have hc : Calls Try.prog 43 #[.slice (some ⟨b, 0, none⟩) 3 3, .int .i64 1, .int .i64 2] w (Post (lessB l1 c1 l2 c2) b l0 c0 l1 c1 l2 c2 w) := lessH b 1 2 (by decide) (by decide) h
  rw [hr] at hc
  replace hc := Lib.hid hc
  clear hr h
  go_enter Try.func10, Try.ntmps10
  go_wp2_with (go_at_call 43; refine hc.out.mono ?_; rintro e w' ⟨rfl, hb⟩)
  go_ret
  exact ⟨rfl, hb⟩
theorem z20 (b : Nat) {l0 c0 l1 c1 l2 c2 : Int} {r : Bool} (hr : lessB l2 c2 l0 c0 = r) {w : World} (h : Holds b l0 c0 l1 c1 l2 c2 w) :
    Calls Try.prog 10 #[.slice (some ⟨b, 0, none⟩) 3 3, .int .i64 2, .int .i64 0] w (Post r b l0 c0 l1 c1 l2 c2 w) := by
  have hc : Calls Try.prog 43 #[.slice (some ⟨b, 0, none⟩) 3 3, .int .i64 2, .int .i64 0] w (Post (lessB l2 c2 l0 c0) b l0 c0 l1 c1 l2 c2 w) := lessH b 2 0 (by decide) (by decide) h
  rw [hr] at hc
  replace hc := Lib.hid hc
  clear hr h
  go_enter Try.func10, Try.ntmps10
  go_wp2_with (go_at_call 43; refine hc.out.mono ?_; rintro e w' ⟨rfl, hb⟩)
  go_ret
  exact ⟨rfl, hb⟩
theorem z21 (b : Nat) {l0 c0 l1 c1 l2 c2 : Int} {r : Bool} (hr : lessB l2 c2 l1 c1 = r) {w : World} (h : Holds b l0 c0 l1 c1 l2 c2 w) :
    Calls Try.prog 10 #[.slice (some ⟨b, 0, none⟩) 3 3, .int .i64 2, .int .i64 1] w (Post r b l0 c0 l1 c1 l2 c2 w) := by
  have hc : Calls Try.prog 43 #[.slice (some ⟨b, 0, none⟩) 3 3, .int .i64 2, .int .i64 1] w (Post (lessB l2 c2 l1 c1) b l0 c0 l1 c1 l2 c2 w) := lessH b 2 1 (by decide) (by decide) h
  rw [hr] at hc
  replace hc := Lib.hid hc
  clear hr h
  go_enter Try.func10, Try.ntmps10
  go_wp2_with (go_at_call 43; refine hc.out.mono ?_; rintro e w' ⟨rfl, hb⟩)
  go_ret
  exact ⟨rfl, hb⟩
theorem z22 (b : Nat) {l0 c0 l1 c1 l2 c2 : Int} {r : Bool} (hr : lessB l2 c2 l2 c2 = r) {w : World} (h : Holds b l0 c0 l1 c1 l2 c2 w) :
    Calls Try.prog 10 #[.slice (some ⟨b, 0, none⟩) 3 3, .int .i64 2, .int .i64 2] w (Post r b l0 c0 l1 c1 l2 c2 w) := by
  have hc : Calls Try.prog 43 #[.slice (some ⟨b, 0, none⟩) 3 3, .int .i64 2, .int .i64 2] w (Post (lessB l2 c2 l2 c2) b l0 c0 l1 c1 l2 c2 w) := lessH b 2 2 (by decide) (by decide) h
  rw [hr] at hc
  replace hc := Lib.hid hc
  clear hr h
  go_enter Try.func10, Try.ntmps10
  go_wp2_with (go_at_call 43; refine hc.out.mono ?_; rintro e w' ⟨rfl, hb⟩)
  go_ret
  exact ⟨rfl, hb⟩

theorem tot (l c l' c' : Int) : (lessB l c l' c' || lessB l' c' l c) = true := by unfold lessB; rw [Bool.eq_iff_iff]; simp; omega
theorem tra (l c l' c' m d : Int) (h1 : lessB l c l' c' = true) (h2 : lessB l' c' m d = true) : lessB l c m d = true := by
  unfold lessB at *; simp only [Bool.or_eq_true, decide_eq_true_eq, Bool.and_eq_true, beq_iff_eq] at *; omega
theorem rfx (l c : Int) : lessB l c l c = true := by unfold lessB; simp
theorem eqv (l c l' c' : Int) : (lessB l c l' c' && lessB l' c' l c) = ((l == l') && (c == c')) := by
  unfold lessB; rw [Bool.eq_iff_iff]; simp only [Bool.or_eq_true, decide_eq_true_eq, Bool.and_eq_true, beq_iff_eq]; omega

--
theorem blx {b : Nat} {w W w1 : World} (h : Below b w W ∧ b ≤ W.heap.size) (hb : Below W.heap.size W w1) : Below b w w1 ∧ b ≤ w1.heap.size := ⟨h.1.trans (hb.mono h.2), Nat.le_trans h.2 hb.size⟩

def okB (ab ba bc cb ac ca e0 e1 : Bool) : Bool := (ab || ba) && (bc || cb) && (ac || ca) && (!(ab && bc) || ac) && (!(bc && ca) || ba) && (!(ca && ab) || cb) && (!(cb && ba) || ca) && ((ab && ba) == (e0 && e1))
theorem ok_all (l0 c0 l1 c1 l2 c2 : Int) : okB (lessB l0 c0 l1 c1) (lessB l1 c1 l0 c0) (lessB l1 c1 l2 c2) (lessB l2 c2 l1 c1) (lessB l0 c0 l2 c2) (lessB l2 c2 l0 c0) (l0 == l1) (c0 == c1) = true := by
  have t1 := tot l0 c0 l1 c1
  have t2 := tot l1 c1 l2 c2
  have t3 := tot l0 c0 l2 c2
  have r1 := tra l0 c0 l1 c1 l2 c2
  have r2 := tra l1 c1 l2 c2 l0 c0
  have r3 := tra l2 c2 l0 c0 l1 c1
  have r4 := tra l2 c2 l1 c1 l0 c0
  have e := eqv l0 c0 l1 c1
  unfold okB
  rw [t1, t2, t3, e]
  generalize lessB l0 c0 l1 c1 = ab at *
  generalize lessB l1 c1 l0 c0 = ba at *
  generalize lessB l1 c1 l2 c2 = bc at *
  generalize lessB l2 c2 l1 c1 = cb at *
  generalize lessB l0 c0 l2 c2 = ac at *
  generalize lessB l2 c2 l0 c0 = ca at *
  cases ab <;> cases ba <;> cases bc <;> cases cb <;> cases ac <;> cases ca <;> simp_all

set_option maxRecDepth 100000 in
set_option maxHeartbeats 4000000 in
theorem core (l0 c0 l1 c1 l2 c2 : Int) (ab ba bc cb ac ca e0 e1 : Bool) (h01 : lessB l0 c0 l1 c1 = ab) (h10 : lessB l1 c1 l0 c0 = ba) (h12 : lessB l1 c1 l2 c2 = bc) (h21 : lessB l2 c2 l1 c1 = cb) (h02 : lessB l0 c0 l2 c2 = ac) (h20 : lessB l2 c2 l0 c0 = ca)
    (he0 : (l0 == l1) = e0) (he1 : e0 = true → (c0 == c1) = e1) (hok : okB ab ba bc cb ac ca e0 e1 = true) (w : World) :
    Calls Try.prog 3 #[.int .i32 l0, .int .i32 c0, .int .i32 l1, .int .i32 c1, .int .i32 l2, .int .i32 c2] w fun e w' => e = .returned (.bool true) ∧ Below w.heap.size w w' := by
  have h00 := rfx l0 c0
  have h11 := rfx l1 c1
  have h22 := rfx l2 c2
  replace h00 := Lib.hid h00
  replace h11 := Lib.hid h11
  replace h22 := Lib.hid h22
  replace h01 := Lib.hid h01
  replace h10 := Lib.hid h10
  replace h12 := Lib.hid h12
  replace h21 := Lib.hid h21
  replace h02 := Lib.hid h02
  replace h20 := Lib.hid h20
  have hst : ∃ W, W = w.alloc (Obj.cells #[.int .i32 l0, .int .i32 c0, .int .i32 0, .int .i32 0, .int .i32 0, .int .u32 0, .int .i32 l1, .int .i32 c1, .int .i32 0, .int .i32 0, .int .i32 0, .int .u32 0, .int .i32 l2, .int .i32 c2, .int .i32 0, .int .i32 0, .int .i32 0, .int .u32 0] 26) ∧ Holds w.heap.size l0 c0 l1 c1 l2 c2 W ∧ (Below w.heap.size w W ∧ w.heap.size ≤ W.heap.size) := by
    refine ⟨_, rfl, ⟨by simp, fun k hk => ?_⟩, (Below.refl _ _).alloc (Nat.le_refl _) _, by simp⟩
    have : k = 0 ∨ k = 1 ∨ k = 2 := by omega
    rcases this with rfl | rfl | rfl <;> refine ⟨?_, ?_, ?_, ?_, ?_, ?_⟩ <;> simp [go_sem, Lf]
  go_enter Try.func3, Try.ntmps3
  go_wp2_with fail
  obtain ⟨W, hW, hH, hB⟩ := hst
  rw [← hW]
  clear hW
  refine (z01 _ h01.out hH).mono ?_
  clear hH
  rintro e w0 ⟨rfl, hb, hH⟩
  replace hB := blx hB hb
  clear hb
  go_wp2_with fail
  refine (z10 _ h10.out hH).mono ?_
  clear hH
  rintro e w1 ⟨rfl, hb, hH⟩
  replace hB := blx hB hb
  clear hb
  go_wp2_with fail
  refine (z12 _ h12.out hH).mono ?_
  clear hH
  rintro e w2 ⟨rfl, hb, hH⟩
  replace hB := blx hB hb
  clear hb
  go_wp2_with fail
  refine (z21 _ h21.out hH).mono ?_
  clear hH
  rintro e w3 ⟨rfl, hb, hH⟩
  replace hB := blx hB hb
  clear hb
  go_wp2_with fail
  refine (z02 _ h02.out hH).mono ?_
  clear hH
  rintro e w4 ⟨rfl, hb, hH⟩
  replace hB := blx hB hb
  clear hb
  go_wp2_with fail
  refine (z20 _ h20.out hH).mono ?_
  clear hH
  rintro e w5 ⟨rfl, hb, hH⟩
  replace hB := blx hB hb
  clear hb
  go_wp2_with fail
  refine (z00 _ h00.out hH).mono ?_
  clear hH
  rintro e w6 ⟨rfl, hb, hH⟩
  replace hB := blx hB hb
  clear hb
  go_wp2_with fail
  refine (z11 _ h11.out hH).mono ?_
  clear hH
  rintro e w7 ⟨rfl, hb, hH⟩
  replace hB := blx hB hb
  clear hb
  go_wp2_with fail
  refine (z22 _ h22.out hH).mono ?_
  clear hH
  rintro e w8 ⟨rfl, hb, hH⟩
  replace hB := blx hB hb
  clear hb
  clear hH h00 h11 h22 h01 h10 h12 h21 h02 h20
  cases ab <;> cases ba <;> cases bc <;> cases cb <;> cases ac <;> cases ca <;> cases e0 <;> cases e1 <;> first | (exact absurd hok (by decide)) | skip
  all_goals
    clear hok
    first | (replace he1 := he1 rfl) | clear he1
    go_wp2
    go_ret
    exact ⟨rfl, hB.1⟩

theorem walk (a0 : Int) (_w0 : (Lit.int .i32 a0).wf = true) (a1 : Int) (_w1 : (Lit.int .i32 a1).wf = true) (a2 : Int) (_w2 : (Lit.int .i32 a2).wf = true) (a3 : Int) (_w3 : (Lit.int .i32 a3).wf = true) (a4 : Int) (_w4 : (Lit.int .i32 a4).wf = true) (a5 : Int) (_w5 : (Lit.int .i32 a5).wf = true) (w : World) :
    Calls Try.prog 3 #[.int .i32 a0, .int .i32 a1, .int .i32 a2, .int .i32 a3, .int .i32 a4, .int .i32 a5] w fun e w' => e = .returned (.bool true) ∧ Below w.heap.size w w' :=
  core a0 a1 a2 a3 a4 a5 _ _ _ _ _ _ _ _ rfl rfl rfl rfl rfl rfl rfl (fun _ => rfl) (ok_all a0 a1 a2 a3 a4 a5) w
end Go.Proofs.Ytjnbhhfgoigalaa.fnMappingLessTotalPreorder
