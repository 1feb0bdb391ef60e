/-
  The walk of FnIsFileURLPathHeadOnly: it returns true for every four texts. No condition beyond a text's greatest length.
-/
import Derived.Test.YtjnbhhfgoigalaaRows
import Derived.WalkKit
import Derived.Below
import Derived.WalkLawsBesides
import Derived.WalkSpells
import Derived.Lib.Hide
import Derived.Deep.RegionWith
namespace Go.Proofs.Ytjnbhhfgoigalaa.fnIsFileURLPathHeadOnly
open Go.RowKit

def head (s : ByteArray) : Bool := s.data[0]? == some 47
theorem ext01 (s : ByteArray) (h : 1 ≤ s.size) : ((s.extract 0 1).toList == [47]) = head s := by
  rw [ByteArray.toList_eq, ByteArray.data_extract]
  obtain ⟨⟨l⟩⟩ := s
  cases l with
  | nil => simp [ByteArray.size] at h
  | cons x xs => simp [head]
theorem head_empty (s : ByteArray) (h : ¬ 1 ≤ s.size) : head s = false := by
  obtain ⟨⟨l⟩⟩ := s
  cases l with
  | nil => rfl
  | cons x xs => simp [ByteArray.size] at h
theorem hasPrefix (s : ByteArray) (hs : s.size ≤ maxLen) (w : World) : Calls Try.prog 52 #[.string s, .string ⟨#[47]⟩] w fun e w' => e = .returned (.bool (head s)) ∧ w = w' := by
  unfold maxLen at hs
  by_cases h : 1 ≤ s.size
  · have HE := Lib.hid (ext01 s h)
    go_enter Try.func52, Try.ntmps52
    go_wp2
    go_ret
    exact ⟨congrArg (fun b => Ending.returned (.bool b)) HE.out, rfl⟩
  · have HE := Lib.hid (head_empty s h)
    go_enter Try.func52, Try.ntmps52
    go_wp2
    go_ret
    exact ⟨congrArg (fun b => Ending.returned (.bool b)) HE.out.symm, rfl⟩

def okS (s : ByteArray) : Bool := s.toList == [102, 105, 108, 101]
def okH (h : ByteArray) : Bool := h.toList.isEmpty || h.toList == [108, 111, 99, 97, 108, 104, 111, 115, 116]
def fileB (s h p : ByteArray) : Bool := okS s && okH h && head p

set_option maxHeartbeats 1000000 in
theorem parts (s h p : ByteArray) (_hs : s.size ≤ maxLen) (_hh : h.size ≤ maxLen) (hp : p.size ≤ maxLen) (w : World) :
    Calls Try.prog 23 #[.string s, .string h, .string p] w fun e w' => e = .returned (.bool (fileB s h p)) ∧ Below w.heap.size w w' := by
  have HF : fileB s h p = ((s.toList == [102, 105, 108, 101]) && (h.toList.isEmpty || h.toList == [108, 111, 99, 97, 108, 104, 111, 115, 116]) && head p) := rfl
  replace HF := Lib.hid HF
  cases b1 : (s.toList == [102, 105, 108, 101]) <;> cases b2 : h.toList.isEmpty <;> cases b3 : (h.toList == [108, 111, 99, 97, 108, 104, 111, 115, 116])
  all_goals
    rw [b1, b2, b3] at HF
    go_enter Try.func23, Try.ntmps23
    go_wp2_with (first | (go_at_call 52; refine (hasPrefix _ hp _).mono ?_; rintro e w' ⟨rfl, rfl⟩) | go_in)
  all_goals
    go_ret
    refine ⟨congrArg (fun b => Ending.returned (.bool b)) (by rw [HF.out]; try simp), ?_⟩
    repeat (first | exact Below.refl _ _ | refine Below.alloc ?_ (by first | exact Nat.le_refl _ | (simp; done) | (simp; omega)) _)

theorem bl {w W w1 : World} (h : Below w.heap.size w W) (hb : Below W.heap.size W w1) : Below w.heap.size w w1 := h.trans (hb.mono h.size)
def SomeBool (w : World) (e : Ending) (w' : World) : Prop := ∃ r : Bool, e = .returned (.bool r) ∧ w = w'
set_option maxHeartbeats 1000000 in
theorem bytes (s h p q : ByteArray) (hs : s.size ≤ maxLen) (hh : h.size ≤ maxLen) (hp : p.size ≤ maxLen) (hq : q.size ≤ maxLen) (w : World) :
    Calls Try.prog 22 #[.string s, .string h, .string p, .string q] w (SomeBool w) := by
  unfold maxLen at hs hh hp hq
  go_enter Try.func22, Try.ntmps22
  go_wp2
  all_goals (go_ret; exact ⟨_, rfl, rfl⟩)

theorem head_app (p q : ByteArray) (h : 1 ≤ p.size) : head (p ++ q) = head p := by
  obtain ⟨⟨l⟩⟩ := p
  obtain ⟨⟨m⟩⟩ := q
  cases l with
  | nil => simp [ByteArray.size] at h
  | cons x xs => simp [head]
theorem head_one (p : ByteArray) (h : 1 ≤ p.size) : head (p.extract 0 1) = head p := by
  unfold head
  rw [ByteArray.data_extract]
  obtain ⟨⟨l⟩⟩ := p
  cases l with
  | nil => simp [ByteArray.size] at h
  | cons x xs => simp

theorem slice_run (p : ByteArray) (h : 1 ≤ p.size) (w : World) : (Instr.slice 9 (.string p) none (some (.int .i64 1)) none).run Try.prog w = .ok (.string (p.extract 0 1)) w := by
  have h' : (1 : Int) ≤ (p.size : Int) := by omega
  simp [go_sem, h']

set_option maxHeartbeats 2000000 in
theorem walk (a0 : ByteArray) (w0 : a0.size ≤ maxLen) (a1 : ByteArray) (w1 : a1.size ≤ maxLen) (a2 : ByteArray) (w2 : a2.size ≤ maxLen) (a3 : ByteArray) (w3 : a3.size ≤ maxLen) (w : World) :
    Calls Try.prog 6 #[.string a0, .string a1, .string a2, .string a3] w fun e w' => e = .returned (.bool true) ∧ Below w.heap.size w w' := by
  have v0 := w0
  have v1 := w1
  have v2 := w2
  have v3 := w3
  unfold maxLen at v0 v1 v2 v3
  have B := Lib.hid (fun w => bytes a0 a1 a2 a3 w0 w1 w2 w3 w)
  go_enter Try.func6, Try.ntmps6
  go_wp2_with fail
  refine (B.out _).mono ?_
  rintro e w' ⟨r, rfl, rfl⟩
  cases r
  · go_wp2_with fail
    go_ret
    exact ⟨rfl, Below.refl _ _⟩
  by_cases h0 : 262144 < a0.size
  · go_wp2_with fail
    go_ret
    exact ⟨rfl, Below.refl _ _⟩
  by_cases h1 : 262144 < a1.size
  · go_wp2_with fail
    go_ret
    exact ⟨rfl, Below.refl _ _⟩
  by_cases h2 : 262144 < a2.size
  · go_wp2_with fail
    go_ret
    exact ⟨rfl, Below.refl _ _⟩
  by_cases h3 : 262144 < a3.size
  · go_wp2_with fail
    go_ret
    exact ⟨rfl, Below.refl _ _⟩
  by_cases h4 : 1 ≤ a2.size
  · have z : ((a2.size : Int) == 0) = false := by rw [beq_eq_false_iff_ne]; omega
    have hcat : (a2 ++ a3).size ≤ maxLen := by unfold maxLen; rw [ByteArray.size_append]; omega
    have hext : (a2.extract 0 1).size ≤ maxLen := by unfold maxLen; rw [ByteArray.size_extract]; omega
    have HE : Hid (fileB a0 a1 (a2 ++ a3) = fileB a0 a1 (a2.extract 0 1)) := Lib.hid (by unfold fileB; rw [head_app a2 a3 h4, head_one a2 h4])
    have P1 := Lib.hid (fun w => parts a0 a1 (a2 ++ a3) w0 w1 hcat w)
    have P2 := Lib.hid (fun w => parts a0 a1 (a2.extract 0 1) w0 w1 hext w)
    have k2 : a2.size ≤ 262144 := by omega
    have k3 : a3.size ≤ 262144 := by omega
    have hk : (a2.size : Int) + (a3.size : Int) ≤ 9223372036854775807 := by omega
    have hk2 : ¬ (9223372036854775807 < (a2.size : Int) + (a3.size : Int)) := by omega
    have hk3 : ¬ (IntKind.i64.max < (a2.size : Int) + (a3.size : Int)) := by have e : IntKind.i64.max = 9223372036854775807 := rfl; omega
    have hk4 : ¬ (IntKind.i64.max < ((a2.size + a3.size : Nat) : Int)) := by have e : IntKind.i64.max = 9223372036854775807 := rfl; omega
    have hsl := slice_run a2 h4
    clear w0 w1 w2 w3 v0 v1 v2 v3
    go_wp2_with fail
    go_region_with (go_at_call 23; (first | (with_reducible refine (P1.out _).mono ?_) | (with_reducible refine (P2.out _).mono ?_)); rintro e w1 ⟨rfl, hb⟩)
    all_goals
      go_wp2_with fail
      go_ret
      refine ⟨congrArg (fun b => Ending.returned (.bool b)) (by rw [HE.out]; simp), ?_⟩
      repeat (first | exact Below.refl _ _ | exact (Below.refl _ _).drew | refine bl ?_ (by assumption))
  · have z : ((a2.size : Int) == 0) = true := by rw [beq_iff_eq]; omega
    have HF : fileB a0 a1 a2 = false := by unfold fileB; rw [head_empty a2 h4]; simp
    replace HF := Lib.hid HF
    go_wp2_with fail
    refine (parts _ _ _ w0 w1 w2 _).mono ?_
    rintro e w' ⟨rfl, hb⟩
    rw [HF.out]
    go_wp2_with fail
    go_ret
    exact ⟨rfl, hb⟩
end Go.Proofs.Ytjnbhhfgoigalaa.fnIsFileURLPathHeadOnly
