/-
  helpers.Joiner.Done, both ways; the comparison of two byte slices that hold the same bytes. Condition: a single byte item lies at offset 0.
-/
import Derived.Test.YtolfajalkbnnoaaJoin4
namespace Go.Proofs.Ytolfajalkbnnoaa.Join
open Go.RowKit Go.ChangeShapes Go.WideShapes Go.ChangeAt Go.Proofs.Ytolfajalkbnnoaa.Ints

theorem fB_all (ss : List (ByteArray × Nat)) (bs : List Bt) (L : Nat) : fB ss bs L bs.length = (absB bs).foldl put ((absS ss).foldl put (List.replicate L 0)) := by simp [fB, fS]
def Gave (w : World) (l : List UInt8) (e : Ending) (w' : World) : Prop := ∃ o n cap, e = .returned (.slice o n cap) ∧ BytesAt w' o n l ∧ Below w.heap.size w w'
theorem done (B J : Nat) (ss : List (ByteArray × Nat)) (bs : List Bt) (L : Nat) (c : Int) (w : World) (h : Jn B w J ss bs L c) (h1 : ss = [] → ∀ x, bs = [x] → x.o = 0) :
    Calls Try.prog 14 #[.pointer (some ⟨J, 0, none⟩)] w (Gave w (doneF (absS ss) (absB bs) L)) := by
  by_cases hsp : ss = [] ∧ ∃ x, bs = [x]
  · obtain ⟨rfl, x, rfl⟩ := hsp
    refine (doneOne B J x L c w h (Lib.hid (h1 rfl x rfl))).mono ?_
    rintro e w' ⟨rfl, rfl⟩
    obtain ⟨sl, bl, hC⟩ := h.ex
    exact ⟨x.a, x.l, x.c, rfl, hC.dat x (by simp), Below.refl _ _⟩
  · have hn : (0 < ss.length ∧ ((ss.length : Int) == 0) = false) ∨ ss.length = 0 ∧ ((bs.length : Int) == 1) = false := by
      match ss, bs, hsp with
      | _ :: ss, bs, _ => exact .inl ⟨by simp, by simp; omega⟩
      | [], [], _ => exact .inr ⟨rfl, rfl⟩
      | [], [x], hsp => exact absurd ⟨rfl, x, rfl⟩ hsp
      | [], _ :: _ :: bs, _ => exact .inr ⟨rfl, by simp; omega⟩
    refine (doneSlow B J ss bs L c w h hn).mono ?_
    rintro e w' ⟨rfl, hF⟩
    have e2 : doneF (absS ss) (absB bs) L = fB ss bs L bs.length := by
      rw [fB_all]
      match ss, bs, hsp with
      | _ :: ss, bs, _ => rfl
      | [], [], _ => rfl
      | [], [x], hsp => exact absurd ⟨rfl, x, rfl⟩ hsp
      | [], _ :: _ :: bs, _ => rfl
    have hb := bytesAt_bc hF.blk
    rw [hF.len] at hb
    exact ⟨_, _, _, rfl, by rw [e2]; exact hb, hF.below⟩
theorem below_drewN {B : Nat} {a w : World} (h : Below B a w) (n : Nat) : Below B a (w.drewN n) := ⟨h.os, h.tape, h.output, h.size, h.block⟩
theorem eqBytes (o o2 : Option Addr) (n cap cap2 : Nat) (l : List UInt8) (w : World) (h : BytesAt w o n l) (h2 : BytesAt w o2 n l) (hn : n ≤ 2097152) :
    Calls Try.prog 13 #[.slice o n cap, .slice o2 n cap2] w fun e w' => e = .returned (.bool true) ∧ Below w.heap.size w w' := by
  go_enter Try.func13, Try.ntmps13
  go_wp2_with fail
  go_loopg [5] n (fun gk i wr => Below w.heap.size w wr ∧ ∃ r : Nat, r ≤ n ∧ gk = n - r ∧ i = .int .i64 r)
  case atStart => exact ⟨Below.refl _ _, 0, Nat.zero_le _, rfl, rfl⟩
  case round =>
    obtain ⟨hB, r, hr, rfl, rfl⟩ := hrel
    rcases Nat.lt_or_ge r n with hlt | hge
    · have hA := h.2
      have hA2 := h2.2
      rcases hA with h0 | ⟨b, off, rfl, ⟨_, _, hb⟩, hc⟩
      · omega
      rcases hA2 with h0 | ⟨b2, off2, rfl, ⟨_, _, hb2⟩, hc2⟩
      · omega
      have g1 := (hB.cell (p := ⟨b, off + r, none⟩) (Array.getElem?_eq_some_iff.1 hb).1).trans (hc r hlt)
      have g2 := (hB.cell (p := ⟨b2, off2 + r, none⟩) (Array.getElem?_eq_some_iff.1 hb2).1).trans (hc2 r hlt)
      clear hb hb2 hc hc2
      go_wp2_with fail
      go_quiet (fail)
      all_goals
        go_wp2_with fail
        go_roundg (n - (r + 1))
        case measure => omega
        case rel => exact ⟨by exact below_drewN hB _, r + 1, by omega, rfl, rfl⟩
    · have hrn : r = n := by omega
      subst hrn
      go_wp2_with fail
      go_ret
      exact ⟨rfl, hB⟩
theorem eqBytes2 (o o2 : Option Addr) (n cap cap2 : Nat) (l : List UInt8) (w : World) (h : BytesAt w o n l) (h2 : BytesAt w o2 n l) (hn : n ≤ 2097152) :
    Calls Try.prog 19 #[.slice o n cap, .slice o2 n cap2] w fun e w' => e = .returned (.bool true) ∧ Below w.heap.size w w' := by
  go_enter Try.func19, Try.ntmps19
  go_wp2_with fail
  go_loopg [5] n (fun gk i wr => Below w.heap.size w wr ∧ ∃ r : Nat, r ≤ n ∧ gk = n - r ∧ i = .int .i64 r)
  case atStart => exact ⟨Below.refl _ _, 0, Nat.zero_le _, rfl, rfl⟩
  case round =>
    obtain ⟨hB, r, hr, rfl, rfl⟩ := hrel
    rcases Nat.lt_or_ge r n with hlt | hge
    · have hA := h.2
      have hA2 := h2.2
      rcases hA with h0 | ⟨b, off, rfl, ⟨_, _, hb⟩, hc⟩
      · omega
      rcases hA2 with h0 | ⟨b2, off2, rfl, ⟨_, _, hb2⟩, hc2⟩
      · omega
      have g1 := (hB.cell (p := ⟨b, off + r, none⟩) (Array.getElem?_eq_some_iff.1 hb).1).trans (hc r hlt)
      have g2 := (hB.cell (p := ⟨b2, off2 + r, none⟩) (Array.getElem?_eq_some_iff.1 hb2).1).trans (hc2 r hlt)
      clear hb hb2 hc hc2
      go_wp2_with fail
      go_quiet (fail)
      all_goals
        go_wp2_with fail
        go_roundg (n - (r + 1))
        case measure => omega
        case rel => exact ⟨by exact below_drewN hB _, r + 1, by omega, rfl, rfl⟩
    · have hrn : r = n := by omega
      subst hrn
      go_wp2_with fail
      go_ret
      exact ⟨rfl, hB⟩
/-- A single item at offset 0 of a buffer of its own length gives its own bytes. -/
theorem put_one (d : List UInt8) : put (List.replicate d.length 0) (d, 0) = d := by simp [put]
theorem doneF_comm (l : List (List UInt8 × Nat)) (L : Nat) (h : ∀ d o, l = [(d, o)] → o = 0 ∧ L = d.length) : doneF [] l L = doneF l [] L := by
  match l, h with
  | [], _ => rfl
  | [(d, o)], h =>
    obtain ⟨rfl, rfl⟩ := h d o rfl
    show d = put (List.replicate d.length 0) (d, 0)
    rw [put_one]
  | _ :: _ :: _, _ => rfl
end Go.Proofs.Ytolfajalkbnnoaa.Join
