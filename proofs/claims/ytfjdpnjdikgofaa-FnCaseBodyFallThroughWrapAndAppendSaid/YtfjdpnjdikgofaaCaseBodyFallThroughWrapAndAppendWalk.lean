/-
  The walk of FnCaseBodyFallThroughWrapAndAppend: it returns true for every list of codes. No condition.
-/
import Derived.Test.YtfjdpnjdikgofaaCase2
namespace Go.Proofs.Ytfjdpnjdikgofaa.fnCaseBodyFallThroughWrapAndAppend
open Go.RowKit Go.Proofs.Ytfjdpnjdikgofaa.Ints Go.Proofs.Ytfjdpnjdikgofaa.Case

def SomeBool (w : World) (e : Ending) (w' : World) : Prop := ∃ r : Bool, e = .returned (.bool r) ∧ w = w'
theorem bytes (o1 : Option Addr) (n1 c1 : Nat) (w : World) (m1 : n1 ≤ maxLen) :
    Calls Try.prog 36 #[.slice o1 n1 c1] w (SomeBool w) := by
  unfold maxLen at m1
  go_enter Try.func36, Try.ntmps36
  go_wp2
  all_goals
    go_ret
    exact ⟨_, rfl, rfl⟩
theorem zzFall (d : Nat) (o : Option Addr) (n c : Nat) (r : Bool) (w : World) (h : Fall d w (.slice o n c) r) : Calls Try.prog 40 #[.slice o n c] w fun e w' => e = .returned (.bool r) ∧ w = w' := by
  have H := Lib.hid (fall d _ r w h)
  clear h
  go_enter Try.func40, Try.ntmps40
  go_wp2_with fail
  go_at_call 55
  refine H.out.mono ?_
  rintro e w1 ⟨rfl, rfl⟩
  go_wp2_with fail
  go_ret
  exact ⟨rfl, rfl⟩
/-- A list to which one more statement was appended answers as that statement does. -/
theorem last_fall {w0 w : World} {v x : Value} {n : Nat} {xs : List Value} {r : Bool} {t : TypeId} {B : Nat} (own : w.ownsRow w0.heap.size 35 2 v (n + 1) (xs ++ [x, .int .i32 0])) (hv : ¬ v = .slice none 0 0) (hn : n ≤ 65536) (hx : x = .iface t (.pointer (some ⟨B, 0, none⟩))) (hL : Leaf t r) :
    Fall 0 w v r ∧ ∃ a c, v = .slice (some a) (n + 1) c := by
  rcases own.2 with ⟨e, _⟩ | ⟨g, cap, cur, rfl, hb, hh, hle, _, hsz, htk⟩
  · exact absurd e hv
  · refine ⟨.inr ⟨g, n, cap, t, B, rfl, by omega, ?_, hL⟩, _, _, rfl⟩
    have hlen := own.1
    simp at hlen
    have hy : xs.length = n * 2 := by omega
    have hc := own.cells (g := g) rfl (n * 2) x (by rw [← hy]; simp)
    rw [Go.WideShapes.add_plain, Nat.zero_add] at hc
    rw [hc, hx]

set_option maxRecDepth 100000 in
set_option maxHeartbeats 4000000 in
theorem main (o : Option Addr) (n c : Nat) (f : Nat → Int) (w : World) (m1 : n ≤ maxLen) (hI : IntsAt .u8 w o n f) (z1 : o = none → n = 0 ∧ c = 0) (hf : ∀ i, i < n → 0 ≤ f i ∧ f i < 256) :
    Calls Try.prog 8 #[.slice o n c] w fun e w' => e = .returned (.bool true) ∧ Below w.heap.size w w' := by
  obtain ⟨i0, hi, hz0, hz1, hz2⟩ := info_parts infoS
  have hm1 := m1
  unfold maxLen at hm1
  go_enter Try.func8, Try.ntmps8
  go_wp2_with fail
  go_at_call 36
  refine (bytes _ _ _ _ m1).mono ?_
  rintro e w' ⟨r, rfl, rfl⟩
  cases r with
  | false =>
    go_wp2
    go_ret
    exact ⟨rfl, Below.refl _ _⟩
  | true =>
    by_cases big : n ≤ 65536
    · clear hm1
      replace hf := Lib.hid hf
      replace z1 := Lib.hid z1
      go_wp2_with fail
      go_at_call 37
      refine (copy o n c f _ (by omega) hI z1.out).mono ?_
      rintro e w1 ⟨p1, rfl, i1, B1⟩
      clear hI z1
      go_wp2_with fail
      go_at_call 38
      refine (stmts p1 n n 0 f _ big (by omega) i1 hf.out).mono ?_
      rintro e w2 ⟨v2, rfl, L2⟩
      obtain ⟨F2, a2, c2, rfl⟩ := L2.fall (by omega)
      have B2 := B1.trans (L2.below.mono B1.size)
      replace i1 := i1.below L2.below
      clear L2 B1
      go_wp2_with fail
      go_at_call 38
      refine (stmts p1 n n 0 f _ big (by omega) i1 hf.out).mono ?_
      rintro e w3 ⟨v3, rfl, L3⟩
      obtain ⟨F3, a3, c3, rfl⟩ := L3.fall (by omega)
      have B3 := B2.trans (L3.below.mono B2.size)
      replace i1 := i1.below L3.below
      replace F2 := Fall.below L3.below F2
      clear L3 B2
      go_wp2_with fail
      go_at_call 39
      refine (sBlock _ _ _ _).mono ?_
      rintro e w4 ⟨B, hB, rfl, kB, B4⟩
      replace F2 := Fall.below B4 F2
      replace F3 := Fall.below B4 F3
      replace i1 := i1.below B4
      replace B4 := B3.trans (B4.mono B3.size)
      clear B3
      go_wp2_with fail
      go_at_call 40
      have A4 : Below w4.heap.size w4 (w4.alloc (.cells #[.iface 270 (.pointer (some ⟨B, 0, none⟩)), .int .i32 0] 35)) := (Below.refl _ _).alloc (Nat.le_refl _) _
      have k4 : (w4.alloc (.cells #[.iface 270 (.pointer (some ⟨B, 0, none⟩)), .int .i32 0] 35)).cell? ⟨w4.heap.size, 0 * 2, none⟩ = some (.iface 270 (.pointer (some ⟨B, 0, none⟩))) := by go_simp
      generalize w4.alloc (.cells #[.iface 270 (.pointer (some ⟨B, 0, none⟩)), .int .i32 0] 35) = w5 at *
      replace F2 := Fall.below A4 F2
      replace F3 := Fall.below A4 F3
      have F4 : Fall 2 w5 (.slice (some ⟨w4.heap.size, 0, none⟩) 1 1) (lastB f n) := .inr ⟨_, 0, 1, B, _, rfl, by omega, k4, (A4.cell (lt_of_cell kB)).trans kB, F3⟩
      replace i1 := i1.below A4
      replace B4 := B4.trans (A4.mono B4.size)
      clear A4 k4 kB F3 hB
      generalize lastB f n = q at *
      refine (zzFall 1 _ _ _ _ _ F2).mono ?_
      rintro e w' ⟨rfl, rfl⟩
      go_wp2_with fail
      go_at_call 40
      refine (zzFall 2 _ _ _ _ _ F4).mono ?_
      rintro e w' ⟨rfl, rfl⟩
      clear F2 F4
      have hq : (q != q) = false := by cases q <;> rfl
      go_wp2_with fail
      go_at_call 38
      refine (stmts p1 n n 1 f _ big (by omega) i1 hf.out).mono ?_
      rintro e s6 ⟨v6, rfl, L6⟩
      obtain ⟨_, a6, c6, rfl⟩ := L6.fall (by omega)
      obtain ⟨xs6, own6, _⟩ := L6.own
      have G6 := L6.below
      clear L6
      go_wp2_with fail
      go_at_call 41
      refine (sReturn _).mono ?_
      rintro e t6 ⟨E6, rfl, hE6, T6⟩
      replace own6 := own6.kept (grown_of_below T6 none) (by simp [Value.ownBlock])
      have hk1 : n + 1 ≤ maxLen := by simp only [maxLen]; omega
      have hk2 : (n + 1) * 24 ≤ 140737488355328 := by omega
      have hk3 : w5.heap.size ≤ (t6.alloc (.cells #[.iface 273 (.pointer (some ⟨E6, 0, none⟩)), .int .i32 0] 35)).heap.size := by have := T6.size; have := G6.size; simp; omega
      replace G6 := G6.trans (T6.mono G6.size)
      clear T6
      go_wp2_with (at_builtin; refine wpList_append_own _ rfl (.tmp 27) (.tmp 29) _ rfl w5.heap.size 35 i0 (.agg #[.nilIface, .int .i32 0]) 2 24 Try.underlying109 hi hz0 hz1 hz2 rfl (by omega) _ n xs6 rfl (own6.alloc _) ⟨t6.heap.size, 0, none⟩ 1 1 [.iface 273 (.pointer (some ⟨E6, 0, none⟩)), .int .i32 0] rfl rfl (two_new _ _ _ _) (two_cell _ _ _) hk1 hk2 hk3 ?_; intro v' q6 ho hg hn)
      have H6 := G6.alloc G6.size
      have J6 := (H6 _).grown hg (H6 _).size (fun k hk => (own6.lt k hk).1)
      have D63 := B4.trans (J6.mono B4.size)
      obtain ⟨F6, b6, e6, rfl⟩ := last_fall ho (fun h => absurd (hn.1 h).2 (by decide)) big rfl (.inl ⟨.inr (.inr (.inl rfl)), rfl⟩)
      replace i1 := i1.below J6
      clear ho hg hn hk1 hk2 hk3 own6 H6 G6 J6 B4
      go_wp2_with fail
      go_at_call 40
      refine (zzFall 0 _ _ _ _ _ F6).mono ?_
      rintro e w' ⟨rfl, rfl⟩
      clear F6
      go_wp2_with fail
      go_at_call 38
      refine (stmts p1 n n 1 f _ big (by omega) i1 hf.out).mono ?_
      rintro e s7 ⟨v7, rfl, L7⟩
      obtain ⟨_, a7, c7, rfl⟩ := L7.fall (by omega)
      obtain ⟨xs7, own7, _⟩ := L7.own
      have G7 := L7.below
      clear L7
      go_wp2_with fail
      go_at_call 42
      refine (sEmpty _).mono ?_
      rintro e t7 ⟨E7, rfl, hE7, T7⟩
      replace own7 := own7.kept (grown_of_below T7 none) (by simp [Value.ownBlock])
      have hk1 : n + 1 ≤ maxLen := by simp only [maxLen]; omega
      have hk2 : (n + 1) * 24 ≤ 140737488355328 := by omega
      have hk3 : q6.heap.size ≤ (t7.alloc (.cells #[.iface 276 (.pointer (some ⟨E7, 0, none⟩)), .int .i32 0] 35)).heap.size := by have := T7.size; have := G7.size; simp; omega
      replace G7 := G7.trans (T7.mono G7.size)
      clear T7
      go_wp2_with (at_builtin; refine wpList_append_own _ rfl (.tmp 34) (.tmp 36) _ rfl q6.heap.size 35 i0 (.agg #[.nilIface, .int .i32 0]) 2 24 Try.underlying109 hi hz0 hz1 hz2 rfl (by omega) _ n xs7 rfl (own7.alloc _) ⟨t7.heap.size, 0, none⟩ 1 1 [.iface 276 (.pointer (some ⟨E7, 0, none⟩)), .int .i32 0] rfl rfl (two_new _ _ _ _) (two_cell _ _ _) hk1 hk2 hk3 ?_; intro v' q7 ho hg hn)
      have H7 := G7.alloc G7.size
      have J7 := (H7 _).grown hg (H7 _).size (fun k hk => (own7.lt k hk).1)
      have D73 := D63.trans (J7.mono D63.size)
      obtain ⟨F7, b7, e7, rfl⟩ := last_fall ho (fun h => absurd (hn.1 h).2 (by decide)) big rfl (.inr ⟨.inr rfl, rfl⟩)
      replace i1 := i1.below J7
      clear ho hg hn hk1 hk2 hk3 own7 H7 G7 J7 D63
      go_wp2_with fail
      go_at_call 40
      refine (zzFall 0 _ _ _ _ _ F7).mono ?_
      rintro e w' ⟨rfl, rfl⟩
      clear F7
      go_wp2_with fail
      go_ret
      exact ⟨rfl, D73⟩
    · go_wp2
      all_goals first | omega | (go_ret; exact ⟨rfl, Below.refl _ _⟩)

set_option maxRecDepth 100000 in
theorem walk (W : World) {H : Type} {enc : TypeId × Value → H} {base : Nat} {p0 : List MemPlace} (v0 : Value) (d0 : DataW H) (k0 : Value.okWide Try.prog W .any base 60 v0) (h0 : DataW.Trod enc Try.prog W 0 (fun _ => true) true 60 v0 d0 p0) :
    Calls Try.prog 8 #[v0] W fun e w' => e = .returned (.bool true) ∧ Below W.heap.size W w' := by
  have e1 : IntKind.u8.min = 0 := rfl
  have e2 : IntKind.u8.max = 255 := rfl
  obtain ⟨o1, n1, c1, f1, rfl, x1, y1, i1, g1, z1⟩ := openInts (k := .u8) Try.underlying60 Try.underlying5 (by kernel_rfl) k0 h0
  refine main o1 n1 c1 f1 W (Nat.le_trans x1 y1) i1 z1 (fun i hi => ?_)
  have : 0 ≤ f1 i ∧ f1 i ≤ 255 := by simpa [Lit.wf, e1, e2] using g1 i hi
  omega
end Go.Proofs.Ytfjdpnjdikgofaa.fnCaseBodyFallThroughWrapAndAppend
