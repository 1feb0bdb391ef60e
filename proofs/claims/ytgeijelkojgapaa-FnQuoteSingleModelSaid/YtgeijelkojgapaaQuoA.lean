/-
  zzAppendUTF8, canPrintWithoutEscape and utf8.RuneLen. Condition: runes that are no surrogates.
-/
import Derived.Test.YtgeijelkojgapaaQuoP
import Derived.Test.YtgeijelkojgapaaQuoL
namespace Go.Proofs.Ytgeijelkojgapaa.QuoA
open Go.RowKit Go.Lib Go.ChangeShapes Go.WideShapes Go.ChangeAt Go.Proofs.Ytgeijelkojgapaa.U8 Go.Proofs.Ytgeijelkojgapaa.QuoD Go.Proofs.Ytgeijelkojgapaa.QuoM Go.Proofs.Ytgeijelkojgapaa.QuoL Go.Proofs.Ytgeijelkojgapaa.QuoP

def Prints (a : Bool) (c : Nat) (w : World) (e : Ending) (w' : World) : Prop := e = .returned (.bool (pr a c)) ∧ w = w'
theorem prints {a b : Bool} {c : Nat} {w : World} (h : pr a c = b) : Prints a c w (.returned (.bool b)) w := ⟨by rw [h], rfl⟩
set_option maxRecDepth 20000 in
theorem canPr (c : Nat) (a : Bool) (w : World) (hc : c ≤ 1114111) (hs : c < 55296 ∨ 57343 < c) : Calls Try.prog 25 #[.int .i32 c, .bool a] w (Prints a c w) := by
  by_cases h1 : c ≤ 126
  · by_cases h2 : 32 ≤ c
    · by_cases h3 : c = 92
      · subst h3
        go_enter Try.func25, Try.ntmps25
        go_wp2_with fail
        go_ret
        exact prints (by simp [pr])
      by_cases h4 : c = 34
      · subst h4
        go_enter Try.func25, Try.ntmps25
        go_wp2_with fail
        go_ret
        exact prints (by simp [pr])
      have hp := Lib.hid (show pr a c = true from by simp [pr, h1, h2, h3, h4])
      have g1 : (c : Int) ≤ 126 := by omega
      have g2 : 32 ≤ (c : Int) := by omega
      have g3 : ¬ (c : Int) = 92 := by omega
      have g4 : ¬ (c : Int) = 34 := by omega
      clear h1 h2 h3 h4 hs hc
      go_enter Try.func25, Try.ntmps25
      go_wp2_with fail
      go_ret
      exact prints (hp.out.trans (by first | done | rfl | (simp; done) | (simp; omega)))
    · have hp := Lib.hid (show pr a c = false from by simp [pr, h1, h2])
      have g1 : (c : Int) ≤ 126 := by omega
      have g2 : ¬ 32 ≤ (c : Int) := by omega
      clear h1 h2 hs hc
      go_enter Try.func25, Try.ntmps25
      go_wp2_with fail
      go_ret
      exact prints (hp.out.trans (by first | done | rfl | (simp; done) | (simp; omega)))
  · have g1 : ¬ (c : Int) ≤ 126 := by omega
    cases a
    · by_cases h2 : c = 65279
      · subst h2
        go_enter Try.func25, Try.ntmps25
        go_wp2_with fail
        go_ret
        exact prints (by simp [pr])
      have hp := Lib.hid (show pr false c = true from by simp [pr, h1, h2])
      have g2 : ¬ (c : Int) = 65279 := by omega
      rcases hs with hs | hs
      · have g3 : (c : Int) < 55296 := by omega
        clear h1 h2 hs hc
        go_enter Try.func25, Try.ntmps25
        go_wp2_with fail
        go_ret
        exact prints (hp.out.trans (by first | done | rfl | (simp; done) | (simp; omega)))
      · have g3 : ¬ (c : Int) < 55296 := by omega
        have g4 : 57343 < (c : Int) := by omega
        clear h1 h2 hs hc
        go_enter Try.func25, Try.ntmps25
        go_wp2_with fail
        go_ret
        exact prints (hp.out.trans (by first | done | rfl | (simp; done) | (simp; omega)))
    · have hp := Lib.hid (show pr true c = false from by simp [pr, h1])
      clear h1 hs hc
      go_enter Try.func25, Try.ntmps25
      go_wp2_with fail
      go_ret
      exact prints (hp.out.trans (by first | done | rfl | (simp; done) | (simp; omega)))
def Len4 (w : World) (e : Ending) (w' : World) : Prop := ∃ n : Nat, n ≤ 4 ∧ e = .returned (.int .i64 n) ∧ w = w'
set_option maxRecDepth 20000 in
theorem runeLen (c : Nat) (w : World) (hc : c ≤ 1114111) (hs : c < 55296 ∨ 57343 < c) : Calls Try.prog 24 #[.int .i32 c] w (Len4 w) := by
  have g0 : ¬ (c : Int) < 0 := by omega
  have g9 : (c : Int) ≤ 1114111 := by omega
  by_cases h1 : (c : Int) ≤ 127
  · clear hs hc
    go_enter Try.func24, Try.ntmps24
    go_wp2_with fail
    go_ret
    exact ⟨1, by omega, rfl, rfl⟩
  by_cases h2 : (c : Int) ≤ 2047
  · clear hs hc
    go_enter Try.func24, Try.ntmps24
    go_wp2_with fail
    go_ret
    exact ⟨2, by omega, rfl, rfl⟩
  by_cases h3 : (c : Int) < 55296
  · have h4 : (c : Int) ≤ 65535 := by omega
    have h5 : ¬ 55296 ≤ (c : Int) := by omega
    clear hs hc
    go_enter Try.func24, Try.ntmps24
    go_wp2_with fail
    go_ret
    exact ⟨3, by omega, rfl, rfl⟩
  have h4 : 57343 < (c : Int) := by omega
  have h5 : 55296 ≤ (c : Int) := by omega
  have h7 : ¬ (c : Int) ≤ 57343 := by omega
  by_cases h6 : (c : Int) ≤ 65535
  · clear hs hc
    go_enter Try.func24, Try.ntmps24
    go_wp2_with fail
    go_ret
    exact ⟨3, by omega, rfl, rfl⟩
  · clear hs hc
    go_enter Try.func24, Try.ntmps24
    go_wp2_with fail
    go_ret
    exact ⟨4, by omega, rfl, rfl⟩
theorem or_of (i : Nat) (x y : Nat) (hx : x % 2 ^ i = 0) (hx1 : x < 2 ^ 30) (hy : y < 2 ^ i) (hi : i ≤ 18) (X Y : Int) (eX : X = (x : Int)) (eY : Y = (y : Int)) : bits .or .i32 X Y = ((x + y : Nat) : Int) := by
  subst eX eY
  exact jn i x y hx hx1 hy hi
theorem and63 (x : Nat) (hx : x < 2147483648) : bits .and .i32 (x : Int) 63 = ((x % 64 : Nat) : Int) := by
  have m := bits_mask .i32 31 (by decide) wraps_i32 6 (by decide) x (by omega) (by omega)
  rw [show ((2 : Int) ^ 6 - 1) = 63 from by decide] at m
  rw [m]
  simp
theorem and63' (x : Nat) (hx : x < 2147483648) (X : Int) (e : X = (x : Int)) : bits .and .i32 X 63 = ((x % 64 : Nat) : Int) := by subst e; exact and63 x hx
section
variable (B : Nat) (v : Value) (n : Nat) (xs : List Value) (W0 w : World) (hn : n ≤ 100000000) (hb : OwnBuf B 5 v n xs W0 w)
include hn hb
set_option maxRecDepth 20000 in
set_option maxHeartbeats 4000000 in
theorem appU1 (c : Nat) (hc : c < 128) : Calls Try.prog 21 #[v, .int .i32 c] w (Grew B n xs (enc c) W0) := by
  obtain ⟨i0, hi, hz0, hz1, hz2⟩ := info_parts info8
  have hh : Hid (enc c = [(c : Int)]) := Lib.hid (by rw [enc, if_pos hc])
  have g1 : (c : Int) < 128 := by omega
  replace hb := Lib.hid hb
  replace hi := Lib.hid hi
  clear hc
  go_enter Try.func21, Try.ntmps21
  go_wp2_with (at_builtin; refine wpList_append_many rfl (.tmp 7) (.tmp 10) _ rfl B 5 i0 Try.underlying24 hi.out hz0 hz1 hz2 v n xs rfl W0 w [(c : Int)] hb.out 1 rfl rfl (by omega) ?_; intro v' w' hb')
  go_ret
  rw [hh.out]
  exact ⟨v', rfl, hb'⟩
set_option maxRecDepth 20000 in
set_option maxHeartbeats 4000000 in
theorem appU2 (c : Nat) (h1 : 128 ≤ c) (h2 : c < 2048) : Calls Try.prog 21 #[v, .int .i32 c] w (Grew B n xs (enc c) W0) := by
  obtain ⟨i0, hi, hz0, hz1, hz2⟩ := info_parts info8
  have a1 : bits .and .i32 (c : Int) 63 = (c : Int) % 64 := by rw [and63 c (by omega)]; simp
  have a2 : bits .and .i32 ((c : Int) / 64) 63 = (c : Int) / 64 % 64 := by rw [and63' (c / 64) (by omega) _ (by omega)]; omega
  have a3 : bits .and .i32 ((c : Int) / 4096) 63 = (c : Int) / 4096 % 64 := by rw [and63' (c / 4096) (by omega) _ (by omega)]; omega
  have o1 := or_of 6 192 (c / 64) (by decide) (by decide) (by omega) (by decide) 192 ((c : Int) / 64) rfl (by omega)
  obtain ⟨x1, e1⟩ : ∃ x, x = 192 + c / 64 := ⟨_, rfl⟩
  have hh : Hid (enc c = [(x1 : Int), 128 + (c : Int) % 64]) := Lib.hid (by rw [enc, if_neg (by omega), if_pos h2, e1]; simp)
  have l1 : x1 < 256 := by omega
  rw [← e1] at o1
  have g1 : ¬ (c : Int) < 128 := by omega
  have g2 : (c : Int) < 2048 := by omega
  replace hb := Lib.hid hb
  replace hi := Lib.hid hi
  clear e1 h1 h2
  go_enter Try.func21, Try.ntmps21
  go_wp2_with (at_builtin; refine wpList_append_many rfl (.tmp 14) (.tmp 23) _ rfl B 5 i0 Try.underlying24 hi.out hz0 hz1 hz2 v n xs rfl W0 w [(x1 : Int), 128 + (c : Int) % 64] hb.out 2 rfl rfl (by omega) ?_; intro v' w' hb')
  go_ret
  rw [hh.out]
  exact ⟨v', rfl, hb'⟩
set_option maxRecDepth 20000 in
set_option maxHeartbeats 4000000 in
theorem appU3 (c : Nat) (h1 : 2048 ≤ c) (h2 : c < 65536) : Calls Try.prog 21 #[v, .int .i32 c] w (Grew B n xs (enc c) W0) := by
  obtain ⟨i0, hi, hz0, hz1, hz2⟩ := info_parts info8
  have a1 : bits .and .i32 (c : Int) 63 = (c : Int) % 64 := by rw [and63 c (by omega)]; simp
  have a2 : bits .and .i32 ((c : Int) / 64) 63 = (c : Int) / 64 % 64 := by rw [and63' (c / 64) (by omega) _ (by omega)]; omega
  have a3 : bits .and .i32 ((c : Int) / 4096) 63 = (c : Int) / 4096 % 64 := by rw [and63' (c / 4096) (by omega) _ (by omega)]; omega
  have o1 := or_of 4 224 (c / 4096) (by decide) (by decide) (by omega) (by decide) 224 ((c : Int) / 4096) rfl (by omega)
  obtain ⟨x1, e1⟩ : ∃ x, x = 224 + c / 4096 := ⟨_, rfl⟩
  have hh : Hid (enc c = [(x1 : Int), 128 + (c : Int) / 64 % 64, 128 + (c : Int) % 64]) := Lib.hid (by rw [enc, if_neg (by omega), if_neg (by omega), if_pos h2, e1]; simp)
  have l1 : x1 < 256 := by omega
  rw [← e1] at o1
  have g1 : ¬ (c : Int) < 128 := by omega
  have g2 : ¬ (c : Int) < 2048 := by omega
  have g3 : (c : Int) < 65536 := by omega
  replace hb := Lib.hid hb
  replace hi := Lib.hid hi
  clear e1 h1 h2
  go_enter Try.func21, Try.ntmps21
  go_wp2_with (at_builtin; refine wpList_append_many rfl (.tmp 27) (.tmp 41) _ rfl B 5 i0 Try.underlying24 hi.out hz0 hz1 hz2 v n xs rfl W0 w [(x1 : Int), 128 + (c : Int) / 64 % 64, 128 + (c : Int) % 64] hb.out 3 rfl rfl (by omega) ?_; intro v' w' hb')
  go_ret
  rw [hh.out]
  exact ⟨v', rfl, hb'⟩
set_option maxRecDepth 20000 in
set_option maxHeartbeats 4000000 in
theorem appU4 (c : Nat) (h1 : 65536 ≤ c) (h2 : c ≤ 1114111) : Calls Try.prog 21 #[v, .int .i32 c] w (Grew B n xs (enc c) W0) := by
  obtain ⟨i0, hi, hz0, hz1, hz2⟩ := info_parts info8
  have a1 : bits .and .i32 (c : Int) 63 = (c : Int) % 64 := by rw [and63 c (by omega)]; simp
  have a2 : bits .and .i32 ((c : Int) / 64) 63 = (c : Int) / 64 % 64 := by rw [and63' (c / 64) (by omega) _ (by omega)]; omega
  have a3 : bits .and .i32 ((c : Int) / 4096) 63 = (c : Int) / 4096 % 64 := by rw [and63' (c / 4096) (by omega) _ (by omega)]; omega
  have o1 := or_of 3 240 (c / 262144) (by decide) (by decide) (by omega) (by decide) 240 ((c : Int) / 262144) rfl (by omega)
  obtain ⟨x1, e1⟩ : ∃ x, x = 240 + c / 262144 := ⟨_, rfl⟩
  have hh : Hid (enc c = [(x1 : Int), 128 + (c : Int) / 4096 % 64, 128 + (c : Int) / 64 % 64, 128 + (c : Int) % 64]) := Lib.hid (by rw [enc, if_neg (by omega), if_neg (by omega), if_neg (by omega), e1]; simp)
  have l1 : x1 < 256 := by omega
  rw [← e1] at o1
  have g1 : ¬ (c : Int) < 128 := by omega
  have g2 : ¬ (c : Int) < 2048 := by omega
  have g3 : ¬ (c : Int) < 65536 := by omega
  have g4 : (c : Int) ≤ 1114111 := by omega
  replace hb := Lib.hid hb
  replace hi := Lib.hid hi
  clear e1 h1 h2
  go_enter Try.func21, Try.ntmps21
  go_wp2_with (at_builtin; refine wpList_append_many rfl (.tmp 43) (.tmp 62) _ rfl B 5 i0 Try.underlying24 hi.out hz0 hz1 hz2 v n xs rfl W0 w [(x1 : Int), 128 + (c : Int) / 4096 % 64, 128 + (c : Int) / 64 % 64, 128 + (c : Int) % 64] hb.out 4 rfl rfl (by omega) ?_; intro v' w' hb')
  go_ret
  rw [hh.out]
  exact ⟨v', rfl, hb'⟩
theorem appU (c : Nat) (hc : c ≤ 1114111) : Calls Try.prog 21 #[v, .int .i32 c] w (Grew B n xs (enc c) W0) := by
  by_cases h1 : c < 128
  · exact appU1 B v n xs W0 w hn hb c h1
  by_cases h2 : c < 2048
  · exact appU2 B v n xs W0 w hn hb c (by omega) h2
  by_cases h3 : c < 65536
  · exact appU3 B v n xs W0 w hn hb c (by omega) h3
  · exact appU4 B v n xs W0 w hn hb c (by omega) hc
end
end Go.Proofs.Ytgeijelkojgapaa.QuoA
