/-
  The walk of FnPercentDataURLDecodesBackAndIsURLSafe: it returns true for every two strings, where utf8's two tables hold what their initialisers lay. No other condition.
-/
import Derived.Test.YtgeijelkojgapaaDoorPctE
import Derived.Test.YtgeijelkojgapaaDoorPctD
namespace Go.Proofs.YtgeijelkojgapaaDoor.fnPercentDataURLDecodesBackAndIsURLSafe
open Go.RowKit Go.Lib Go.Proofs.YtgeijelkojgapaaDoor.U8 Go.Proofs.YtgeijelkojgapaaDoor.Pct

abbrev Pf (m : ByteArray) : ByteArray := DS ++ m ++ ⟨#[44]⟩
theorem G_eq (m s : ByteArray) (ts : Nat) : G m s ts = Pf m ++ Pay s ts := by
  apply ByteArray.ext
  simp [G, Pay, Pf]
theorem ext0 (P Q : ByteArray) : (P ++ Q).extract 0 P.size = P := by
  apply ByteArray.ext
  simp [Array.extract_append]
theorem ext1 (P Q : ByteArray) : (P ++ Q).extract P.size (P ++ Q).size = Q := by
  apply ByteArray.ext
  simp [Array.extract_append]
  have h1 : P.data.size = P.size := rfl
  have h2 : Q.data.size = Q.size := rfl
  rw [← h2, Array.extract_size]
  rw [Array.extract_empty_of_size_le_start (by omega)]
  simp
theorem safe (s : ByteArray) (ts k : Nat) (h : k < (Pay s ts).size) : bt (Pay s ts) k ≠ 9 ∧ bt (Pay s ts) k ≠ 10 ∧ bt (Pay s ts) k ≠ 13 ∧ bt (Pay s ts) k ≠ 35 :=
  seg_safe (bt_lt s) 0 s.size _ (List.mem_of_getElem? (pay_get s ts k h))
theorem lastB (s : ByteArray) (ts k : Nat) (ht : Trail (bt s) s.size ts) (h : k + 1 = (Pay s ts).size) : 32 < bt (Pay s ts) k := by
  have hg := pay_get s ts k (by omega)
  have hl := pay_size s ts
  obtain ⟨n, hn⟩ : ∃ n, s.size = n + 1 := by
    cases hs : s.size with
    | zero => rw [hs, seg] at hl; simp only [List.length_nil] at hl; omega
    | succ n => exact ⟨n, rfl⟩
  have hlast := seg_last (bt_lt s) ht 0 n (by omega)
  rw [← hn] at hlast
  refine hlast _ ?_
  rw [List.getLast?_eq_getElem?, ← hl, show (Pay s ts).size - 1 = k by omega]
  exact hg
set_option maxRecDepth 100000 in
set_option maxHeartbeats 4000000 in
theorem main (m s : ByteArray) (w : World) (hm : m.size ≤ maxLen) (hs : s.size ≤ maxLen) (hT : Utf8Tabs 0 1 w) :
    Calls Tryd.prog 3 #[.string m, .string s] w fun e w' => e = .returned (.bool true) ∧ Below w.heap.size w w' := by
  have hm' := hm
  have hs' := hs
  unfold maxLen at hm' hs'
  go_enter Tryd.func3, Tryd.ntmps3
  go_wp2_with fail
  go_at_call 4
  refine (bytes4 m s _ hm hs).mono ?_
  rintro e w' ⟨b, rfl, rfl⟩
  cases b with
  | false =>
    go_wp2_with fail
    go_ret
    exact ⟨rfl, Below.refl _ _⟩
  | true =>
    by_cases h1 : (524288 : Int) < (m.size : Int)
    · go_wp2_with fail
      go_ret
      exact ⟨rfl, Below.refl _ _⟩
    by_cases h2 : (524288 : Int) < (s.size : Int)
    · go_wp2_with fail
      go_ret
      exact ⟨rfl, Below.refl _ _⟩
    go_wp2_with fail
    go_at_call 5
    refine (encode m s _ (by omega) (by omega) hT).mono ?_
    rintro e w1 ⟨B1, rfl | ⟨ts, hTr, rfl⟩⟩
    · go_wp2_with fail
      go_ret
      exact ⟨rfl, B1⟩
    rw [G_eq]
    have x0 := ext0 (Pf m) (Pay s ts)
    have x1 := ext1 (Pf m) (Pay s ts)
    have hPf : (Pf m).size = m.size + 6 := by
      have : DS.size = 5 := rfl
      have h44 : (⟨#[44]⟩ : ByteArray).size = 1 := rfl
      simp only [Pf, ByteArray.size_append]
      omega
    have hpl : (Pay s ts).size ≤ 3 * s.size := by rw [pay_size]; exact seg_len 0 s.size
    have hsz : (Pf m ++ Pay s ts).size = (Pf m).size + (Pay s ts).size := ByteArray.size_append
    have hdc := Pct.decode s ts w1 (by omega)
    have hsafe := safe s ts
    have hlast := fun k => lastB s ts k hTr
    replace hTr := Lib.hid hTr
    go_wp2_with fail
    rw [show ({ data := #[100, 97, 116, 97, 58] } ++ m ++ { data := #[44] } : ByteArray) = Pf m from rfl]
    generalize Pf m = P at *
    generalize hQ : Pay s ts = Q at *
    generalize P ++ Q = R at *
    have c1 := hasPre R P w1 (by omega) (by omega) x0
    have l1 : (P.size : Int) ≤ (R.size : Int) := by omega
    replace hQ := Lib.hid hQ
    replace B1 := Lib.hid B1
    replace hsafe := Lib.hid hsafe
    replace hlast := Lib.hid hlast
    replace hsz := Lib.hid hsz
    replace hPf := Lib.hid hPf
    clear x0
    go_at_call 6
    refine c1.mono ?_
    rintro e w2 ⟨rfl, rfl⟩
    clear c1
    go_wp2_with fail
    go_at_call 7
    refine hdc.mono ?_
    rintro e w3 ⟨rfl, B3⟩
    have B4 := Lib.hid (B1.out.trans (B3.mono B1.out.size))
    clear B3 hdc
    go_wp2_with fail
    go_loopg [9] Q.size (fun g iv wr => wr = w3 ∧ ∃ k : Nat, k ≤ Q.size ∧ g = Q.size - k ∧ iv = .int .i64 k)
    case atStart => exact ⟨rfl, 0, Nat.zero_le _, rfl, rfl⟩
    case round =>
      obtain ⟨rfl, k, hk, rfl, rfl⟩ := hrel
      rcases Nat.lt_or_ge k Q.size with hlt | hge
      · obtain ⟨s1, s2, s3, s4⟩ := hsafe.out k hlt
        have e1 := bt_eq Q k hlt
        have n9 : ((bt Q k : Int) == 9) = false := by simp; omega
        have n10 : ((bt Q k : Int) == 10) = false := by simp; omega
        have n13 : ((bt Q k : Int) == 13) = false := by simp; omega
        have n35 : ((bt Q k : Int) == 35) = false := by simp; omega
        clear s1 s2 s3 s4
        go_wp2_with fail
        go_roundg (Q.size - (k + 1))
        case measure => omega
        case rel => exact ⟨rfl, k + 1, by omega, rfl, by simp⟩
      · obtain rfl : k = Q.size := by omega
        cases hz : Q.size with
        | zero =>
          have l0 : ¬ (0 : Int) < (Q.size : Int) := by omega
          go_wp2_with fail
          go_ret
          exact ⟨rfl, B4.out⟩
        | succ z =>
          have hl := hlast.out z hz.symm
          have e1 := bt_eq Q z (by omega)
          have l0 : (0 : Int) < (Q.size : Int) := by omega
          have l2 : ¬ (bt Q z : Int) ≤ 32 := by omega
          go_wp2_with fail
          go_ret
          exact ⟨rfl, B4.out⟩
theorem walk (W : World) (a0 : ByteArray) (w0 : a0.size ≤ maxLen) (a1 : ByteArray) (w1 : a1.size ≤ maxLen) (hT : Utf8Tabs 0 1 W) :
    Calls Tryd.prog 3 #[.string a0, .string a1] W fun e w' => e = .returned (.bool true) ∧ Below W.heap.size W w' := main a0 a1 W w0 w1 hT
end Go.Proofs.YtgeijelkojgapaaDoor.fnPercentDataURLDecodesBackAndIsURLSafe
