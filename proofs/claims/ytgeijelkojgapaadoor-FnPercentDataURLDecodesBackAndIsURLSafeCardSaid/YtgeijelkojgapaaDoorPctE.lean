/-
  EncodeStringAsPercentEscapedDataURL: the text byte for byte, some bytes as a percent sign and two digits, or a refusal. Condition: utf8's two tables as their initialisers lay them; lengths.
-/
import Derived.Test.YtgeijelkojgapaaDoorPctA
import Derived.Test.YtgeijelkojgapaaDoorBld
import Derived.Test.YtgeijelkojgapaaDoorShelfPct
import Derived.LoopN
import Derived.Deep.LoopGhost
import Derived.Deep.CutRange
import Derived.Lib.Hide
namespace Go.Proofs.YtgeijelkojgapaaDoor.Pct
open Go.RowKit Go.Lib Go.Proofs.YtgeijelkojgapaaDoor.U8 Go.Proofs.YtgeijelkojgapaaDoor.Bld

theorem wraps_i32 (n : Int) (h₀ : 0 ≤ n) (h₁ : n < 2 ^ 31) : IntKind.i32.wrap n = n := by
  simp [IntKind.wrap, IntKind.bits, IntKind.signed]
  omega
theorem and15 (x : Nat) (hx : x < 2147483648) : bits .and .i32 (x : Int) 15 = ((x % 16 : Nat) : Int) := by
  have m := bits_mask .i32 31 (by decide) wraps_i32 4 (by decide) x (by omega) (by omega)
  rw [show ((2 : Int) ^ 4 - 1) = 15 from by decide] at m
  rw [m]
  simp
theorem hexD (x : Nat) (h : x < 16) : bt ⟨#[48, 49, 50, 51, 52, 53, 54, 55, 56, 57, 65, 66, 67, 68, 69, 70]⟩ x = hd x := by
  have t : ∀ y : Fin 16, bt ⟨#[48, 49, 50, 51, 52, 53, 54, 55, 56, 57, 65, 66, 67, 68, 69, 70]⟩ y.val = hd y.val := by decide +kernel
  exact t ⟨x, h⟩
def DS : ByteArray := ⟨#[100, 97, 116, 97, 58]⟩
def pre (m : ByteArray) : List Value := strCells DS ++ strCells m ++ [.int .u8 44]
def G (m s : ByteArray) (ts : Nat) : ByteArray := ⟨(DS.data.toList ++ m.data.toList ++ [44] ++ bytesN (seg (bt s) s.size ts 0 s.size)).toArray⟩
def Enc (m s : ByteArray) (w : World) (e : Ending) (w' : World) : Prop := Below w.heap.size w w' ∧
  (e = .returned (.tuple #[.string ⟨#[]⟩, .bool false]) ∨ ∃ ts, Trail (bt s) s.size ts ∧ e = .returned (.tuple #[.string (G m s ts), .bool true]))
set_option maxRecDepth 100000 in
set_option maxHeartbeats 8000000 in
theorem encode (m s : ByteArray) (w : World) (hm : m.size ≤ 524288) (hs : s.size ≤ 524288) (hT : Utf8Tabs 0 1 w) :
    Calls Tryd.prog 5 #[.string m, .string s] w (Enc m s w) := by
  go_enter Tryd.func5, Tryd.ntmps5
  go_upto_region 6 with fail
  have hTB : ∀ W', Below w.heap.size w W' → Utf8Tabs 0 1 W' := fun _ h => Utf8Tabs_below hT h
  have hb0 : Is w.heap.size w.heap.size [] (w.alloc (.cells #[.pointer none, .slice none 0 0] 29 (0, 0))) := fresh_isBuilder _ _ w
  have hB0 : Below w.heap.size w (w.alloc (.cells #[.pointer none, .slice none 0 0] 29 (0, 0))) := (Below.refl _ _).alloc (Nat.le_refl _) _
  generalize (w.alloc _) = w0 at hb0 hB0 ⊢
  obtain ⟨B, hB⟩ : ∃ B, w.heap.size = B := ⟨_, rfl⟩
  rw [hB] at hb0 hB0 hTB ⊢
  have hS : ∀ W', Below B w W' → B ≤ W'.heap.size := fun W' h => hB ▸ h.size
  replace hB := Lib.hid hB
  replace hTB := Lib.hid hTB
  replace hT := Lib.hid hT
  replace hS := Lib.hid hS
  go_wp2_with fail
  go_at_call 8
  refine (writeString B B [] DS _ hb0 (by simp; decide) (hS.out _ hB0)).mono ?_
  rintro e w1 ⟨rfl, hb1, hB1⟩
  replace hB1 := hB0.trans hB1
  clear hb0 hB0
  go_wp2_with fail
  go_at_call 8
  refine (writeString B B _ m _ (.inr hb1) (by simp [strCells_length]; have : DS.size = 5 := rfl; omega) (hS.out _ hB1)).mono ?_
  rintro e w2 ⟨rfl, hb2, hB2⟩
  replace hB2 := hB1.trans hB2
  clear hb1 hB1
  go_wp2_with fail
  go_at_call 9
  refine (writeByte B B _ 44 _ (.inr hb2) (by simp [strCells_length]; have : DS.size = 5 := rfl; omega) (hS.out _ hB2)).mono ?_
  rintro e w3 ⟨rfl, hb3, hB3⟩
  replace hB3 := hB2.trans hB3
  clear hb2 hB2
  replace hb3 : At B B (pre m ++ cellsN (seg (bt s) s.size 0 0 0)) w3 := by
    have e : pre m ++ cellsN (seg (bt s) s.size 0 0 0) = [] ++ strCells DS ++ strCells m ++ [.int .u8 44] := by simp [pre, seg, cellsN]
    rw [e]
    exact hb3
  replace hb3 := Lib.hid hb3
  replace hB3 := Lib.hid hB3
  go_upto_region 9 with fail
  iterate 11 (first | go_skip | go_guarded | go_step | go_upon | go_back)
  go_cut [11] from 11 to 44 (fun t wx => wx = w3 ∧ ∃ ts : Nat, t = .int .i64 ts ∧ Trail (bt s) s.size ts ∧ ∀ j, ts ≤ j → j < s.size → bt s j ≤ 32)
  case first =>
    go_wp2_with fail
    go_loopg [11] s.size (fun g t wr => wr = w3 ∧ ∃ k : Nat, k ≤ s.size ∧ g = k ∧ t = .int .i64 k ∧ ∀ j, k ≤ j → j < s.size → bt s j ≤ 32)
    case atStart => exact ⟨rfl, s.size, Nat.le_refl _, rfl, rfl, fun j h1 h2 => by omega⟩
    case round =>
      obtain ⟨rfl, k, hk, rfl, rfl, hj⟩ := hrel
      replace hj := Lib.hid hj
      cases gk with
      | zero =>
        go_wp2_with fail
        go_meet
        exact ⟨rfl, 0, rfl, ⟨Nat.zero_le _, fun h => absurd h (by omega)⟩, hj.out⟩
      | succ k =>
        have e1 := bt_eq s k (by omega)
        have h1 : (0 : Int) < (k : Int) + 1 := by omega
        have h2 : (k : Int) < (s.size : Int) := by omega
        by_cases c0 : 32 < bt s k
        · have hfin := Lib.hid (show Trail (bt s) s.size (k + 1) from ⟨hk, fun _ => .inl c0⟩)
          have n1 : (32 : Int) < (bt s k : Int) := by omega
          go_wp2_with fail
          go_meet
          exact ⟨rfl, k + 1, by simp, hfin.out, hj.out⟩
        have n1 : ¬ (32 : Int) < (bt s k : Int) := by omega
        by_cases c1 : bt s k = 9
        · have hfin := Lib.hid (show Trail (bt s) s.size (k + 1) from ⟨hk, fun _ => .inr (.inl c1)⟩)
          have n2 : ((bt s k : Int) == 9) = true := by rw [c1]; rfl
          clear c1
          go_wp2_with fail
          go_meet
          exact ⟨rfl, k + 1, by simp, hfin.out, hj.out⟩
        have n2 : ((bt s k : Int) == 9) = false := by simp; omega
        by_cases c2 : bt s k = 10
        · have hfin := Lib.hid (show Trail (bt s) s.size (k + 1) from ⟨hk, fun _ => .inr (.inr (.inl c2))⟩)
          have n3 : ((bt s k : Int) == 10) = true := by rw [c2]; rfl
          clear c1 c2
          go_wp2_with fail
          go_meet
          exact ⟨rfl, k + 1, by simp, hfin.out, hj.out⟩
        have n3 : ((bt s k : Int) == 10) = false := by simp; omega
        by_cases c3 : bt s k = 13
        · have hfin := Lib.hid (show Trail (bt s) s.size (k + 1) from ⟨hk, fun _ => .inr (.inr (.inr c3))⟩)
          have n4 : ((bt s k : Int) == 13) = true := by rw [c3]; rfl
          clear c1 c2 c3
          go_wp2_with fail
          go_meet
          exact ⟨rfl, k + 1, by simp, hfin.out, hj.out⟩
        have n4 : ((bt s k : Int) == 13) = false := by simp; omega
        have hle : bt s k ≤ 32 := by omega
        clear c0 c1 c2 c3
        go_wp2_with fail
        go_roundg k
        case measure => omega
        case rel =>
          refine ⟨rfl, k, by omega, rfl, by simp, fun j g1 g2 => ?_⟩
          rcases Nat.lt_or_ge k j with h | h
          · exact hj.out j h g2
          · rw [show j = k by omega]; exact hle
  case rest =>
    obtain ⟨rfl, ts, rfl, hTr, hlow⟩ := hcut
    have hT1 := hTr.1
    replace hTr := Lib.hid hTr
    replace hlow := Lib.hid hlow
    go_wp2_with fail
    go_loopg [9, 10] s.size (fun g iv rv wr => ∃ i rs : Nat, rs ≤ i ∧ i ≤ s.size ∧ g = s.size - i ∧ iv = .int .i64 i ∧ rv = .int .i64 rs ∧ At B B (pre m ++ cellsN (seg (bt s) s.size ts 0 rs)) wr ∧ Below B w wr ∧ ∀ j, rs ≤ j → j < i → ¬ Esc (bt s) s.size ts j)
    case atStart => exact ⟨0, 0, Nat.le_refl _, Nat.zero_le _, rfl, rfl, rfl, hb3.out, hB3.out, fun j h1 h2 => by omega⟩
    case round =>
      obtain ⟨i, rs, hri, hin, rfl, rfl, rfl, hAt, hBw, hno⟩ := hrel
      have hsz := hS.out _ hBw
      have hlen := seg_len (b := bt s) (n := s.size) (ts := ts) 0 rs
      replace hAt := Lib.hid hAt
      replace hno := Lib.hid hno
      rcases Nat.lt_or_ge i s.size with hlt | hge
      · have l1 : (i : Int) < (s.size : Int) := by omega
        have cD := Tryd.utf8_DecodeRuneInString (s.extract i s.size) wr (hTB.out _ hBw)
        have hdec : decodeGo (s.extract i s.size) = Utf8.decode s i := by
          have e : (s.extract i s.size).size = s.size - i := by simp
          rw [decodeGo, if_neg (by omega), sub_dec]
        rw [hdec] at cD
        by_cases hg : GoodR s i
        · skip
          obtain ⟨c, wd, hcw⟩ : ∃ c wd, Utf8.decode s i = (c, wd) := ⟨_, _, rfl⟩
          rw [hcw] at cD
          have hnb : ¬ (c = 65533 ∧ wd = 1) := fun h => hg (by rw [hcw, h.1, h.2])
          have hf2 : (c < 128 ∧ bt s i = c ∧ wd = 1) ∨ (128 ≤ c ∧ i < ts ∧ 1 ≤ wd ∧ i + wd ≤ s.size ∧ ∀ j, i ≤ j → j < i + wd → 128 ≤ bt s j) := by
            rcases rune_facts hlt hg with ⟨h1, h2⟩ | ⟨h0, h1, h2, h3, h4⟩
            · rw [hcw] at h2
              injection h2 with h2 h3
              exact .inl ⟨by omega, by omega, h3⟩
            · rw [hcw] at h1 h2 h3 h4
              refine .inr ⟨h1, ?_, h2, h3, h4⟩
              rcases Nat.lt_or_ge i ts with h | h
              · exact h
              · exact absurd (hlow.out i h hlt) (by omega)
          clear hg hdec hcw
          replace hBw := Lib.hid hBw
          replace hf2 := Lib.hid hf2
          replace hnb := Lib.hid hnb
          go_wp2_with fail
          go_at_call 10
          refine cD.mono ?_
          rintro e w5 ⟨rfl, b5⟩
          have b6 : Below B w w5 := hBw.out.trans (b5.mono hsz)
          have hA5 := Lib.hid (builder_below hAt.out b5)
          have hs5 : B ≤ w5.heap.size := hS.out _ b6
          replace b6 := Lib.hid b6
          clear b5 cD hAt hBw hsz
          go_upto_region 16 with fail
          go_cut [60] from 45 to 128 (fun v wx => v = .bool false ∧ wx = w5)
          case first =>
            by_cases h65 : c = 65533
            · have n1 : ((c : Int) == 65533) = true := by rw [h65]; rfl
              have n2 : ((wd : Int) == 1) = false := by
                have := hnb.out
                simp
                omega
              clear h65
              go_wp2_with fail
              go_meet
              exact ⟨by try simp [*], rfl⟩
            · have n1 : ((c : Int) == 65533) = false := by simp; omega
              clear h65
              go_wp2_with fail
              go_meet
              exact ⟨by try simp [*], rfl⟩
          case rest =>
          obtain ⟨rfl, rfl⟩ := hcut
          go_upto_region 18 with fail
          go_cut [103] from 45 to 128 (fun v wx => v = .bool (decide (Esc (bt s) s.size ts i)) ∧ wx = wc)
          case first =>
            rcases hf2.out with ⟨h1, rfl, rfl⟩ | ⟨h1, h2, h3, h4, h5⟩
            · clear hf2 hnb
              by_cases c9 : bt s i = 9
              · have hE := Lib.hid (decide_eq_true (show Esc (bt s) s.size ts i from .inl c9))
                have n9 : ((bt s i : Int) == 9) = true := by rw [c9]; rfl
                clear c9
                go_wp2_with fail
                go_meet
                exact ⟨by rw [hE.out]; try simp [*], rfl⟩
              have n9 : ((bt s i : Int) == 9) = false := by simp; omega
              by_cases c10 : bt s i = 10
              · have hE := Lib.hid (decide_eq_true (show Esc (bt s) s.size ts i from .inr (.inl c10)))
                have n10 : ((bt s i : Int) == 10) = true := by rw [c10]; rfl
                clear c10
                go_wp2_with fail
                go_meet
                exact ⟨by rw [hE.out]; try simp [*], rfl⟩
              have n10 : ((bt s i : Int) == 10) = false := by simp; omega
              by_cases c13 : bt s i = 13
              · have hE := Lib.hid (decide_eq_true (show Esc (bt s) s.size ts i from .inr (.inr (.inl c13))))
                have n13 : ((bt s i : Int) == 13) = true := by rw [c13]; rfl
                clear c13
                go_wp2_with fail
                go_meet
                exact ⟨by rw [hE.out]; try simp [*], rfl⟩
              have n13 : ((bt s i : Int) == 13) = false := by simp; omega
              by_cases c35 : bt s i = 35
              · have hE := Lib.hid (decide_eq_true (show Esc (bt s) s.size ts i from .inr (.inr (.inr (.inl c35)))))
                have n35 : ((bt s i : Int) == 35) = true := by rw [c35]; rfl
                clear c35
                go_wp2_with fail
                go_meet
                exact ⟨by rw [hE.out]; try simp [*], rfl⟩
              have n35 : ((bt s i : Int) == 35) = false := by simp; omega
              by_cases cT : ts ≤ i
              · have hE := Lib.hid (decide_eq_true (show Esc (bt s) s.size ts i from .inr (.inr (.inr (.inr (.inl cT))))))
                have nT : (ts : Int) ≤ (i : Int) := by omega
                clear c9 c10 c13 c35 cT
                go_wp2_with fail
                go_meet
                exact ⟨by rw [hE.out]; try simp [*], rfl⟩
              have nT : ¬ (ts : Int) ≤ (i : Int) := by omega
              by_cases c37 : bt s i = 37
              · have n37 : ((bt s i : Int) == 37) = true := by rw [c37]; rfl
                by_cases cL : i + 2 < s.size
                · have nL : (i : Int) + 2 < (s.size : Int) := by omega
                  have e1 := bt_eq s (i + 1) (by omega)
                  have e2 := bt_eq s (i + 2) (by omega)
                  have t1 : ((i : Int) + 1).toNat = i + 1 := by omega
                  have t2 : ((i : Int) + 2).toNat = i + 2 := by omega
                  have l2 : (i : Int) + 1 < (s.size : Int) := by omega
                  cases h1 : hexB (bt s (i + 1)) with
                  | false =>
                    have hE := Lib.hid (decide_eq_false (show ¬ Esc (bt s) s.size ts i from fun h => by unfold Esc at h; simp [h1] at h; omega))
                    replace h1 := Lib.hid h1
                    clear c9 c10 c13 c35 cT c37
                    go_wp2_with (go_at_call 11; refine (isHex (bt s (i + 1)) _).mono ?_; rintro e w' ⟨rfl, rfl⟩; rw [h1.out])
                    go_meet
                    exact ⟨by rw [hE.out]; try simp [*], rfl⟩
                  | true =>
                    cases h2 : hexB (bt s (i + 2)) with
                    | false =>
                      have hE := Lib.hid (decide_eq_false (show ¬ Esc (bt s) s.size ts i from fun h => by unfold Esc at h; simp [h1, h2] at h; omega))
                      replace h1 := Lib.hid h1
                      replace h2 := Lib.hid h2
                      clear c9 c10 c13 c35 cT c37
                      go_wp2_with fail
                      go_at_call 11
                      refine (isHex (bt s (i + 1)) _).mono ?_
                      rintro e w' ⟨rfl, rfl⟩
                      rw [h1.out]
                      go_wp2_with fail
                      go_at_call 11
                      refine (isHex (bt s (i + 2)) _).mono ?_
                      rintro e w' ⟨rfl, rfl⟩
                      rw [h2.out]
                      go_wp2_with fail
                      go_meet
                      exact ⟨by rw [hE.out]; try simp [*], rfl⟩
                    | true =>
                      have hE := Lib.hid (decide_eq_true (show Esc (bt s) s.size ts i from .inr (.inr (.inr (.inr (.inr ⟨c37, cL, h1, h2⟩))))))
                      replace h1 := Lib.hid h1
                      replace h2 := Lib.hid h2
                      clear c9 c10 c13 c35 cT c37
                      go_wp2_with fail
                      go_at_call 11
                      refine (isHex (bt s (i + 1)) _).mono ?_
                      rintro e w' ⟨rfl, rfl⟩
                      rw [h1.out]
                      go_wp2_with fail
                      go_at_call 11
                      refine (isHex (bt s (i + 2)) _).mono ?_
                      rintro e w' ⟨rfl, rfl⟩
                      rw [h2.out]
                      go_wp2_with fail
                      go_meet
                      exact ⟨by rw [hE.out]; try simp [*], rfl⟩
                · have nL : ¬ (i : Int) + 2 < (s.size : Int) := by omega
                  have hE := Lib.hid (decide_eq_false (show ¬ Esc (bt s) s.size ts i from fun h => by unfold Esc at h; omega))
                  clear c9 c10 c13 c35 cT c37 cL
                  go_wp2_with fail
                  go_meet
                  exact ⟨by rw [hE.out]; try simp [*], rfl⟩
              have n37 : ((bt s i : Int) == 37) = false := by simp; omega
              have hE := Lib.hid (decide_eq_false (show ¬ Esc (bt s) s.size ts i from fun h => by unfold Esc at h; omega))
              clear c9 c10 c13 c35 cT c37
              go_wp2_with fail
              go_meet
              exact ⟨by rw [hE.out]; try simp [*], rfl⟩
            · have hge : 128 ≤ bt s i := h5 i (Nat.le_refl _) (by omega)
              have hE := Lib.hid (decide_eq_false (show ¬ Esc (bt s) s.size ts i from fun h => by unfold Esc at h; omega))
              have n9 : ((c : Int) == 9) = false := by simp; omega
              have n10 : ((c : Int) == 10) = false := by simp; omega
              have n13 : ((c : Int) == 13) = false := by simp; omega
              have n35 : ((c : Int) == 35) = false := by simp; omega
              have n37 : ((c : Int) == 37) = false := by simp; omega
              have nT : ¬ (ts : Int) ≤ (i : Int) := by omega
              replace h5 := Lib.hid h5
              go_wp2_with fail
              go_meet
              exact ⟨by rw [hE.out]; try simp [*], rfl⟩
          case rest =>
            obtain ⟨rfl, rfl⟩ := hcut
            by_cases hE : Esc (bt s) s.size ts i
            · rw [decide_eq_true hE]
              obtain ⟨hc128, hci, hwd⟩ : c < 128 ∧ bt s i = c ∧ wd = 1 := by
                rcases hf2.out with h | ⟨h1, h2, h3, h4, h5⟩
                · exact h
                · exfalso
                  have := h5 i (Nat.le_refl _) (by omega)
                  unfold Esc at hE
                  omega
              subst hwd
              have hc37 : c ≤ 37 := by
                have := hlow.out i
                unfold Esc at hE
                omega
              have hseg : pre m ++ cellsN (seg (bt s) s.size ts 0 i) ++ [.int .u8 37] ++ [.int .u8 ((hd (c / 16) : Nat) : Int)] ++ [.int .u8 ((hd (c % 16) : Nat) : Int)] = pre m ++ cellsN (seg (bt s) s.size ts 0 (i + 1)) := by
                rw [seg_add 0 i 1, Nat.zero_add, seg_one i hE, cellsN_append, hci]
                simp [cellsN]
              have hlen2 := seg_len (b := bt s) (n := s.size) (ts := ts) 0 i
              have hpre : (pre m).length = 6 + m.size := by
                have : DS.size = 5 := rfl
                simp [pre, strCells_length]
                omega
              have hmid : seg (bt s) s.size ts 0 i = seg (bt s) s.size ts 0 rs ++ (List.range' rs (i - rs)).map (bt s) := by
                have e := seg_add (b := bt s) (n := s.size) (ts := ts) 0 rs (i - rs)
                rw [show rs + (i - rs) = i by omega, Nat.zero_add, seg_plain rs (i - rs) (fun j h1 h2 => hno.out j h1 (by omega))] at e
                exact e
              replace hE := Lib.hid hE
              replace hseg := Lib.hid hseg
              replace hmid := Lib.hid hmid
              replace hpre := Lib.hid hpre
              clear hf2 hnb
              go_upto_if 106 with fail
              go_cut [106] from 45 to 128 (fun _ wx => At B B (pre m ++ cellsN (seg (bt s) s.size ts 0 i)) wx ∧ Below B w wx)
              case first =>
                rcases Nat.lt_or_ge rs i with hlr | hlr
                · have l4 : (rs : Int) < (i : Int) := by omega
                  have l5 : (rs : Int) ≤ (i : Int) := by omega
                  have l6 : (i : Int) ≤ (s.size : Int) := by omega
                  go_wp2_with fail
                  go_at_call 8
                  refine (writeString B B _ (s.extract rs i) _ (.inr hA5.out) (by simp [cellsN_length, hpre.out]; omega) hs5).mono ?_
                  rintro e w6 ⟨rfl, hA6, b7⟩
                  have b8 := b6.out.trans b7
                  rw [cells_ext s rs i hri hin, List.append_assoc, ← cellsN_append, ← hmid.out] at hA6
                  clear b7
                  replace hA6 := Lib.hid hA6
                  replace b8 := Lib.hid b8
                  go_wp2_with fail
                  go_meet
                  exact ⟨hA6.out, b8.out⟩
                · have l4 : ¬ (rs : Int) < (i : Int) := by omega
                  obtain rfl : rs = i := by omega
                  go_wp2_with fail
                  go_meet
                  exact ⟨hA5.out, b6.out⟩
              case rest =>
                obtain ⟨hA6, b8⟩ := hcut
                have hs6 := hS.out _ b8
                clear hA5 b6 hs5 hmid
                have e1 := bt_eq ⟨#[48, 49, 50, 51, 52, 53, 54, 55, 56, 57, 65, 66, 67, 68, 69, 70]⟩ (c / 16) (by show c / 16 < 16; omega)
                have e2 := bt_eq ⟨#[48, 49, 50, 51, 52, 53, 54, 55, 56, 57, 65, 66, 67, 68, 69, 70]⟩ (c % 16) (by show c % 16 < 16; omega)
                rw [hexD _ (by omega)] at e1 e2
                have m1 : bits .and .i32 (c : Int) 15 = ((c % 16 : Nat) : Int) := and15 c (by omega)
                have x1 : (c : Int) / 16 < 16 := by omega
                have x2 : (c : Int) % 16 < 16 := by omega
                have y1 : ((c : Int) / 16).toNat = c / 16 := by omega
                have y2 : ((c : Int) % 16).toNat = c % 16 := by omega
                replace b8 := Lib.hid b8
                go_wp2_with fail
                go_at_call 9
                refine (writeByte B B _ 37 _ (.inr hA6) (by simp [cellsN_length, hpre.out]; omega) hs6).mono ?_
                rintro e w7 ⟨rfl, hA7, b9⟩
                have b10 := b8.out.trans b9
                have hs7 := hS.out _ b10
                replace b10 := Lib.hid b10
                clear b9 b8 hA6 hs6
                go_wp2_with fail
                go_at_call 9
                refine (writeByte B B _ ((hd (c / 16) : Nat) : Int) _ (.inr hA7) (by simp [cellsN_length, hpre.out]; omega) hs7).mono ?_
                rintro e w8 ⟨rfl, hA8, b11⟩
                have b12 := b10.out.trans b11
                have hs8 := hS.out _ b12
                replace b12 := Lib.hid b12
                clear b10 b11 hA7 hs7
                go_wp2_with fail
                go_at_call 9
                refine (writeByte B B _ ((hd (c % 16) : Nat) : Int) _ (.inr hA8) (by simp [cellsN_length, hpre.out]; omega) hs8).mono ?_
                rintro e w9 ⟨rfl, hA9, b13⟩
                have b14 := b12.out.trans b13
                replace b14 := Lib.hid b14
                rw [hseg.out] at hA9
                replace hA9 := Lib.hid hA9
                clear b12 b13 hA8 hs8
                go_wp2_with fail
                go_roundg (s.size - (i + 1))
                case measure => omega
                case rel => exact ⟨i + 1, i + 1, Nat.le_refl _, by omega, rfl, by simp, by simp, hA9.out, b14.out, fun j h1 h2 => by omega⟩
            · rw [decide_eq_false hE]
              have hall : ∀ j, i ≤ j → j < i + wd → ¬ Esc (bt s) s.size ts j := by
                intro j h1 h2
                rcases hf2.out with ⟨_, _, h⟩ | ⟨g1, g2, g3, g4, g5⟩
                · rw [show j = i by omega]; exact hE
                · have q := g5 j h1 h2
                  have q2 : j < ts := by
                    rcases Nat.lt_or_ge j ts with h | h
                    · exact h
                    · exact absurd (hlow.out j h (by omega)) (by omega)
                  intro h
                  unfold Esc at h
                  omega
              have hwd1 : 1 ≤ wd ∧ i + wd ≤ s.size := by
                rcases hf2.out with ⟨_, _, h⟩ | ⟨g1, g2, g3, g4, g5⟩
                · omega
                · omega
              replace hall := Lib.hid hall
              replace hE := Lib.hid hE
              clear hf2 hnb
              go_wp2_with fail
              go_roundg (s.size - (i + wd))
              case measure => omega
              case rel =>
                refine ⟨i + wd, rs, by omega, hwd1.2, rfl, by simp, rfl, hA5.out, b6.out, fun j h1 h2 => ?_⟩
                rcases Nat.lt_or_ge j i with h | h
                · exact hno.out j h1 h
                · exact hall.out j h h2
        · have hd : Utf8.decode s i = (65533, 1) := Classical.not_not.1 hg
          rw [hd] at cD
          replace hBw := Lib.hid hBw
          go_wp2_with fail
          go_at_call 10
          refine cD.mono ?_
          rintro e w5 ⟨rfl, b5⟩
          have b6 : Below B w w5 := hBw.out.trans (b5.mono hsz)
          replace b6 := Lib.hid b6
          clear b5 cD
          go_wp2_with fail
          refine bodyPost_ret (v := .tuple #[.string ⟨#[]⟩, .bool false]) (by simp [results, Tryd.results5, go_sem]) rfl ⟨by rw [hB.out]; exact b6.out, .inl rfl⟩
      · have hi : i = s.size := by omega
        subst hi
        replace hBw := Lib.hid hBw
        have hlen2 := seg_len (b := bt s) (n := s.size) (ts := ts) 0 s.size
        have hpre : (pre m).length = 6 + m.size := by
          have : DS.size = 5 := rfl
          simp [pre, strCells_length]
          omega
        have hmid : seg (bt s) s.size ts 0 s.size = seg (bt s) s.size ts 0 rs ++ (List.range' rs (s.size - rs)).map (bt s) := by
          have e := seg_add (b := bt s) (n := s.size) (ts := ts) 0 rs (s.size - rs)
          rw [show rs + (s.size - rs) = s.size by omega, Nat.zero_add, seg_plain rs (s.size - rs) (fun j h1 h2 => hno.out j h1 (by omega))] at e
          exact e
        have hbytes : pre m ++ cellsN (seg (bt s) s.size ts 0 s.size) = byteCells (DS.data.toList ++ m.data.toList ++ [44] ++ bytesN (seg (bt s) s.size ts 0 s.size)) := by
          rw [cells_bytes _ (seg_lt (bt_lt s) 0 s.size), byteCells_append, byteCells_append, byteCells_append]
          rfl
        replace hmid := Lib.hid hmid
        replace hpre := Lib.hid hpre
        replace hbytes := Lib.hid hbytes
        go_upto_if 131 with fail
        go_cut [131] from 129 to 136 (fun _ wx => At B B (pre m ++ cellsN (seg (bt s) s.size ts 0 s.size)) wx ∧ Below B w wx)
        case first =>
          rcases Nat.lt_or_ge rs s.size with hlr | hlr
          · have l4 : (rs : Int) < (s.size : Int) := by omega
            go_wp2_with fail
            go_at_call 8
            refine (writeString B B _ (s.extract rs s.size) _ (.inr hAt.out) (by simp [cellsN_length, hpre.out]; omega) hsz).mono ?_
            rintro e w6 ⟨rfl, hA6, b7⟩
            have b8 := hBw.out.trans b7
            rw [cells_ext s rs s.size hri (Nat.le_refl _), List.append_assoc, ← cellsN_append, ← hmid.out] at hA6
            clear b7
            replace hA6 := Lib.hid hA6
            replace b8 := Lib.hid b8
            go_wp2_with fail
            go_meet
            exact ⟨hA6.out, b8.out⟩
          · have l4 : ¬ (rs : Int) < (s.size : Int) := by omega
            obtain rfl : rs = s.size := by omega
            go_wp2_with fail
            go_meet
            exact ⟨hAt.out, hBw.out⟩
        case rest =>
          obtain ⟨hA6, b8⟩ := hcut
          have hs6 := hS.out _ b8
          rw [hbytes.out] at hA6
          replace b8 := Lib.hid b8
          go_wp2_with fail
          go_at_call 12
          refine (Tryd.Builder_String_any B B _ _ (.inr hA6) hs6).mono ?_
          rintro e w7 ⟨rfl, b9⟩
          have b10 := b8.out.trans b9
          replace b10 := Lib.hid b10
          clear b9 hA6
          go_wp2_with fail
          refine bodyPost_ret (v := .tuple #[.string (G m s ts), .bool true]) (by simp [results, Tryd.results5, go_sem, G]) rfl ⟨by rw [hB.out]; exact b10.out, .inr ⟨ts, hTr.out, rfl⟩⟩
end Go.Proofs.YtgeijelkojgapaaDoor.Pct
