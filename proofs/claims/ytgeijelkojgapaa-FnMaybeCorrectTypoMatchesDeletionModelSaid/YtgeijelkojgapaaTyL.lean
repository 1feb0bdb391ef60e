/-
  zzLastWord: the last long word that loses one rune to become the key; zzCopyStrings. Condition: long words are valid; lengths.
-/
import Derived.Test.YtgeijelkojgapaaTyD
import Derived.Laws.Cover3
import Derived.Laws.MakeOwn
namespace Go.Proofs.Ytgeijelkojgapaa.Ty
open Go.RowKit Go.Lib Go.ChangeShapes Go.WideShapes Go.ChangeAt Go.Proofs.Ytgeijelkojgapaa.U8 Go.Proofs.Ytgeijelkojgapaa.Pct Go.Proofs.Ytgeijelkojgapaa.By Go.Proofs.Ytgeijelkojgapaa.Ints

def HitW (f : Nat → ByteArray) (key : ByteArray) (j : Nat) : Prop := 3 < (f j).size ∧ Loses (f j) key
/-- r is the last index below n of a word that hits, or -1. -/
def LastW (f : Nat → ByteArray) (key : ByteArray) (n : Nat) (r : Int) : Prop := (r = -1 ∧ ∀ j, j < n → ¬ HitW f key j) ∨ ∃ l : Nat, l < n ∧ r = l ∧ HitW f key l ∧ ∀ j, l < j → j < n → ¬ HitW f key j
def Lw (f : Nat → ByteArray) (key : ByteArray) (n : Nat) (w : World) (e : Ending) (w' : World) : Prop := ∃ r : Int, e = .returned (.int .i64 r) ∧ LastW f key n r ∧ Below w.heap.size w w'
set_option maxRecDepth 100000 in
set_option maxHeartbeats 4000000 in
theorem lastWord (o : Option Addr) (n cap : Nat) (f : Nat → ByteArray) (t : ByteArray) (w : World) (hn : n ≤ 65536) (hI : StrsAt w o n f) (hs : ∀ i, i < n → (f i).size ≤ 1048576) (hv : ∀ i, i < n → 3 < (f i).size → Valid (f i)) (ht : t.size ≤ 1048576) :
    Calls Try.prog 22 #[.slice o n cap, .string t] w (Lw f t n w) := by
  replace hs := Lib.hid hs
  replace hv := Lib.hid hv
  go_enter Try.func22, Try.ntmps22
  go_wp2_with fail
  go_loopg [5] n (fun g iv wr => Below w.heap.size w wr ∧ ∃ i : Nat, i ≤ n ∧ g = i ∧ iv = .int .i64 ((i : Int) - 1) ∧ ∀ j, i ≤ j → j < n → ¬ HitW f t j)
  case atStart => exact ⟨Below.refl _ _, n, Nat.le_refl _, rfl, rfl, fun j g1 g2 => by omega⟩
  case round =>
    obtain ⟨hB, i, hi, rfl, rfl, hno⟩ := hrel
    have hIw := hI.below hB
    have hszB := hB.size
    replace hno := Lib.hid hno
    replace hB := Lib.hid hB
    cases gk with
    | zero =>
      replace hI := Lib.hid hI
      replace hIw := Lib.hid hIw
      go_wp2_with fail
      go_ret
      exact ⟨-1, rfl, .inl ⟨rfl, fun j h => hno.out j (Nat.zero_le _) h⟩, hB.out⟩
    | succ k =>
      have l2 : ((k + 1 : Nat) : Int) - 1 = (k : Int) := by omega
      rw [l2]
      rcases hIw with h0 | ⟨bb, off, he, hbb, hc⟩
      · omega
      · subst he
        have g2 := hc k (by omega)
        have hsz := hs.out k (by omega)
        have l1 : (k : Int) < (n : Int) := by omega
        have hvk := hv.out k (by omega)
        replace hI := Lib.hid hI
        clear hc
        by_cases h3 : 3 < (f k).size
        · have c3 : (3 : Int) < ((f k).size : Int) := by omega
          have cO := oneRune (f k) t wr (hvk h3) hsz ht
          replace hvk := Lib.hid hvk
          go_wp2_with fail
          go_at_call 27
          refine cO.mono ?_
          rintro e w6 ⟨x, rfl, hx, B6⟩
          have B7 := hB.out.trans (B6.mono hszB)
          replace B7 := Lib.hid B7
          clear B6 cO
          cases x with
          | true =>
            have hf := Lib.hid (show HitW f t k from ⟨h3, hx.1 rfl⟩)
            clear hx
            go_wp2_with fail
            go_ret
            exact ⟨(k : Int), rfl, .inr ⟨k, by omega, rfl, hf.out, fun j g1 g2 => hno.out j (by omega) g2⟩, B7.out⟩
          | false =>
            have hN := Lib.hid (show ∀ j, k ≤ j → j < n → ¬ HitW f t j from fun j g1 g2 hh => by
              rcases Nat.lt_or_ge k j with h | h
              · exact hno.out j h g2 hh
              · rw [show j = k by omega] at hh
                have := hx.2 hh.2
                cases this)
            clear hx
            go_wp2_with fail
            go_roundg k
            case measure => omega
            case rel => exact ⟨B7.out, k, by omega, rfl, by first | rfl | simp, hN.out⟩
        · have c3 : ¬ (3 : Int) < ((f k).size : Int) := by omega
          have hN := Lib.hid (show ∀ j, k ≤ j → j < n → ¬ HitW f t j from fun j g1 g2 hh => by
            rcases Nat.lt_or_ge k j with h | h
            · exact hno.out j h g2 hh
            · rw [show j = k by omega] at hh
              exact h3 hh.1)
          replace hvk := Lib.hid hvk
          go_wp2_with fail
          go_roundg k
          case measure => omega
          case rel => exact ⟨hB.out, k, by omega, rfl, by first | rfl | simp, hN.out⟩
/-- The copy. -/
theorem infoS : (Try.prog.info? 9).map (fun i => (i.zero, i.size, i.bytes)) = some (some (.string ByteArray.empty), 1, 16) := by kernel_rfl
theorem eql_nil (t e : TypeId) (a : Option Addr) (l c : Nat) (h : Try.prog.underlying t = some (.slice e)) (w : World) : (binOp .eql t (.slice a l c) (.slice none 0 0)).run Try.prog w = .ok (.bool a.isNone) w := by
  simp [binOp, run_equal_slice_nil w t e a l c h]
theorem copy_some (a : Addr) (n cap : Nat) (f : Nat → ByteArray) (w : World) (hn : n ≤ 65536) (hI : StrsAt w (some a) n f) :
    Calls Try.prog 14 #[.slice (some a) n cap] w fun e w' => e = .returned (.slice (some ⟨w.heap.size, 0, none⟩) n n) ∧ FillingS w w' 9 n n f := by
  have hmk := run_make_row' (P := Try.prog) 28 9 (.string ByteArray.empty) 16 Try.underlying28 infoS rfl .i64 .i64 n (by omega) (by omega)
  have hnil := eql_nil 28 9 (some a) n cap Try.underlying28
  go_enter Try.func14, Try.ntmps14
  go_wp2
  clear hmk
  go_loopg [4] n (fun g i wr => ∃ r : Nat, r ≤ n ∧ g = n - r ∧ i = .int .i64 r ∧ FillingS w wr 9 n r f)
  case atStart => exact ⟨0, Nat.zero_le _, rfl, rfl, fillingS_start _ _ _ _⟩
  case round =>
    obtain ⟨r, hr, rfl, rfl, hF⟩ := hrel
    rcases Nat.lt_or_ge r n with hlt | hge
    · rcases hI with h0 | ⟨b, off, he, hb, hc⟩
      · omega
      · cases he
        have g2 : wr.cell? ⟨b, off + r, none⟩ = some (.string (f r)) := (hF.below.cell (by exact hb)).trans (hc r hlt)
        have g4 : wr.cell? ⟨w.heap.size, r, none⟩ = some (.string ByteArray.empty) := by simpa [fillS] using hF.row.cell hlt
        have g5 := hF.row.frozen r
        clear hc
        go_wp2
        go_roundg (n - (r + 1))
        case measure => omega
        case rel => exact ⟨r + 1, by omega, rfl, rfl, fillingS_step hF⟩
    · have hrn : r = n := by omega
      subst hrn
      clear hI
      go_wp2
      go_ret
      exact ⟨rfl, hF⟩
theorem copy_nil (w : World) : Calls Try.prog 14 #[.slice none 0 0] w fun e w' => e = .returned (.slice none 0 0) ∧ w = w' := by
  have hnil := eql_nil 28 9 none 0 0 Try.underlying28
  go_enter Try.func14, Try.ntmps14
  go_wp2
  go_ret
  exact ⟨rfl, rfl⟩
def Copied (n : Nat) (f : Nat → ByteArray) (w : World) (e : Ending) (w' : World) : Prop := ∃ o, e = .returned (.slice o n n) ∧ StrsAt w' o n f ∧ Below w.heap.size w w'
theorem copy (o : Option Addr) (n cap : Nat) (f : Nat → ByteArray) (w : World) (hn : n ≤ 65536) (hI : StrsAt w o n f) (h0 : o = none → n = 0 ∧ cap = 0) :
    Calls Try.prog 14 #[.slice o n cap] w (Copied n f w) := by
  cases o with
  | none =>
    obtain ⟨rfl, rfl⟩ := h0 rfl
    refine (copy_nil w).mono ?_
    rintro e w' ⟨rfl, rfl⟩
    exact ⟨none, rfl, .inl rfl, Below.refl _ _⟩
  | some a =>
    refine (copy_some a n cap f w hn hI).mono ?_
    rintro e w' ⟨rfl, hF⟩
    exact ⟨_, rfl, strs_of_row (hF.row.congr fun i hi => by simp [fillS, hi]), hF.below⟩
end Go.Proofs.Ytgeijelkojgapaa.Ty
