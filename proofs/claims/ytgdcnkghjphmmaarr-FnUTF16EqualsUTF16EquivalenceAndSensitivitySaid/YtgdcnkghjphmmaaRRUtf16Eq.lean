/-
  clone16 and UTF16EqualsUTF16: a copy reads as the slice did; two slices are equal exactly when length and every unit agree. Condition: at most 2^20 elements (2^21 for the comparison).
-/
import Derived.Lib.Hide
import Derived.Laws.Cover3
import Derived.Test.YtgdcnkghjphmmaaRRRowsI
namespace Go.Proofs.YtgdcnkghjphmmaaRR.Utf16
open Go.RowKit Go.Proofs.YtgdcnkghjphmmaaRR.Ints

theorem info16 : (Try.prog.info? 26).map (fun i => (i.zero, i.size, i.bytes)) = some (some (.int .u16 0), 1, 2) := by kernel_rfl

theorem eql_nil (t e : TypeId) (a : Option Addr) (l c : Nat) (h : Try.prog.underlying t = some (.slice e)) (w : World) : (binOp .eql t (.slice a l c) (.slice none 0 0)).run Try.prog w = .ok (.bool a.isNone) w := by
  simp [binOp, run_equal_slice_nil w t e a l c h]

theorem clone_some (a : Addr) (n cap : Nat) (f : Nat → Int) (w : World) (hn : n ≤ 1048576) (hI : IntsAt .u16 w (some a) n f) :
    Calls Try.prog 13 #[.slice (some a) n cap] w fun e w' => e = .returned (.slice (some ⟨w.heap.size, 0, none⟩) n n) ∧ Filling w w' 26 .u16 n n f := by
  have hmk := run_make_row' (P := Try.prog) 24 26 (.int .u16 0) 2 Try.underlying24 info16 rfl .i64 .i64 n (by omega) (by omega)
  have hnil := eql_nil 24 26 (some a) n cap Try.underlying24
  go_enter Try.func13, Try.ntmps13
  go_wp2
  clear hmk
  go_loopg [4] n (fun g i wr => ∃ r : Nat, r ≤ n ∧ g = n - r ∧ i = .int .i64 r ∧ Filling w wr 26 .u16 n r f)
  case atStart => exact ⟨0, Nat.zero_le _, rfl, rfl, filling_start _ _ _ _ _⟩
  case round =>
    obtain ⟨r, hr, rfl, rfl, hF⟩ := hrel
    rcases Nat.lt_or_ge r n with hlt | hge
    · rcases hI with h0 | ⟨b, off, he, hb, hc⟩
      · omega
      · cases he
        have g2 : wr.cell? ⟨b, off + r, none⟩ = some (.int .u16 (f r)) := (hF.below.cell (by exact hb)).trans (hc r hlt)
        have g4 : wr.cell? ⟨w.heap.size, r, none⟩ = some (.int .u16 0) := by simpa [fillTo] using hF.row.cell hlt
        have g5 := hF.row.frozen r
        clear hc
        go_wp2
        go_roundg (n - (r + 1))
        case measure => omega
        case rel => exact ⟨r + 1, by omega, rfl, rfl, filling_step hF⟩
    · have hrn : r = n := by omega
      subst hrn
      clear hI
      go_wp2
      go_ret
      exact ⟨rfl, hF⟩

theorem clone_nil (w : World) : Calls Try.prog 13 #[.slice none 0 0] w fun e w' => e = .returned (.slice none 0 0) ∧ w = w' := by
  have hnil := eql_nil 24 26 none 0 0 Try.underlying24
  go_enter Try.func13, Try.ntmps13
  go_wp2
  go_ret
  exact ⟨rfl, rfl⟩

def Cloned (k : IntKind) (n : Nat) (f : Nat → Int) (w : World) (e : Ending) (w' : World) : Prop := ∃ o, e = .returned (.slice o n n) ∧ IntsAt k w' o n f ∧ Below w.heap.size w w'

theorem clone (o : Option Addr) (n cap : Nat) (f : Nat → Int) (w : World) (hn : n ≤ 1048576) (hI : IntsAt .u16 w o n f) (h0 : o = none → n = 0 ∧ cap = 0) :
    Calls Try.prog 13 #[.slice o n cap] w fun e w' => Cloned .u16 n f w e w' := by
  cases o with
  | none =>
    obtain ⟨rfl, rfl⟩ := h0 rfl
    refine (clone_nil w).mono ?_
    rintro e w' ⟨rfl, rfl⟩
    exact ⟨none, rfl, .inl rfl, Below.refl _ _⟩
  | some a =>
    refine (clone_some a n cap f w hn hI).mono ?_
    rintro e w' ⟨rfl, hF⟩
    exact ⟨_, rfl, ints_of_row (hF.row.congr fun i hi => by simp [fillTo, hi]), hF.below⟩

def same (n1 n2 : Nat) (f1 f2 : Nat → Int) : Bool := decide (n1 = n2 ∧ ∀ i, i < n1 → f1 i = f2 i)

theorem equals (o1 o2 : Option Addr) (n1 n2 c1 c2 : Nat) (f1 f2 : Nat → Int) (w : World) (m1 : n1 ≤ 2097152) (m2 : n2 ≤ 2097152) (h1 : IntsAt .u16 w o1 n1 f1) (h2 : IntsAt .u16 w o2 n2 f2) :
    Calls Try.prog 14 #[.slice o1 n1 c1, .slice o2 n2 c2] w fun e w' => e = .returned (.bool (same n1 n2 f1 f2)) ∧ w = w' := by
  by_cases hn : n1 = n2
  · subst hn
    go_enter Try.func14, Try.ntmps14
    go_wp2
    go_loopg [14] n1 (fun g i wr => w = wr ∧ ∃ r : Nat, r ≤ n1 ∧ g = n1 - r ∧ i = .int .i64 r ∧ ∀ j, j < r → f1 j = f2 j)
    case atStart => exact ⟨rfl, 0, Nat.zero_le _, rfl, rfl, fun j hj => absurd hj (by omega)⟩
    case round =>
      obtain ⟨rfl, r, hr, rfl, rfl, hq⟩ := hrel
      rcases Nat.lt_or_ge r n1 with hlt | hge
      · rcases h1 with h0 | ⟨b, off, he, hb, hc⟩
        · omega
        rcases h2 with h0' | ⟨b', off', he', hb', hc'⟩
        · omega
        cases he
        cases he'
        have g1 := hc r hlt
        have g2 := hc' r hlt
        by_cases heq : f1 r = f2 r
        · rw [heq] at g1
          have hq' : ∀ j, j < r + 1 → f1 j = f2 j := fun j hj => by
            rcases Nat.lt_succ_iff_lt_or_eq.1 hj with h | h
            · exact hq j h
            · rw [h]; exact heq
          replace hq' := Lib.hid hq'
          clear hc hc' hq heq
          go_wp2
          go_roundg (n1 - (r + 1))
          case measure => omega
          case rel => exact ⟨rfl, r + 1, by omega, rfl, rfl, hq'.out⟩
        · have hs : same n1 n1 f1 f2 = false := by
            simp only [same, decide_eq_false_iff_not]
            exact fun h => heq (h.2 r hlt)
          replace hs := Lib.hid hs
          clear hc hc' hq
          go_wp2
          go_ret
          exact ⟨by rw [hs.out]; rfl, rfl⟩
      · have hrn : r = n1 := by omega
        subst hrn
        have hs : same r r f1 f2 = true := by simp only [same, decide_eq_true_eq]; exact ⟨trivial, hq⟩
        replace hs := Lib.hid hs
        clear hq h1 h2
        go_wp2
        go_ret
        exact ⟨by rw [hs.out]; rfl, rfl⟩
  · have hs : same n1 n2 f1 f2 = false := by simp [same, hn]
    rw [hs]
    go_enter Try.func14, Try.ntmps14
    go_wp2
    go_ret
    exact ⟨rfl, rfl⟩

end Go.Proofs.YtgdcnkghjphmmaaRR.Utf16
