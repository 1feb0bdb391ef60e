/-
  Helpers of FnNewSymbolConsecutiveRefsStoreInputs: byte counts, copies of the two lists, a kind by its index. No condition.
-/
import Derived.Test.YtimmcjjkfhambaaDoorStrs
import Derived.Test.YtimmcjjkfhambaaDoorBut
import Derived.Test.YtimmcjjkfhambaaDoorBuild2
import Derived.Lib.Hide
import Derived.Laws.Cover3
import Derived.WalkSpells
import Derived.RegionTactic
import Derived.ChangeAlike
import Derived.Deep.QuietTactic
import Derived.BigQuiet
import Derived.BigRegion
import Derived.Deep.RegionHeld3
import Derived.Deep.RegionLaw
import Derived.StillTailTactics
import Derived.Laws.MakeOwn
import Derived.IntWalk
namespace Go.Proofs.YtimmcjjkfhambaaDoor.Sym
open Go.RowKit Go.ChangeShapes Go.WideShapes Go.ChangeAt Go.Proofs.YtimmcjjkfhambaaDoor.Ints

def SomeBool (n : Nat) (f : Nat → ByteArray) (w : World) (e : Ending) (w' : World) : Prop := ∃ r : Bool, e = .returned (.bool r) ∧ w = w' ∧ (r = true → ∀ i, i < n → (f i).size ≤ 1048576)
theorem bytes (o o2 : Option Addr) (n m cap cap2 : Nat) (a b : Value) (f : Nat → ByteArray) (w : World) (hI : StrsAt w o n f) (hs : ∀ i, i < n → (f i).size ≤ maxLen) (hn0 : n ≤ maxLen) (hm0 : m ≤ maxLen) :
    Calls Tryd.prog 4 #[a, b, .slice o n cap, .slice o2 m cap2] w (SomeBool n f w) := by
  unfold maxLen at *
  go_enter Tryd.func4, Tryd.ntmps4
  by_cases c1 : 1048576 < n
  · go_wp2_with fail
    go_ret
    exact ⟨false, rfl, rfl, fun h => by cases h⟩
  · go_wp2_with fail
    go_loopg [10, 9] n (fun g i z wr => ∃ r s : Nat, r ≤ n ∧ g = n - r ∧ i = .int .i64 r ∧ z = .int .i64 s ∧ s ≤ 1048576 ∧ w = wr ∧ ∀ j, j < r → (f j).size ≤ 1048576)
    case atStart => exact ⟨0, n, Nat.zero_le _, rfl, rfl, rfl, by omega, rfl, fun j h => absurd h (Nat.not_lt_zero _)⟩
    case round =>
      obtain ⟨r, s, hr, rfl, rfl, rfl, hs1, rfl, hlow⟩ := hrel
      replace hlow := Lib.hid hlow
      rcases Nat.lt_or_ge r n with hlt | hge
      · obtain ⟨b, off, rfl, hb, hc⟩ := hI.resolve_left (by omega)
        have g2 := hc r hlt
        have g3 := hs r hlt
        clear hc hs
        by_cases c2 : 1048576 < (f r).size
        · go_wp2_with fail
          go_ret
          exact ⟨false, rfl, rfl, fun h => by cases h⟩
        · by_cases c3 : 1048576 < s + (f r).size
          · go_wp2_with fail
            go_ret
            exact ⟨false, rfl, rfl, fun h => by cases h⟩
          · go_wp2_with fail
            go_roundg (n - (r + 1))
            case measure => omega
            case rel => exact ⟨r + 1, s + (f r).size, by omega, rfl, rfl, by simp, by omega, rfl, fun j hj => by
              rcases Nat.lt_or_ge j r with h | h
              · exact hlow.out j h
              · rw [show j = r by omega]; omega⟩
      · clear hI hs
        go_wp2_with fail
        all_goals
          go_ret
          exact ⟨_, rfl, rfl, fun _ i hi => hlow.out i (by omega)⟩
theorem strBytes (o : Option Addr) (n cap : Nat) (f : Nat → ByteArray) (w : World) (hI : StrsAt w o n f) (hs : ∀ i, i < n → (f i).size ≤ 1048576) (hn : n ≤ 65536) :
    Calls Tryd.prog 5 #[.slice o n cap] w fun e w' => ∃ v : Nat, v ≤ 1048577 ∧ e = .returned (.int .i64 v) ∧ w = w' := by
  go_enter Tryd.func5, Tryd.ntmps5
  by_cases c1 : 65536 < n
  · omega
  · go_wp2_with fail
    go_loopg [4, 3] n (fun g i z wr => ∃ r s : Nat, r ≤ n ∧ g = n - r ∧ i = .int .i64 r ∧ z = .int .i64 s ∧ s ≤ 1048576 ∧ w = wr)
    case atStart => exact ⟨0, 16 * n, Nat.zero_le _, rfl, rfl, by simp, by omega, rfl⟩
    case round =>
      obtain ⟨r, s, hr, rfl, rfl, rfl, hs1, rfl⟩ := hrel
      rcases Nat.lt_or_ge r n with hlt | hge
      · obtain ⟨b, off, rfl, hb, hc⟩ := hI.resolve_left (by omega)
        have g2 := hc r hlt
        have g3 := hs r hlt
        clear hc hs
        by_cases c3 : 1048576 < s + (f r).size
        · go_wp2_with fail
          go_ret
          exact ⟨1048577, by omega, rfl, rfl⟩
        · go_wp2_with fail
          go_roundg (n - (r + 1))
          case measure => omega
          case rel => exact ⟨r + 1, s + (f r).size, by omega, rfl, rfl, by simp, by omega, rfl⟩
      · clear hI hs
        go_wp2_with fail
        go_ret
        exact ⟨s, by omega, rfl, rfl⟩
theorem infoS : (Tryd.prog.info? 9).map (fun i => (i.zero, i.size, i.bytes)) = some (some (.string ByteArray.empty), 1, 16) := by kernel_rfl
theorem eql_nil (t e : TypeId) (a : Option Addr) (l c : Nat) (h : Tryd.prog.underlying t = some (.slice e)) (w : World) : (binOp .eql t (.slice a l c) (.slice none 0 0)).run Tryd.prog w = .ok (.bool a.isNone) w := by
  simp [binOp, run_equal_slice_nil w t e a l c h]
theorem clone_some (a : Addr) (n cap : Nat) (f : Nat → ByteArray) (w : World) (hn : n ≤ 65536) (hI : StrsAt w (some a) n f) :
    Calls Tryd.prog 6 #[.slice (some a) n cap] w fun e w' => e = .returned (.slice (some ⟨w.heap.size, 0, none⟩) n n) ∧ FillingS w w' 9 n n f := by
  have hmk := run_make_row' (P := Tryd.prog) 23 9 (.string ByteArray.empty) 16 Tryd.underlying23 infoS rfl .i64 .i64 n (by omega) (by omega)
  have hnil := eql_nil 23 9 (some a) n cap Tryd.underlying23
  go_enter Tryd.func6, Tryd.ntmps6
  go_wp2
  clear hmk
  go_loopg [4] n (fun g i wr => ∃ r : Nat, r ≤ n ∧ g = n - r ∧ i = .int .i64 r ∧ FillingS w wr 9 n r f)
  case atStart => exact ⟨0, Nat.zero_le _, rfl, rfl, fillingS_start _ _ _ _⟩
  case round =>
    obtain ⟨r, hr, rfl, rfl, hF⟩ := hrel
    rcases Nat.lt_or_ge r n with hlt | hge
    · rcases hI with h0 | ⟨b, off, he, hb, hc⟩
      · omega
      · cases he
        have g2 : wr.cell? ⟨b, off + r, none⟩ = some (.string (f r)) := (hF.below.cell (by exact hb)).trans (hc r hlt)
        have g4 : wr.cell? ⟨w.heap.size, r, none⟩ = some (.string ByteArray.empty) := by simpa [fillS] using hF.row.cell hlt
        have g5 := hF.row.frozen r
        clear hc
        go_wp2
        go_roundg (n - (r + 1))
        case measure => omega
        case rel => exact ⟨r + 1, by omega, rfl, rfl, fillingS_step hF⟩
    · have hrn : r = n := by omega
      subst hrn
      clear hI
      go_wp2
      go_ret
      exact ⟨rfl, hF⟩
theorem clone_nil (w : World) : Calls Tryd.prog 6 #[.slice none 0 0] w fun e w' => e = .returned (.slice none 0 0) ∧ w = w' := by
  have hnil := eql_nil 23 9 none 0 0 Tryd.underlying23
  go_enter Tryd.func6, Tryd.ntmps6
  go_wp2
  go_ret
  exact ⟨rfl, rfl⟩
/-- A list of labels that was made at or above block B, or none. -/
structure Lab (B : Nat) (w : World) (o : Option Addr) (n : Nat) (f : Nat → ByteArray) : Prop where
  at_ : StrsAt w o n f
  nil : o = none → n = 0 ∧ n = 0
  ge : ∀ b off, o = some ⟨b, off, none⟩ → B ≤ b
theorem Lab.keep {B n : Nat} {w w' : World} {o : Option Addr} {f : Nat → ByteArray} (h : Lab B w o n f) (hs : w.heap.size ≤ w'.heap.size) (hk : ∀ b, B ≤ b → b < w.heap.size → w'.heap[b]? = w.heap[b]?) : Lab B w' o n f := by
  refine ⟨?_, h.nil, h.ge⟩
  rcases h.at_ with h0 | ⟨b, off, e, hb, hc⟩
  · exact .inl h0
  · have hkb := hk b (h.ge b off e) hb
    exact .inr ⟨b, off, e, by omega, fun i hi => (World.cell?_of_block (a := ⟨b, off + i, none⟩) (w := w) hkb).trans (hc i hi)⟩
theorem Lab.next {B n : Nat} {w w' : World} {o : Option Addr} {f : Nat → ByteArray} (h : Lab B w o n f) (hb : Below w.heap.size w w') : Lab B w' o n f := h.keep hb.size (fun b _ h2 => hb.block b h2)
def Cloned (n : Nat) (f : Nat → ByteArray) (w : World) (e : Ending) (w' : World) : Prop := ∃ o, e = .returned (.slice o n n) ∧ Lab w.heap.size w' o n f ∧ Below w.heap.size w w'
theorem clone (o : Option Addr) (n cap : Nat) (f : Nat → ByteArray) (w : World) (hn : n ≤ 65536) (hI : StrsAt w o n f) (h0 : o = none → n = 0 ∧ cap = 0) :
    Calls Tryd.prog 6 #[.slice o n cap] w (Cloned n f w) := by
  cases o with
  | none =>
    obtain ⟨rfl, rfl⟩ := h0 rfl
    refine (clone_nil w).mono ?_
    rintro e w' ⟨rfl, rfl⟩
    exact ⟨none, rfl, ⟨.inl rfl, fun _ => ⟨rfl, rfl⟩, fun b off h => by cases h⟩, Below.refl _ _⟩
  | some a =>
    refine (clone_some a n cap f w hn hI).mono ?_
    rintro e w' ⟨rfl, hF⟩
    exact ⟨_, rfl, ⟨strs_of_row (hF.row.congr fun i hi => by simp [fillS, hi]), (fun h => by cases h), (fun b off h => by cases h; exact Nat.le_refl _)⟩, hF.below⟩
theorem info8 : (Tryd.prog.info? 5).map (fun i => (i.zero, i.size, i.bytes)) = some (some (.int .u8 0), 1, 1) := by kernel_rfl
def ClonedI (k : IntKind) (n : Nat) (f : Nat → Int) (w : World) (e : Ending) (w' : World) : Prop := ∃ o, e = .returned (.slice o n n) ∧ IntsAt k w' o n f ∧ Below w.heap.size w w'
theorem cloneU_some (a : Addr) (n cap : Nat) (f : Nat → Int) (w : World) (hn : n ≤ 1048576) (hI : IntsAt .u8 w (some a) n f) :
    Calls Tryd.prog 7 #[.slice (some a) n cap] w fun e w' => e = .returned (.slice (some ⟨w.heap.size, 0, none⟩) n n) ∧ Filling w w' 5 .u8 n n f := by
  have hmk := run_make_row' (P := Tryd.prog) 24 5 (.int .u8 0) 1 Tryd.underlying24 info8 rfl .i64 .i64 n (by omega) (by omega)
  have hnil := eql_nil 24 5 (some a) n cap Tryd.underlying24
  go_enter Tryd.func7, Tryd.ntmps7
  go_wp2
  clear hmk
  go_loopg [4] n (fun g i wr => ∃ r : Nat, r ≤ n ∧ g = n - r ∧ i = .int .i64 r ∧ Filling w wr 5 .u8 n r f)
  case atStart => exact ⟨0, Nat.zero_le _, rfl, rfl, filling_start _ _ _ _ _⟩
  case round =>
    obtain ⟨r, hr, rfl, rfl, hF⟩ := hrel
    rcases Nat.lt_or_ge r n with hlt | hge
    · rcases hI with h0 | ⟨b, off, he, hb, hc⟩
      · omega
      · cases he
        have g2 : wr.cell? ⟨b, off + r, none⟩ = some (.int .u8 (f r)) := (hF.below.cell (by exact hb)).trans (hc r hlt)
        have g4 : wr.cell? ⟨w.heap.size, r, none⟩ = some (.int .u8 0) := by simpa [fillTo] using hF.row.cell hlt
        have g5 := hF.row.frozen r
        clear hc
        go_wp2
        go_roundg (n - (r + 1))
        case measure => omega
        case rel => exact ⟨r + 1, by omega, rfl, rfl, filling_step hF⟩
    · have hrn : r = n := by omega
      subst hrn
      clear hI
      go_wp2
      go_ret
      exact ⟨rfl, hF⟩
theorem cloneU_nil (w : World) : Calls Tryd.prog 7 #[.slice none 0 0] w fun e w' => e = .returned (.slice none 0 0) ∧ w = w' := by
  have hnil := eql_nil 24 5 none 0 0 Tryd.underlying24
  go_enter Tryd.func7, Tryd.ntmps7
  go_wp2
  go_ret
  exact ⟨rfl, rfl⟩
theorem cloneU (o : Option Addr) (n cap : Nat) (f : Nat → Int) (w : World) (hn : n ≤ 1048576) (hI : IntsAt .u8 w o n f) (h0 : o = none → n = 0 ∧ cap = 0) :
    Calls Tryd.prog 7 #[.slice o n cap] w fun e w' => ClonedI .u8 n f w e w' := by
  cases o with
  | none =>
    obtain ⟨rfl, rfl⟩ := h0 rfl
    refine (cloneU_nil w).mono ?_
    rintro e w' ⟨rfl, rfl⟩
    exact ⟨none, rfl, .inl rfl, Below.refl _ _⟩
  | some a =>
    refine (cloneU_some a n cap f w hn hI).mono ?_
    rintro e w' ⟨rfl, hF⟩
    exact ⟨_, rfl, ints_of_row (hF.row.congr fun i hi => by simp [fillTo, hi]), hF.below⟩
theorem kindAt (o : Option Addr) (m cap i : Nat) (g : Nat → Int) (w : World) (hm : m ≤ 65536) (hi : i ≤ 65536) (hI : IntsAt .u8 w o m g) :
    Calls Tryd.prog 10 #[.slice o m cap, .int .i64 i] w fun e w' => e = .returned (.int .u8 (if i < m then g i else ((i % 256 : Nat) : Int))) ∧ w = w' := by
  rcases Nat.lt_or_ge i m with hlt | hge
  · obtain ⟨b, off, rfl, hb, hc⟩ := hI.resolve_left (by omega)
    have g2 := hc i hlt
    clear hc
    rw [if_pos hlt]
    go_enter Tryd.func10, Tryd.ntmps10
    go_wp2_with fail
    go_ret
    exact ⟨rfl, rfl⟩
  · rw [if_neg (by omega)]
    go_enter Tryd.func10, Tryd.ntmps10
    go_wp2_with fail
    go_ret
    exact ⟨by simp, rfl⟩
end Go.Proofs.YtimmcjjkfhambaaDoor.Sym
