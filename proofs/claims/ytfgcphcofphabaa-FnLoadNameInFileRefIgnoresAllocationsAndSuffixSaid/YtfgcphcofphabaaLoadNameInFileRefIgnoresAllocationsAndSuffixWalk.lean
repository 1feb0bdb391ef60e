/-
  The walk of FnLoadNameInFileRefIgnoresAllocationsAndSuffix: it returns true for every file, suffix, slice and names. No condition.
-/
import Derived.Test.YtfgcphcofphabaaName3
namespace Go.Proofs.Ytfgcphcofphabaa.fnLoadNameInFileRefIgnoresAllocationsAndSuffix
open Go.RowKit Go.WideShapes Go.ChangeAt Go.ChangeShapes Go.Proofs.Ytfgcphcofphabaa.Ints Go.Proofs.Ytfgcphcofphabaa.Name

def SomeBool (p : Prop) (w : World) (e : Ending) (w' : World) : Prop := ∃ r : Bool, e = .returned (.bool r) ∧ w = w' ∧ (r = true → p)
set_option maxRecDepth 100000 in
theorem bytes (s t : ByteArray) (a b : Int) (o : Option Addr) (n cap : Nat) (f : Nat → ByteArray) (w : World) (hs : s.size ≤ maxLen) (ht : t.size ≤ maxLen) (hI : StrsAt w o n f) (hf : ∀ i, i < n → (f i).size ≤ maxLen) (hn0 : n ≤ maxLen) :
    Calls Try.prog 4 #[.string s, .string t, .int .u32 a, .int .u32 b, .slice o n cap] w (SomeBool (∀ i, i < n → (f i).size ≤ 1048576) w) := by
  have hm1 : maxLen = 9223372036854775807 := rfl
  rw [hm1] at hf hn0 hs ht
  generalize hz1 : s.size = z1 at *
  generalize hz2 : t.size = z2 at *
  by_cases q1 : 1048576 < z1
  · go_enter Try.func4, Try.ntmps4
    go_wp2_with fail
    go_ret
    exact ⟨false, rfl, rfl, fun h => by cases h⟩
  by_cases q2 : 1048576 < z2
  · go_enter Try.func4, Try.ntmps4
    go_wp2_with fail
    go_ret
    exact ⟨false, rfl, rfl, fun h => by cases h⟩
  by_cases q3 : (1048576 : Int) < (z1 : Int) + (z2 : Int)
  · go_enter Try.func4, Try.ntmps4
    go_wp2_with fail
    go_ret
    exact ⟨false, rfl, rfl, fun h => by cases h⟩
  by_cases q4 : 1048576 < n
  · go_enter Try.func4, Try.ntmps4
    go_wp2_with fail
    go_ret
    exact ⟨false, rfl, rfl, fun h => by cases h⟩
  by_cases q5 : (1048576 : Int) < (z1 : Int) + (z2 : Int) + (n : Int)
  · go_enter Try.func4, Try.ntmps4
    go_wp2_with fail
    go_ret
    exact ⟨false, rfl, rfl, fun h => by cases h⟩
  go_enter Try.func4, Try.ntmps4
  go_wp2_with fail
  go_loopg [11, 12] n (fun gk t i wr => w = wr ∧ ∃ r T : Nat, r ≤ n ∧ gk = n - r ∧ i = .int .i64 r ∧ t = .int .i64 T ∧ T ≤ 1048576 ∧ ∀ q, q < r → (f q).size ≤ 1048576)
  case atStart => exact ⟨rfl, 0, z1 + z2 + n, Nat.zero_le _, rfl, rfl, by first | (simp; done) | (simp; omega), by omega, fun q hq => absurd hq (by omega)⟩
  case round =>
    obtain ⟨rfl, r, T, hr, rfl, rfl, rfl, hTl, hq⟩ := hrel
    replace hq := Lib.hid hq
    rcases Nat.lt_or_ge r n with hlt | hge
    · have hA := hI
      rcases hA with h0 | ⟨b, off, rfl, _, hc⟩
      · omega
      have g1 := hc r hlt
      have hfr := hf r hlt
      clear hc
      by_cases h1 : 1048576 < (f r).size
      · go_wp2_with fail
        go_ret
        exact ⟨false, rfl, rfl, fun h => by cases h⟩
      have j1 : IntKind.i64.wrap ((T : Int) + ((f r).size : Int)) = (T : Int) + ((f r).size : Int) := by simp [IntKind.wrap, IntKind.bits, IntKind.signed]; omega
      by_cases h2 : (1048576 : Int) < (T : Int) + ((f r).size : Int)
      · go_wp2_with fail
        go_ret
        exact ⟨false, rfl, rfl, fun h => by cases h⟩
      go_wp2_with fail
      go_roundg (n - (r + 1))
      case measure => omega
      case rel => exact ⟨rfl, r + 1, T + (f r).size, by omega, rfl, rfl, by simp, by omega, fun q hq' => by
        rcases Nat.lt_or_ge q r with h | h
        · exact hq.out q h
        · (obtain rfl : q = r := by omega); omega⟩
    · have hrn : r = n := by omega
      subst hrn
      go_wp2_with fail
      go_ret
      exact ⟨true, rfl, rfl, fun _ => hq.out⟩
theorem infoS9 : (Try.prog.info? 9).map (fun i => (i.zero, i.size, i.bytes)) = some (some (.string ByteArray.empty), 1, 16) := by kernel_rfl
theorem eql_nil (t e : TypeId) (a : Option Addr) (l c : Nat) (h : Try.prog.underlying t = some (.slice e)) (w : World) : (binOp .eql t (.slice a l c) (.slice none 0 0)).run Try.prog w = .ok (.bool a.isNone) w := by
  simp [binOp, run_equal_slice_nil w t e a l c h]
theorem cloneS_some (a : Addr) (n cap : Nat) (f : Nat → ByteArray) (w : World) (hn : n ≤ 1048576) (hI : StrsAt w (some a) n f) :
    Calls Try.prog 5 #[.slice (some a) n cap] w fun e w' => e = .returned (.slice (some ⟨w.heap.size, 0, none⟩) n n) ∧ FillingS w w' 9 n n f := by
  have hmk := run_make_row' (P := Try.prog) 23 9 (.string ByteArray.empty) 16 Try.underlying23 infoS9 rfl .i64 .i64 n (by omega) (by omega)
  have hnil := eql_nil 23 9 (some a) n cap Try.underlying23
  go_enter Try.func5, Try.ntmps5
  go_wp2
  clear hmk
  go_loopg [4] n (fun g i wr => ∃ r : Nat, r ≤ n ∧ g = n - r ∧ i = .int .i64 r ∧ FillingS w wr 9 n r f)
  case atStart => exact ⟨0, Nat.zero_le _, rfl, rfl, fillingS_start _ _ _ _⟩
  case round =>
    obtain ⟨r, hr, rfl, rfl, hF⟩ := hrel
    rcases Nat.lt_or_ge r n with hlt | hge
    · rcases hI with h0 | ⟨b, off, he, hb, hc⟩
      · omega
      · cases he
        have g2 : wr.cell? ⟨b, off + r, none⟩ = some (.string (f r)) := (hF.below.cell (by exact hb)).trans (hc r hlt)
        have g4 : wr.cell? ⟨w.heap.size, r, none⟩ = some (.string ByteArray.empty) := by simpa [fillS] using hF.row.cell hlt
        have g5 := hF.row.frozen r
        clear hc
        go_wp2
        go_roundg (n - (r + 1))
        case measure => omega
        case rel => exact ⟨r + 1, by omega, rfl, rfl, fillingS_step hF⟩
    · have hrn : r = n := by omega
      subst hrn
      clear hI
      go_wp2
      go_ret
      exact ⟨rfl, hF⟩
theorem cloneS_nil (w : World) : Calls Try.prog 5 #[.slice none 0 0] w fun e w' => e = .returned (.slice none 0 0) ∧ w = w' := by
  have hnil := eql_nil 23 9 none 0 0 Try.underlying23
  go_enter Try.func5, Try.ntmps5
  go_wp2
  go_ret
  exact ⟨rfl, rfl⟩
def ClonedS (n : Nat) (f : Nat → ByteArray) (w : World) (e : Ending) (w' : World) : Prop := ∃ o, e = .returned (.slice o n n) ∧ StrsAt w' o n f ∧ Below w.heap.size w w'
theorem cloneS (o : Option Addr) (n cap : Nat) (f : Nat → ByteArray) (w : World) (hn : n ≤ 1048576) (hI : StrsAt w o n f) (h0 : o = none → n = 0 ∧ cap = 0) : Calls Try.prog 5 #[.slice o n cap] w (ClonedS n f w) := by
  cases o with
  | none =>
    obtain ⟨rfl, rfl⟩ := h0 rfl
    refine (cloneS_nil w).mono ?_
    rintro e w' ⟨rfl, rfl⟩
    exact ⟨none, rfl, .inl rfl, Below.refl _ _⟩
  | some a =>
    refine (cloneS_some a n cap f w hn hI).mono ?_
    rintro e w' ⟨rfl, hF⟩
    exact ⟨_, rfl, strs_of_row (hF.row.congr fun i hi => by simp [fillS, hi]), hF.below⟩
theorem extract_app (s t : ByteArray) (a b : Nat) (h : b ≤ s.size) : (s ++ t).extract a b = s.extract a b := by
  apply ByteArray.ext
  rw [ByteArray.data_extract, ByteArray.data_extract, ByteArray.data_append, Array.extract_append]
  have e : s.data.size = s.size := rfl
  rw [e, show b - s.size = 0 by omega]
  simp
set_option maxRecDepth 100000 in
set_option maxHeartbeats 4000000 in
theorem main (s t : ByteArray) (st L : Nat) (o : Option Addr) (n cap : Nat) (f : Nat → ByteArray) (w : World) (hs : s.size ≤ maxLen) (ht : t.size ≤ maxLen) (hst : st ≤ 4294967295) (hL : L ≤ 4294967295) (hI : StrsAt w o n f) (hf : ∀ i, i < n → (f i).size ≤ maxLen) (hn0 : n ≤ maxLen) (z : o = none → n = 0 ∧ cap = 0) :
    Calls Try.prog 3 #[.string s, .string t, .int .u32 st, .int .u32 L, .slice o n cap] w fun e w' => e = .returned (.bool true) ∧ Below w.heap.size w w' := by
  have HB := Lib.hid (bytes s t st L o n cap f w hs ht hI hf hn0)
  have hm1 : maxLen = 9223372036854775807 := rfl
  rw [hm1] at hf hn0 hs ht
  replace hf := Lib.hid hf
  replace z := Lib.hid z
  clear hm1
  go_enter Try.func3, Try.ntmps3
  go_wp2_with fail
  go_at_call 4
  refine HB.out.mono ?_
  rintro e w' ⟨r, rfl, rfl, hfb⟩
  replace hfb := Lib.hid hfb
  cases r with
  | false =>
    go_wp2_with fail
    go_ret
    exact ⟨rfl, Below.refl _ _⟩
  | true =>
    by_cases q1 : 524288 < s.size
    · go_wp2_with fail
      go_ret
      exact ⟨rfl, Below.refl _ _⟩
    by_cases q2 : 524288 < t.size
    · go_wp2_with fail
      go_ret
      exact ⟨rfl, Below.refl _ _⟩
    by_cases q3 : 16384 < n
    · go_wp2_with fail
      go_ret
      exact ⟨rfl, Below.refl _ _⟩
    clear hs ht hn0
    have j0 : IntKind.i64.wrap ((s.size : Int) + (t.size : Int)) = (s.size : Int) + (t.size : Int) := by simp [IntKind.wrap, IntKind.bits, IntKind.signed]; omega
    have j00 : IntKind.i64.wrap (16 * (n : Int)) = 16 * (n : Int) := by simp [IntKind.wrap, IntKind.bits, IntKind.signed]; omega
    have j1 : IntKind.i64.wrap ((s.size : Int) + (t.size : Int) + 16 * (n : Int)) = (s.size : Int) + (t.size : Int) + 16 * (n : Int) := by simp [IntKind.wrap, IntKind.bits, IntKind.signed]; omega
    by_cases q4 : (1048576 : Int) < (s.size : Int) + (t.size : Int) + 16 * (n : Int)
    · go_wp2_with fail
      go_ret
      exact ⟨rfl, Below.refl _ _⟩
    go_wp2_with fail
    clear j0 j00 j1
    go_loopg [11, 12] n (fun gk t' i wr => w = wr ∧ ∃ r T : Nat, r ≤ n ∧ gk = n - r ∧ i = .int .i64 r ∧ t' = .int .i64 T ∧ T ≤ 1048576)
    case atStart => exact ⟨rfl, 0, s.size + t.size + 16 * n, Nat.zero_le _, rfl, rfl, by first | (simp; done) | (simp; omega), by omega⟩
    case round =>
      obtain ⟨rfl, r, T, hr, rfl, rfl, rfl, hTl⟩ := hrel
      rcases Nat.lt_or_ge r n with hlt | hge
      · have hA := hI
        rcases hA with h0 | ⟨b, off, rfl, _, hc⟩
        · omega
        have g1 := hc r hlt
        have hfr := hfb.out trivial r hlt
        clear hc
        have j1 : IntKind.i64.wrap ((T : Int) + ((f r).size : Int)) = (T : Int) + ((f r).size : Int) := by simp [IntKind.wrap, IntKind.bits, IntKind.signed]; omega
        by_cases h2 : (1048576 : Int) < (T : Int) + ((f r).size : Int)
        · go_wp2_with fail
          go_ret
          exact ⟨rfl, Below.refl _ _⟩
        go_wp2_with fail
        go_roundg (n - (r + 1))
        case measure => omega
        case rel => exact ⟨rfl, r + 1, T + (f r).size, by omega, rfl, rfl, by simp, by omega⟩
      · have hrn : n = r := by omega
        subst hrn
        rcases Nat.eq_zero_or_pos L with hL0 | hL0
        · subst hL0
          go_wp2_with fail
          go_ret
          exact ⟨rfl, Below.refl _ _⟩
        have j2 : IntKind.u64.wrap (st : Int) = (st : Int) := by simp [IntKind.wrap, IntKind.bits, IntKind.signed]; omega
        have j3 : IntKind.u64.wrap (L : Int) = (L : Int) := by simp [IntKind.wrap, IntKind.bits, IntKind.signed]; omega
        have j4 : IntKind.u64.wrap ((st : Int) + (L : Int)) = (st : Int) + (L : Int) := by simp [IntKind.wrap, IntKind.bits, IntKind.signed]; omega
        have j5 : IntKind.u64.wrap (s.size : Int) = (s.size : Int) := by simp [IntKind.wrap, IntKind.bits, IntKind.signed]; omega
        by_cases q5 : (s.size : Int) < (st : Int) + (L : Int)
        · go_wp2_with fail
          go_ret
          exact ⟨rfl, Below.refl _ _⟩
        go_wp2_with fail
        go_at_call 5
        refine (cloneS o n cap f w (by omega) hI z.out).mono ?_
        rintro e w1 ⟨o2, rfl, I2, b1⟩
        have j6 : IntKind.u32.wrap ((st : Int) + (L : Int)) = (st : Int) + (L : Int) := by simp [IntKind.wrap, IntKind.bits, IntKind.signed]; omega
        clear j2 j3 j4 j5
        go_wp2_with fail
        refine (newParser s w1).mono ?_
        rintro e w2 ⟨P, rfl, hPB, hP, b2⟩
        have hnm : (s.extract st (st + L)).size = L := by rw [ByteArray.size_extract]; omega
        have hcell : Hid (∀ w', Below w1.heap.size w1 w' → ∀ r, r < n → ∃ b off, o2 = some ⟨b, off, none⟩ ∧ w'.cell? ⟨b, off + r, none⟩ = some (.string (f r))) := Lib.hid (fun w' hb r hr => by
          rcases I2 with h0 | ⟨b, off, he, hbl, hc⟩
          · omega
          · exact ⟨b, off, he, (hb.cell (p := ⟨b, off + r, none⟩) hbl).trans (hc r hr)⟩)
        clear I2 j6
        replace hnm := Lib.hid hnm
        generalize hB : w1.heap.size = B at *
        replace hB := Lib.hid hB
        go_wp2_with fail
        go_loopg [15] n (fun gk i wr => ∃ r : Nat, r ≤ n ∧ gk = n - r ∧ i = .int .i64 r ∧ Prs B wr P s r ∧ Below B w1 wr)
        case atStart => exact ⟨0, Nat.zero_le _, rfl, rfl, hP, b2⟩
        case round =>
          clear hP b2
          obtain ⟨r, hr, rfl, rfl, hP, b2⟩ := hrel
          rcases Nat.lt_or_ge r n with hlt | hge
          · obtain ⟨b, off, rfl, g1⟩ := hcell.out wr b2 r hlt
            replace hP := Lib.hid hP
            go_wp2_with fail
            go_at_call 7
            refine (zzStoreA B P r s (f r) wr hP.out (by omega) (by have := b2.size; have := hB.out; omega)).mono ?_
            rintro e w3 ⟨⟨x, y, rfl⟩, hP3, b3, _⟩
            replace hP3 := Lib.hid hP3
            replace b3 := b2.trans b3
            clear g1 b2 hP
            go_wp2_with fail
            go_roundg (n - (r + 1))
            case measure => omega
            case rel => exact ⟨r + 1, by omega, rfl, rfl, hP3.out, b3⟩
          · have hrn : n = r := by omega
            subst hrn
            replace hP := Lib.hid hP
            go_wp2_with fail
            go_at_call 8
            refine (zzStoreB P (s.extract st (st + L)) st wr (by rw [hnm.out]; exact hL0) (by rw [hnm.out]; omega) (by omega)).mono ?_
            rintro e w3 ⟨rfl, b3⟩
            have hP3 := Lib.hid (hP.out.below b3)
            replace b3 := b2.trans (b3.mono (by have := b2.size; have := hB.out; omega))
            rw [hnm.out]
            clear b2 hP
            go_wp2_with fail
            have hrb := box_row w3 (.int .u32 (4294967296 - (L : Int))) (.int .u32 st)
            have ba : Below w3.heap.size w3 (w3.alloc (.cells #[.int .u32 (4294967296 - (L : Int)), .int .u32 st] 30)) := (Below.refl _ _).alloc (Nat.le_refl _) _
            have hP4 := hP3.out.below ba
            have b4 := b3.trans (ba.mono (by have := b3.size; have := hB.out; omega))
            have hRP : w3.heap.size ≠ P := by
              obtain ⟨F, v, xs, _, h2, _⟩ := hP3.out
              have := h2.lt; omega
            clear hP3 b3 ba
            generalize (w3.alloc (.cells #[.int .u32 (4294967296 - (L : Int)), .int .u32 st] 30)) = w4 at hrb hP4 b4 ⊢
            generalize w3.heap.size = R at hrb hRP ⊢
            go_loopg [17] n (fun gk i wr => ∃ r : Nat, r ≤ n ∧ gk = n - r ∧ i = .int .i64 r ∧ Prs B wr P s (n + r) ∧ Below B w1 wr ∧ wr.rowIs R 30 2 (fun j => (#[.int .u32 (4294967296 - (L : Int)), .int .u32 st] : Array Value).getD j undef))
            case atStart => exact ⟨0, Nat.zero_le _, rfl, rfl, hP4, b4, hrb⟩
            case round =>
              clear hP4 b4 hrb
              obtain ⟨r, hr2, rfl, rfl, hP, b2, hrb⟩ := hrel
              replace hP := Lib.hid hP
              replace hrb := Lib.hid hrb
              rcases Nat.lt_or_ge r n with hlt | hge
              · obtain ⟨b, off, rfl, g1⟩ := hcell.out wr b2 r hlt
                go_wp2_with fail
                go_at_call 7
                refine (zzStoreA B P (n + r) s (f r) wr hP.out (by omega) (by have := b2.size; have := hB.out; omega)).mono ?_
                rintro e w5 ⟨⟨x, y, rfl⟩, hP3, b3, k3⟩
                replace hP3 := Lib.hid hP3
                have hrb2 := Lib.hid (hrb.out.of_block (w' := w5) (by obtain ⟨c, hc, _⟩ := hrb.out; exact k3 _ _ _ _ hc (by decide) hRP))
                replace b3 := b2.trans b3
                clear g1 b2 hP k3 hrb
                go_wp2_with fail
                go_roundg (n - (r + 1))
                case measure => omega
                case rel => exact ⟨r + 1, by omega, rfl, rfl, hP3.out, b3, hrb2.out⟩
              · have hrn : n = r := by omega
                subst hrn
                go_wp2_with fail
                go_at_call 6
                refine (newParser (s ++ t) wr).mono ?_
                rintro e w5 ⟨Q, rfl, hQB, hQ, b5⟩
                have hP5 := Lib.hid (hP.out.below b5)
                have hrb5 := hrb.out.of_block (w' := w5) (b5.block _ hrb.out.lt)
                have hbr : Below B w1 w5 := b2.trans (b5.mono (by have := b2.size; have := hB.out; omega))
                replace hQ := Lib.hid hQ
                clear hP hrb b2
                have r0 : w5.cell? ⟨R, 0, none⟩ = some (.int .u32 (4294967296 - (L : Int))) := hrb5.cell (i := 0) (by omega)
                have r1 : w5.cell? ⟨R, 1, none⟩ = some (.int .u32 st) := hrb5.cell (i := 1) (by omega)
                go_wp2_with fail
                go_at_call 9
                refine (zzLoad B P (n + n) L st s w5 hP5.out hL0 (by omega) (by omega)).mono ?_
                rintro e w6 ⟨rfl, b6⟩
                have hrb6 := hrb5.of_block (w' := w6) (b6.block _ hrb5.lt)
                have s0 : w6.cell? ⟨R, 0, none⟩ = some (.int .u32 (4294967296 - (L : Int))) := hrb6.cell (i := 0) (by omega)
                have s1 : w6.cell? ⟨R, 1, none⟩ = some (.int .u32 st) := hrb6.cell (i := 1) (by omega)
                have hQ6 := Lib.hid (hQ.out.below b6)
                have hbr6 := hbr.trans (b6.mono (by have := hbr.size; have := hB.out; omega))
                have hex := Lib.hid (extract_app s t st (st + L) (by omega))
                have hsz : (s ++ t).size = s.size + t.size := ByteArray.size_append
                have hq1 : Hid (st + L ≤ (s ++ t).size) := Lib.hid (by rw [hsz]; omega)
                have hq2 : Hid ((s ++ t).size ≤ 1048576) := Lib.hid (by rw [hsz]; omega)
                clear hsz r0 r1 b6 hQ hbr hrb5
                go_wp2_with fail
                go_at_call 9
                refine (zzLoad wr.heap.size Q 0 L st (s ++ t) w6 hQ6.out hL0 hq1.out hq2.out).mono ?_
                rintro e w7 ⟨rfl, b7⟩
                rw [hex.out]
                have hbf := b1.trans (Below.mono (hbr6.trans (b7.mono (by have := hbr6.size; have := hB.out; omega))) (by have := b1.size; have := hB.out; omega))
                clear hbr6 b7 s0 s1
                go_wp2_with fail
                go_ret
                exact ⟨rfl, hbf⟩
set_option maxRecDepth 100000 in
theorem walk (W : World) {H : Type} {enc : TypeId × Value → H} {base : Nat} {p4 : List MemPlace} (a0 : ByteArray) (w0 : a0.size ≤ maxLen) (a1 : ByteArray) (w1 : a1.size ≤ maxLen) (a2 : Int) (w2 : (Lit.int .u32 a2).wf = true) (a3 : Int) (w3 : (Lit.int .u32 a3).wf = true)
    (v4 : Value) (d4 : DataW H) (k4 : Value.okWide Try.prog W .any base 23 v4) (h4 : DataW.Trod enc Try.prog W 0 (fun _ => true) true 23 v4 d4 p4) :
    Calls Try.prog 3 #[.string a0, .string a1, .int .u32 a2, .int .u32 a3, v4] W fun e w' => e = .returned (.bool true) ∧ Below W.heap.size W w' := by
  have e1 : IntKind.u32.min = 0 := rfl
  have e2 : IntKind.u32.max = 4294967295 := rfl
  have q2 : 0 ≤ a2 ∧ a2 ≤ 4294967295 := by simpa [Lit.wf, e1, e2] using w2
  have q3 : 0 ≤ a3 ∧ a3 ≤ 4294967295 := by simpa [Lit.wf, e1, e2] using w3
  obtain ⟨b0, l0, c0, rfl⟩ := okWide_slice Try.underlying23 k4
  obtain ⟨f0, hf0⟩ := h4
  obtain ⟨o, n, c, f, he, x1, x2, i0, s0, z0⟩ := openStrs (v := .slice b0 l0 c0) Try.underlying23 Try.underlying9 (by kernel_rfl) hf0
  rw [he]
  have h := main a0 a1 a2.toNat a3.toNat o n c f W w0 w1 (by omega) (by omega) i0 s0 (Nat.le_trans x1 x2) z0
  rw [Int.toNat_of_nonneg q2.1, Int.toNat_of_nonneg q3.1] at h
  exact h
end Go.Proofs.Ytfgcphcofphabaa.fnLoadNameInFileRefIgnoresAllocationsAndSuffix
