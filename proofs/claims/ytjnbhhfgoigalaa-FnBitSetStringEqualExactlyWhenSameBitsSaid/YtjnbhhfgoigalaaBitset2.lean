/-
  The helpers of FnBitSetStringEqualExactlyWhenSameBits: a copy, the set built from a list, its marks, String and Equals. Condition: at most 65536 bits and indices, each index within the set.
-/
import Derived.Test.YtjnbhhfgoigalaaBitset
import Derived.Laws.BytesArg
import Derived.StillTailTactics
import Derived.Outline
namespace Go.Proofs.Ytjnbhhfgoigalaa.Bitset
open Go.RowKit Go.Proofs.Ytjnbhhfgoigalaa.Ints

theorem info32 : (Try.prog.info? 22).map (fun i => (i.zero, i.size, i.bytes)) = some (some (.int .u32 0), 1, 4) := by kernel_rfl
theorem infoB : (Try.prog.info? 4).map (fun i => (i.zero, i.size, i.bytes)) = some (some (.bool false), 1, 1) := by kernel_rfl
theorem eql_nil (t e : TypeId) (a : Option Addr) (l c : Nat) (h : Try.prog.underlying t = some (.slice e)) (w : World) : (binOp .eql t (.slice a l c) (.slice none 0 0)).run Try.prog w = .ok (.bool a.isNone) w := by
  simp [binOp, run_equal_slice_nil w t e a l c h]

theorem copy_some (a : Addr) (n cap : Nat) (f : Nat → Int) (w : World) (hn : n ≤ 1048576) (hI : IntsAt .u32 w (some a) n f) :
    Calls Try.prog 17 #[.slice (some a) n cap] w fun e w' => e = .returned (.slice (some ⟨w.heap.size, 0, none⟩) n n) ∧ Filling w w' 22 .u32 n n f := by
  have hmk := run_make_row' (P := Try.prog) 41 22 (.int .u32 0) 4 Try.underlying41 info32 rfl .i64 .i64 n (by omega) (by omega)
  have hnil := eql_nil 41 22 (some a) n cap Try.underlying41
  go_enter Try.func17, Try.ntmps17
  go_wp2
  clear hmk
  go_loopg [4] n (fun g i wr => ∃ r : Nat, r ≤ n ∧ g = n - r ∧ i = .int .i64 r ∧ Filling w wr 22 .u32 n r f)
  case atStart => exact ⟨0, Nat.zero_le _, rfl, rfl, filling_start _ _ _ _ _⟩
  case round =>
    obtain ⟨r, hr, rfl, rfl, hF⟩ := hrel
    rcases Nat.lt_or_ge r n with hlt | hge
    · rcases hI with h0 | ⟨b, off, he, hb, hc⟩
      · omega
      · cases he
        have g2 : wr.cell? ⟨b, off + r, none⟩ = some (.int .u32 (f r)) := (hF.below.cell (by exact hb)).trans (hc r hlt)
        have g4 : wr.cell? ⟨w.heap.size, r, none⟩ = some (.int .u32 0) := by simpa [fillTo] using hF.row.cell hlt
        have g5 := hF.row.frozen r
        clear hc
        go_wp2
        go_roundg (n - (r + 1))
        case measure => omega
        case rel => exact ⟨r + 1, by omega, rfl, rfl, filling_step hF⟩
    · have hrn : r = n := by omega
      subst hrn
      clear hI
      go_wp2
      go_ret
      exact ⟨rfl, hF⟩
theorem copy_nil (w : World) : Calls Try.prog 17 #[.slice none 0 0] w fun e w' => e = .returned (.slice none 0 0) ∧ w = w' := by
  have hnil := eql_nil 41 22 none 0 0 Try.underlying41
  go_enter Try.func17, Try.ntmps17
  go_wp2
  go_ret
  exact ⟨rfl, rfl⟩
def Cloned (k : IntKind) (n : Nat) (f : Nat → Int) (w : World) (e : Ending) (w' : World) : Prop := ∃ o, e = .returned (.slice o n n) ∧ IntsAt k w' o n f ∧ Below w.heap.size w w'
theorem copyU (o : Option Addr) (n cap : Nat) (f : Nat → Int) (w : World) (hn : n ≤ 1048576) (hI : IntsAt .u32 w o n f) (h0 : o = none → n = 0 ∧ cap = 0) :
    Calls Try.prog 17 #[.slice o n cap] w fun e w' => Cloned .u32 n f w e w' := by
  cases o with
  | none =>
    obtain ⟨rfl, rfl⟩ := h0 rfl
    refine (copy_nil w).mono ?_
    rintro e w' ⟨rfl, rfl⟩
    exact ⟨none, rfl, .inl rfl, Below.refl _ _⟩
  | some a =>
    refine (copy_some a n cap f w hn hI).mono ?_
    rintro e w' ⟨rfl, hF⟩
    exact ⟨_, rfl, ints_of_row (hF.row.congr fun i hi => by simp [fillTo, hi]), hF.below⟩

/-- Is i among the first r indices? -/
def marked (f : Nat → Int) : Nat → Nat → Bool
  | 0, _ => false
  | r + 1, i => decide (i = (f r).toNat) || marked f r i

structure St (w1 wr : World) (m b d : Nat) (g : Nat → Int) : Prop where
  below : Below w1.heap.size w1 wr
  bits : wr.rowIs b 5 m (fun i => .int .u8 (g i))
  box : wr.cell? ⟨d, 0, none⟩ = some (.slice (some ⟨b, 0, none⟩) m m)
  hb : w1.heap.size ≤ b
  ne : d ≠ b
  byte : Byte g
section
variable {w1 wr : World} {m b d : Nat} {g : Nat → Int}
theorem St.dlt (h : St w1 wr m b d g) : d < wr.heap.size := lt_of_cell h.box
theorem St.alloc (h : St w1 wr m b d g) (o : Obj) : St w1 (wr.alloc o) m b d g :=
  ⟨h.below.alloc h.below.size _, h.bits.alloc _, (World.cell?_alloc_lt wr o ⟨d, 0, none⟩ h.dlt).trans h.box, h.hb, h.ne, h.byte⟩
theorem St.set (h : St w1 wr m b d g) (k : Nat) : St w1 (wr.setCell ⟨b, k / 8, none⟩ (.int .u8 (setOn g k (k / 8)))) m b d (setOn g k) :=
  ⟨h.below.setCell h.hb _, (h.bits.set (k / 8) _).congr fun i _ => by
      show (if i = k / 8 then Value.int .u8 (setOn g k (k / 8)) else .int .u8 (g i)) = .int .u8 (setOn g k i)
      by_cases e : i = k / 8
      · rw [if_pos e, e]
      · rw [if_neg e, setOn, if_neg e],
    (World.cell?_setCell_other wr ⟨b, k / 8, none⟩ ⟨d, 0, none⟩ _ (fun e => h.ne (congrArg Addr.block e).symm)).trans h.box, h.hb, h.ne, setOn_byte h.byte k⟩
theorem St.drew (h : St w1 wr m b d g) : St w1 wr.drew m b d g := ⟨h.below.drew, h.bits.drew, h.box, h.hb, h.ne, h.byte⟩
end

theorem one_row (w : World) (v : Value) (t : TypeId) : (w.alloc (.cells #[v] t)).rowIs w.heap.size t 1 (fun _ => v) :=
  World.rowIs_alloc w #[v] t (fun _ => v) (fun i hi => by
    have : i = 0 := by simpa using hi
    subst this
    rfl)
def Built (m l : Nat) (f : Nat → Int) (w : World) (e : Ending) (w' : World) : Prop :=
  ∃ b g, e = .returned (.agg #[.slice (some ⟨b, 0, none⟩) m m]) ∧ Below w.heap.size w w' ∧ w'.rowIs b 5 m (fun i => .int .u8 (g i)) ∧ Byte g ∧ ∀ i, bitOn g i = marked f l i

theorem bit_zero (i : Nat) : bitOn (fun _ => 0) i = false := by
  rw [bitOn_val (fun _ => ⟨by omega, by omega⟩)]
  simp

set_option maxHeartbeats 1000000 in
theorem build (n : Nat) (hn : n ≤ 65536) (o : Option Addr) (l c : Nat) (hl : l ≤ 65536) (f : Nat → Int) (w : World) (hI : IntsAt .u32 w o l f) (hf : ∀ j, j < l → 0 ≤ f j ∧ f j < n) :
    Calls Try.prog 18 #[.int .u32 n, .slice o l c] w (Built ((n + 7) / 8) l f w) := by
  have hmb : (n + 7) / 8 ≤ 8192 := by omega
  have hmin : ∀ i : Nat, i < n → i / 8 < (n + 7) / 8 := fun i hi => by omega
  have NB := fun w => newBitSet n w hn
  generalize (n + 7) / 8 = m at NB hmb hmin ⊢
  replace hmin := Lib.hid hmin
  replace NB := Lib.hid NB
  go_enter Try.func18, Try.ntmps18
  go_wp2_with fail
  go_at_call 13
  refine (NB.out _).mono ?_
  rintro e w2 ⟨rfl, B2, R2⟩
  have hR4 : w2.rowIs w.heap.size 36 1 (fun _ => .slice none 0 0) := by
    have h := one_row w (.slice none 0 0) 36
    exact h.of_block (B2.block _ h.lt)
  have hBw : Below w.heap.size w w2 := ((Below.refl w.heap.size w).alloc (Nat.le_refl _) (.cells #[.slice none 0 0] 36)).trans (B2.mono (by simp))
  obtain ⟨b, hb⟩ : ∃ b, b = w.heap.size + 1 + 1 := ⟨_, rfl⟩
  have R2' : w2.rowIs b 5 m (fun _ => .int .u8 0) := by rw [hb]; simpa using R2
  have hlt := R2'.lt
  have hS0 : St w (w2.alloc (.cells #[.slice (some ⟨b, 0, none⟩) m m] 36)) m b w2.heap.size (fun _ => 0) :=
    ⟨hBw.alloc hBw.size _, R2'.alloc _, by simp, by omega, by omega, fun _ => ⟨by omega, by omega⟩⟩
  replace hR4 := hR4.alloc (.cells #[.slice (some ⟨b, 0, none⟩) m m] 36)
  obtain ⟨d, hd⟩ : ∃ d, d = w2.heap.size := ⟨_, rfl⟩
  have hd1 : w.heap.size ≠ d := by have := hBw.size; omega
  have hd2 : w.heap.size ≠ b := by omega
  clear R2 R2' hlt B2
  go_wp2_with fail
  have e1 : ((w.alloc (.cells #[.slice none 0 0] 36)).heap.size + 1) = b := by rw [hb]; simp
  first | rw [← hb] | skip
  rw [← hd] at hS0 ⊢
  replace hd := Lib.hid hd
  replace hb := Lib.hid hb
  replace e1 := Lib.hid e1
  go_loopg [6] l (fun gk i wr => ∃ r : Nat, ∃ g, r ≤ l ∧ gk = l - r ∧ i = .int .i64 r ∧ St w wr m b d g ∧ wr.rowIs w.heap.size 36 1 (fun _ => .slice none 0 0) ∧ ∀ i, bitOn g i = marked f r i)
  case atStart => exact ⟨0, _, Nat.zero_le _, rfl, rfl, hS0, hR4, fun i => bit_zero i⟩
  case round =>
    obtain ⟨r, g, hr, rfl, rfl, hS, hR, hM⟩ := hrel
    clear hS0 hR4
    replace hM := Lib.hid hM
    rcases Nat.lt_or_ge r l with hlt | hge
    · rcases hI with h0 | ⟨bb, off, he, hbb, hc⟩
      · omega
      · cases he
        obtain ⟨f0, f1⟩ := hf r hlt
        obtain ⟨q, hq⟩ := Int.eq_ofNat_of_zero_le f0
        have hqn : q < n := by omega
        have g2 : wr.cell? ⟨bb, off + r, none⟩ = some (.int .u32 q) := by rw [← hq]; exact (hS.below.cell (by exact hbb)).trans (hc r hlt)
        have g3 := hS.box
        have hM2 : Hid (∀ i, bitOn (setOn g q) i = marked f (r + 1) i) := Lib.hid (fun i => by rw [bitOn_set hS.byte, marked, hM.out i, hq]; rfl)
        clear hc hf hq f0 f1 hM
        have hqm := hmin.out q hqn
        have hSd := hS.drew
        have hRd := hR.drew
        have hq64 : IntKind.u64.wrap (q : Int) = q := by simp [IntKind.wrap, IntKind.bits, IntKind.signed]; omega
        go_wp2_with fail
        go_still_tail 6, (by kernel_rfl)
        change wpList _ _ _ _ _ wr.drew
        clear hS hR g2 g3
        generalize wr.drew = w3 at hSd hRd ⊢
        have hRb := Lib.hid hSd.bits
        go_wp2_with fail
        go_at_call 14
        refine (setBit b m q g _ hqm hmb hRb.out).mono ?_
        rintro e w4 ⟨rfl, rfl⟩
        go_wp2_with fail
        go_roundg (l - (r + 1))
        case measure => omega
        case rel => exact ⟨r + 1, _, by omega, rfl, rfl, (hSd.set q).alloc _, (hRd.setOther (a := ⟨b, q / 8, none⟩) hd2 _).alloc _, hM2.out⟩
    · have hrn : r = l := by omega
      subst hrn
      have g3 := hS.box
      have g4 := hR.cell (i := 0) (by omega)
      have g5 := hR.frozen 0
      clear hI hf
      go_wp2_with fail
      have hz := hR.lt
      refine bodyPost_ret (v := .agg #[.slice (some ⟨b, 0, none⟩) m m]) (by simp [results, Try.results18, go_sem, g4]) rfl ⟨b, g, rfl, hS.below.setCell (by exact Nat.le_refl _) _, hS.bits.setOther (a := ⟨w.heap.size, 0, none⟩) hd2.symm _, hS.byte, hM.out⟩

/-- The marks of a list. -/
theorem marks (n : Nat) (hn : n ≤ 65536) (o : Option Addr) (l c : Nat) (hl : l ≤ 65536) (f : Nat → Int) (w : World) (hI : IntsAt .u32 w o l f) (hf : ∀ j, j < l → 0 ≤ f j ∧ f j < n) :
    Calls Try.prog 19 #[.int .u32 n, .slice o l c] w fun e w' => e = .returned (.slice (some ⟨w.heap.size, 0, none⟩) n n) ∧ Below w.heap.size w w' ∧ w'.rowIs w.heap.size 4 n (fun i => .bool (marked f l i)) := by
  have hmk := run_make_row' (P := Try.prog) 39 4 (.bool false) 1 Try.underlying39 infoB rfl .i64 .i64 n (by omega) (by omega)
  go_enter Try.func19, Try.ntmps19
  go_wp2
  clear hmk
  go_loopg [6] l (fun gk i wr => ∃ r : Nat, r ≤ l ∧ gk = l - r ∧ i = .int .i64 r ∧ Below w.heap.size w wr ∧ wr.rowIs w.heap.size 4 n (fun i => .bool (marked f r i)))
  case atStart => exact ⟨0, Nat.zero_le _, rfl, rfl, (Below.refl _ _).alloc (Nat.le_refl _) _, World.rowIs_made w (.bool false) n 4⟩
  case round =>
    obtain ⟨r, hr, rfl, rfl, hB, hR⟩ := hrel
    rcases Nat.lt_or_ge r l with hlt | hge
    · rcases hI with h0 | ⟨bb, off, he, hbb, hc⟩
      · omega
      · cases he
        obtain ⟨f0, f1⟩ := hf r hlt
        obtain ⟨q, hq⟩ := Int.eq_ofNat_of_zero_le f0
        have hqn : q < n := by omega
        have g2 : wr.cell? ⟨bb, off + r, none⟩ = some (.int .u32 q) := by rw [← hq]; exact (hB.cell (by exact hbb)).trans (hc r hlt)
        have hfr : (f r).toNat = q := by rw [hq]; rfl
        have g4 := hR.cell hqn
        have g5 := hR.frozen q
        replace hfr := Lib.hid hfr
        clear hc hf hq f0 f1
        go_wp2
        go_roundg (l - (r + 1))
        case measure => omega
        case rel =>
          refine ⟨r + 1, by omega, rfl, rfl, hB.setCell (by exact Nat.le_refl _) _, (hR.set q _).congr fun i _ => ?_⟩
          show (if i = q then Value.bool true else .bool (marked f r i)) = .bool (marked f (r + 1) i)
          rw [marked, hfr.out]
          by_cases e : i = q
          · simp [e]
          · simp [e]
    · have hrn : r = l := by omega
      subst hrn
      clear hI hf
      go_wp2
      go_ret
      exact ⟨rfl, hB, hR⟩

def strOf (g : Nat → Int) (m : Nat) : ByteArray := strOfNums ((List.range m).map g)
theorem conv {b m : Nat} {g : Nat → Int} {w : World} (h : w.rowIs b 5 m (fun i => .int .u8 (g i))) :
    (convert 34 9 (.slice (some ⟨b, 0, none⟩) m m)).run Try.prog w = .ok (.string (strOf g m)) w :=
  run_convert_bytes_arg w 34 5 Try.underlying34 Try.underlying5 b 0 m m ((List.range m).map g) (by simp) (fun i hi => by
    rw [Nat.zero_add, h.cell hi]
    simp [List.getD, hi]) 9 Try.underlying9
theorem str (b m : Nat) (g : Nat → Int) (w : World) (hm : m ≤ 8192) (hR : w.rowIs b 5 m (fun i => .int .u8 (g i))) :
    Calls Try.prog 20 #[.agg #[.slice (some ⟨b, 0, none⟩) m m]] w fun e w' => e = .returned (.string (strOf g m)) ∧ Below w.heap.size w w' := by
  have hcv := conv (hR.alloc (.cells #[.slice (some ⟨b, 0, none⟩) m m] 36))
  go_enter Try.func20, Try.ntmps20
  go_wp2
  go_ret
  exact ⟨rfl, (Below.refl _ _).alloc (Nat.le_refl _) _⟩
theorem bytesEqual (b b' m : Nat) (g g' : Nat → Int) (w : World) (hR : w.rowIs b 5 m (fun i => .int .u8 (g i))) (hR' : w.rowIs b' 5 m (fun i => .int .u8 (g' i))) :
    Calls Try.prog 44 #[.slice (some ⟨b, 0, none⟩) m m, .slice (some ⟨b', 0, none⟩) m m] w fun e w' => e = .returned (.bool ((strOf g m).toList == (strOf g' m).toList)) ∧ w = w' := by
  have h1 := conv hR
  have h2 := conv hR'
  go_enter Try.func44, Try.ntmps44
  go_wp2
  go_ret
  exact ⟨rfl, rfl⟩
theorem equals (b b' m : Nat) (g g' : Nat → Int) (w : World) (hR : w.rowIs b 5 m (fun i => .int .u8 (g i))) (hR' : w.rowIs b' 5 m (fun i => .int .u8 (g' i))) :
    Calls Try.prog 21 #[.agg #[.slice (some ⟨b, 0, none⟩) m m], .agg #[.slice (some ⟨b', 0, none⟩) m m]] w fun e w' => e = .returned (.bool ((strOf g m).toList == (strOf g' m).toList)) ∧ Below w.heap.size w w' := by
  have h1 := (hR.alloc (.cells #[.slice (some ⟨b, 0, none⟩) m m] 36)).alloc (.cells #[.slice (some ⟨b', 0, none⟩) m m] 36)
  have h2 := (hR'.alloc (.cells #[.slice (some ⟨b, 0, none⟩) m m] 36)).alloc (.cells #[.slice (some ⟨b', 0, none⟩) m m] 36)
  replace h1 := Lib.hid h1
  replace h2 := Lib.hid h2
  go_enter Try.func21, Try.ntmps21
  go_wp2_with fail
  go_at_call 44
  refine (bytesEqual b b' m g g' _ h1.out h2.out).mono ?_
  rintro e w' ⟨rfl, rfl⟩
  go_wp2_with fail
  go_ret
  exact ⟨rfl, ((Below.refl _ _).alloc (Nat.le_refl _) _).alloc (by simp) _⟩
end Go.Proofs.Ytjnbhhfgoigalaa.Bitset
