/-
  A slice of byte slices that came in: how it reads; its size; its clone, every row a copy of its own. Condition: at most 2^20 bytes.
-/
import Derived.Test.YtolfajalkbnnoaaJoin8
import Derived.Deep.Matrix
import Derived.Laws.BytesArg
namespace Go.Proofs.Ytolfajalkbnnoaa.Join
open Go.RowKit Go.ChangeShapes Go.WideShapes Go.ChangeAt Go.Proofs.Ytolfajalkbnnoaa.Ints

/-- Row r is the slice (A r, L r, C r). -/
def HeadsAt (w : World) (o : Option Addr) (n : Nat) (A : Nat → Option Addr) (L C : Nat → Nat) : Prop :=
  n = 0 ∨ ∃ b off, o = some ⟨b, off, none⟩ ∧ b < w.heap.size ∧ ∀ r, r < n → w.cell? ⟨b, off + r, none⟩ = some (.slice (A r) (L r) (C r))
theorem HeadsAt.below {w w' : World} {o : Option Addr} {n : Nat} {A : Nat → Option Addr} {L C : Nat → Nat} (h : HeadsAt w o n A L C) (hB : Below w.heap.size w w') : HeadsAt w' o n A L C := by
  rcases h with h | ⟨b, off, e, hb, hc⟩
  · exact .inl h
  · exact .inr ⟨b, off, e, Nat.lt_of_lt_of_le hb hB.size, fun i hi => (hB.cell (by exact hb)).trans (hc i hi)⟩
/-- The rows themselves: bytes. -/
structure ByteRow (w : World) (a : Option Addr) (l c : Nat) (f : Nat → Int) : Prop where
  ints : IntsAt .u8 w a l f
  rng : ∀ i, i < l → 0 ≤ f i ∧ f i ≤ 255
  le : l ≤ maxLen
  nil : a = none → l = 0 ∧ c = 0
theorem openByteRows {H : Type} {enc : TypeId × Value → H} {P : Program} {W : World} {base : Nat} {held : Bool} {t e q : TypeId} {v : Value} {d : DataW H} {ps : List MemPlace} {dom : Reach}
    (ht : P.underlying t = some (.slice e)) (he : P.underlying e = some (.slice q)) (hq : P.underlying q = some (.int .u8)) (ce : P.cellsOf e = 1) (cq : P.cellsOf q = 1)
    (hv : Value.okWide P W dom base t v) (h : DataW.Trod enc P W 0 (fun _ => true) held t v d ps) :
    ∃ (o : Option Addr) (n cap : Nat) (A : Nat → Option Addr) (L C : Nat → Nat) (F : Nat → Nat → Int), v = .slice o n cap ∧ n ≤ cap ∧ cap ≤ maxLen ∧ HeadsAt W o n A L C ∧ (∀ r, r < n → ByteRow W (A r) (L r) (C r) (F r)) ∧ (o = none → n = 0 ∧ cap = 0) := by
  obtain ⟨a0, len, cap, rfl⟩ := okWide_slice ht hv
  obtain ⟨fuel, hf⟩ := h
  have e1 : IntKind.u8.min = 0 := rfl
  have e2 : IntKind.u8.max = 255 := rfl
  rcases Go.Deep.open_int_rows ht he hq ce cq hf with ⟨hcs, hx⟩ | ⟨a, len', cap', A, L, C, Z, hcs, _, hl, hm, hx, hr⟩
  · simp [Value.cells] at hcs
    obtain ⟨rfl, rfl, rfl⟩ := hcs
    exact ⟨none, 0, 0, fun _ => none, fun _ => 0, fun _ => 0, fun _ _ => 0, rfl, Nat.le_refl _, Nat.zero_le _, .inl rfl, fun r hr => absurd hr (by omega), fun _ => ⟨rfl, rfl⟩⟩
  · simp [Value.cells] at hcs
    obtain ⟨rfl, rfl, rfl⟩ := hcs
    refine ⟨some a, len, cap, A, L, C, fun r i => (Z r).getD i 0, rfl, hl, hm, ?_, fun r hrn => ?_, fun h => by cases h⟩
    · by_cases h0 : len = 0
      · exact .inl h0
      · right
        obtain ⟨b, off, spot⟩ := a
        have hspot : spot = none := by simpa [Addr.add] using World.cell?_spot (hr 0 (by omega)).1
        subst hspot
        refine ⟨b, off, rfl, ?_, fun r hrn => ?_⟩
        · have := lt_of_cell (hr 0 (by omega)).1
          simpa [Addr.add] using this
        · have := (hr r (by omega)).1
          rwa [add_plain] at this
    · obtain ⟨hc, hLC, hCm, hZ, hw, hn, ha⟩ := hr r (by omega)
      refine ⟨?_, fun i hi => ?_, Nat.le_trans hLC hCm, fun h => by have := hn h; omega⟩
      · by_cases h0 : L r = 0
        · exact .inl h0
        · right
          cases hA : A r with
          | none => have := hn hA; omega
          | some a' =>
            have ha' := (ha a' hA).2
            obtain ⟨b, off, spot⟩ := a'
            have hspot : spot = none := by simpa [Addr.add] using World.cell?_spot (ha' 0 (by omega))
            subst hspot
            refine ⟨b, off, rfl, ?_, fun i hi => ?_⟩
            · have := lt_of_cell (ha' 0 (by omega))
              simpa [Addr.add] using this
            · have := ha' i (by omega)
              rwa [add_plain] at this
      · have hi' : i < (Z r).length := by omega
        have : (Z r).getD i 0 = (Z r)[i] := by simp [List.getD, hi']
        show 0 ≤ (Z r).getD i 0 ∧ (Z r).getD i 0 ≤ 255
        rw [this]
        simpa [Lit.wf, e1, e2] using hw _ (List.getElem_mem hi')
/-- The bytes of a row. -/
def bl (f : Nat → Int) (n : Nat) : List UInt8 := (List.range n).map fun i => UInt8.ofNat (f i).toNat
theorem bl_len (f : Nat → Int) (n : Nat) : (bl f n).length = n := by simp [bl]
theorem bl_get (f : Nat → Int) (n i : Nat) (h : i < n) (hr : 0 ≤ f i ∧ f i ≤ 255) : (((bl f n).getD i 0).toNat : Int) = f i := by
  have : (bl f n).getD i 0 = UInt8.ofNat (f i).toNat := by simp [bl, List.getD, h]
  rw [this, UInt8.toNat_ofNat']
  omega
theorem info8 : (Try.prog.info? 5).map (fun i => (i.zero, i.size, i.bytes)) = some (some (.int .u8 0), 1, 1) := by kernel_rfl
theorem eql_nil (t e : TypeId) (a : Option Addr) (l c : Nat) (h : Try.prog.underlying t = some (.slice e)) (w : World) : (binOp .eql t (.slice a l c) (.slice none 0 0)).run Try.prog w = .ok (.bool a.isNone) w := by
  simp [binOp, run_equal_slice_nil w t e a l c h]
theorem cloneB_some (a : Addr) (n cap : Nat) (f : Nat → Int) (w : World) (hn : n ≤ 1048576) (hI : IntsAt .u8 w (some a) n f) :
    Calls Try.prog 25 #[.slice (some a) n cap] w fun e w' => e = .returned (.slice (some ⟨w.heap.size, 0, none⟩) n n) ∧ Filling w w' 5 .u8 n n f := by
  have hmk := run_make_row' (P := Try.prog) 32 5 (.int .u8 0) 1 Try.underlying32 info8 rfl .i64 .i64 n (by omega) (by omega)
  have hnil := eql_nil 32 5 (some a) n cap Try.underlying32
  go_enter Try.func25, Try.ntmps25
  go_wp2
  clear hmk
  go_loopg [4] n (fun g i wr => ∃ r : Nat, r ≤ n ∧ g = n - r ∧ i = .int .i64 r ∧ Filling w wr 5 .u8 n r f)
  case atStart => exact ⟨0, Nat.zero_le _, rfl, rfl, filling_start _ _ _ _ _⟩
  case round =>
    obtain ⟨r, hr, rfl, rfl, hF⟩ := hrel
    rcases Nat.lt_or_ge r n with hlt | hge
    · rcases hI with h0 | ⟨b, off, he, hb, hc⟩
      · omega
      · cases he
        have g2 : wr.cell? ⟨b, off + r, none⟩ = some (.int .u8 (f r)) := (hF.below.cell (by exact hb)).trans (hc r hlt)
        have g4 : wr.cell? ⟨w.heap.size, r, none⟩ = some (.int .u8 0) := by simpa [fillTo] using hF.row.cell hlt
        have g5 := hF.row.frozen r
        clear hc
        go_wp2
        go_roundg (n - (r + 1))
        case measure => omega
        case rel => exact ⟨r + 1, by omega, rfl, rfl, filling_step hF⟩
    · have hrn : r = n := by omega
      subst hrn
      clear hI
      go_wp2
      go_ret
      exact ⟨rfl, hF⟩
theorem cloneB_nil (w : World) : Calls Try.prog 25 #[.slice none 0 0] w fun e w' => e = .returned (.slice none 0 0) ∧ w = w' := by
  have hnil := eql_nil 32 5 none 0 0 Try.underlying32
  go_enter Try.func25, Try.ntmps25
  go_wp2
  go_ret
  exact ⟨rfl, rfl⟩
def ClonedB (n : Nat) (f : Nat → Int) (w : World) (e : Ending) (w' : World) : Prop := ∃ o, e = .returned (.slice o n n) ∧ BytesAt w' o n (bl f n) ∧ Below w.heap.size w w'
theorem cloneB (o : Option Addr) (n cap : Nat) (f : Nat → Int) (w : World) (hn : n ≤ 1048576) (h : ByteRow w o n cap f) : Calls Try.prog 25 #[.slice o n cap] w (ClonedB n f w) := by
  cases o with
  | none =>
    obtain ⟨rfl, rfl⟩ := h.nil rfl
    refine (cloneB_nil w).mono ?_
    rintro e w' ⟨rfl, rfl⟩
    exact ⟨none, rfl, ⟨rfl, .inl rfl⟩, Below.refl _ _⟩
  | some a =>
    refine (cloneB_some a n cap f w hn h.ints).mono ?_
    rintro e w' ⟨rfl, hF⟩
    refine ⟨_, rfl, ⟨bl_len f n, .inr ⟨w.heap.size, 0, rfl, ?_, fun i hi => ?_⟩⟩, hF.below⟩
    · obtain ⟨c, hc, _⟩ := hF.row
      exact ⟨c, _, hc⟩
    · rw [bl_get f n i hi (h.rng i hi), Nat.zero_add, hF.row.cell hi]
      simp [fillTo, hi]
def sumL (L : Nat → Nat) : Nat → Nat
  | 0 => 0
  | r + 1 => sumL L r + L r
theorem sumL_mono (L : Nat → Nat) : ∀ n r, r ≤ n → sumL L r ≤ sumL L n
  | 0, r, h => by rw [Nat.le_zero.1 h]; exact Nat.le_refl _
  | n + 1, r, h => by
    rcases Nat.lt_or_ge n r with h1 | h1
    · rw [show r = n + 1 by omega]; exact Nat.le_refl _
    · exact Nat.le_trans (sumL_mono L n r h1) (Nat.le_add_right _ _)
def Sized (w : World) (p : Prop) (e : Ending) (w' : World) : Prop := ∃ t : Int, e = .returned (.int .i64 t) ∧ w = w' ∧ (0 ≤ t ∧ t ≤ 1048577) ∧ (t ≤ 1048576 → p)
set_option maxRecDepth 100000 in
theorem size (o : Option Addr) (n cap : Nat) (A : Nat → Option Addr) (L C : Nat → Nat) (w : World) (hI : HeadsAt w o n A L C) (hL : ∀ r, r < n → L r ≤ maxLen) (hn : n ≤ 65536) :
    Calls Try.prog 7 #[.slice o n cap, .slice none 0 0] w (Sized w (sumL L n ≤ 1048576)) := by
  have hm1 : maxLen = 9223372036854775807 := rfl
  rw [hm1] at hL
  go_enter Try.func7, Try.ntmps7
  go_wp2_with fail
  go_loopg [5, 6] n (fun gk t i wr => w = wr ∧ ∃ r T : Nat, r ≤ n ∧ gk = n - r ∧ i = .int .i64 r ∧ t = .int .i64 T ∧ T = 48 + sumL L r + 24 * r ∧ T ≤ 1048576)
  case atStart => exact ⟨rfl, 0, 48, Nat.zero_le _, rfl, rfl, rfl, rfl, by omega⟩
  case round =>
    obtain ⟨rfl, r, T, hr, rfl, rfl, rfl, hT, hTl⟩ := hrel
    rcases Nat.lt_or_ge r n with hlt | hge
    · have hA := hI
      rcases hA with h0 | ⟨b, off, rfl, _, hc⟩
      · omega
      have g1 := hc r hlt
      have hfr := hL r hlt
      have hsucc : sumL L (r + 1) = sumL L r + L r := rfl
      clear hc
      replace hsucc := Lib.hid hsucc
      replace hT := Lib.hid hT
      generalize hl : L r = l at *
      replace hl := Lib.hid hl
      by_cases h1 : 1048576 < l
      · go_wp2_with fail
        go_ret
        exact ⟨_, rfl, rfl, by omega, fun h => by omega⟩
      have j0 : IntKind.i64.wrap ((l : Int) + 24) = (l : Int) + 24 := by simp [IntKind.wrap, IntKind.bits, IntKind.signed]; omega
      have j1 : IntKind.i64.wrap ((T : Int) + ((l : Int) + 24)) = (T : Int) + ((l : Int) + 24) := by simp [IntKind.wrap, IntKind.bits, IntKind.signed]; omega
      by_cases h2 : (1048576 : Int) < (T : Int) + ((l : Int) + 24)
      · go_wp2_with fail
        go_ret
        exact ⟨_, rfl, rfl, by omega, fun h => by omega⟩
      go_wp2_with fail
      go_roundg (n - (r + 1))
      case measure => omega
      case rel => exact ⟨rfl, r + 1, T + (l + 24), by omega, rfl, rfl, by simp, by rw [hsucc.out, hT.out]; omega, by omega⟩
    · have hrn : r = n := by omega
      subst hrn
      replace hT := Lib.hid hT
      go_wp2_with fail
      go_ret
      exact ⟨_, rfl, rfl, by omega, fun h => by have := hT.out; omega⟩
/-- r rows of the clone are laid. -/
structure Rows2 (w wr : World) (n r : Nat) (A : Nat → Option Addr) (L : Nat → Nat) (D : Nat → List UInt8) : Prop where
  below : Below w.heap.size w wr
  row : wr.rowIs w.heap.size 32 n (fun i => if i < r then .slice (A i) (L i) (L i) else .slice none 0 0)
  dat : ∀ i, i < r → BytesAt wr (A i) (L i) (D i)
theorem rows2_start (w : World) (n : Nat) (A : Nat → Option Addr) (L : Nat → Nat) (D : Nat → List UInt8) : Rows2 w (w.alloc (.cells (madeCells #[.slice none 0 0] n) 32)) n 0 A L D :=
  ⟨(Below.refl _ _).alloc (Nat.le_refl _) _, (World.rowIs_made w _ n _).congr (fun i _ => by simp), fun i hi => absurd hi (by omega)⟩
theorem rows2_step {w wr w1 : World} {n r : Nat} {A : Nat → Option Addr} {L : Nat → Nat} {D : Nat → List UInt8} {a : Option Addr} (h : Rows2 w wr n r A L D) (hb : Below wr.heap.size wr w1) (hd : BytesAt w1 a (L r) (D r)) :
    Rows2 w (w1.setCell ⟨w.heap.size, r, none⟩ (.slice a (L r) (L r))) n (r + 1) (fun i => if i = r then a else A i) L D := by
  have hrow := h.row.of_block (hb.block _ h.row.lt)
  obtain ⟨c, hc, _⟩ := hrow
  have keep : ∀ {o : Option Addr} {m : Nat} {l : List UInt8}, BytesAt w1 o m l → BytesAt (w1.setCell ⟨w.heap.size, r, none⟩ (.slice a (L r) (L r))) o m l :=
    fun hB => hB.keep (fun b cur fr hg => Go.Deep.blk_setCell_other _ _ _ _ (cells_ne hg hc (by decide)))
  refine ⟨(h.below.trans (hb.mono h.below.size)).setCell (Nat.le_refl _) _, ((h.row.of_block (hb.block _ h.row.lt)).set r _).congr (fun i _ => ?_), fun i hi => ?_⟩
  · by_cases e : i = r
    · subst e; simp
    · rw [if_neg e, if_neg e]
      by_cases hlt : i < r
      · rw [if_pos hlt, if_pos (by omega)]
      · rw [if_neg hlt, if_neg (by omega)]
  · by_cases e : i = r
    · subst e; simp only [if_true]; exact keep hd
    · rw [if_neg e]
      exact keep ((h.dat i (by omega)).keep (fun b cur fr hg => hb.block b (Array.getElem?_eq_some_iff.1 hg).1))
theorem infoR : (Try.prog.info? 32).map (fun i => (i.zero, i.size, i.bytes)) = some (some (.slice none 0 0), 1, 24) := by kernel_rfl
set_option maxHeartbeats 1000000 in
theorem cloneL_some (a : Addr) (n cap : Nat) (A : Nat → Option Addr) (L C : Nat → Nat) (F : Nat → Nat → Int) (w : World) (hn : n ≤ 65536) (hI : HeadsAt w (some a) n A L C) (hR : ∀ r, r < n → ByteRow w (A r) (L r) (C r) (F r)) (hL : sumL L n ≤ 1048576) :
    Calls Try.prog 8 #[.slice (some a) n cap] w fun e w' => e = .returned (.slice (some ⟨w.heap.size, 0, none⟩) n n) ∧ ∃ A2, Rows2 w w' n n A2 L (fun i => bl (F i) (L i)) := by
  have hmk := run_make_row' (P := Try.prog) 22 32 (.slice none 0 0) 24 Try.underlying22 infoR rfl .i64 .i64 n (by omega) (by omega)
  have hnil := eql_nil 22 32 (some a) n cap Try.underlying22
  go_enter Try.func8, Try.ntmps8
  go_wp2_with fail
  clear hmk
  replace hL := Lib.hid hL
  go_loopg [4] n (fun g i wr => ∃ (r : Nat) (A2 : Nat → Option Addr), r ≤ n ∧ g = n - r ∧ i = .int .i64 r ∧ Rows2 w wr n r A2 L (fun i => bl (F i) (L i)))
  case atStart => exact ⟨0, fun _ => none, Nat.zero_le _, rfl, rfl, rows2_start _ _ _ _ _⟩
  case round =>
    obtain ⟨r, A2, hr, rfl, rfl, hF⟩ := hrel
    rcases Nat.lt_or_ge r n with hlt | hge
    · rcases hI with h0 | ⟨b, off, he, hb, hc⟩
      · omega
      · cases he
        have g2 : wr.cell? ⟨b, off + r, none⟩ = some (.slice (A r) (L r) (C r)) := (hF.below.cell (by exact hb)).trans (hc r hlt)
        have hLr : L r ≤ 1048576 := by
          have h1 := sumL_mono L n (r + 1) hlt
          have h2 : sumL L (r + 1) = sumL L r + L r := rfl
          have := hL.out
          omega
        have hrow := hR r hlt
        have hrow2 : ByteRow wr (A r) (L r) (C r) (F r) := ⟨hrow.ints.below hF.below, hrow.rng, hrow.le, hrow.nil⟩
        clear hc
        replace hR := Lib.hid hR
        go_wp2_with fail
        go_at_call 25
        refine (cloneB (A r) (L r) (C r) (F r) wr hLr hrow2).mono ?_
        rintro e w1 ⟨o2, rfl, hd, hb1⟩
        have hrow3 := hF.row.of_block (hb1.block _ hF.row.lt)
        have g4 : w1.cell? ⟨w.heap.size, r, none⟩ = some (.slice none 0 0) := by simpa using hrow3.cell hlt
        have g5 := hrow3.frozen r
        have hstep := Lib.hid (rows2_step hF hb1 hd)
        clear hrow hrow2 g2
        go_wp2_with fail
        go_roundg (n - (r + 1))
        case measure => omega
        case rel => exact ⟨r + 1, _, by omega, rfl, rfl, hstep.out⟩
    · have hrn : r = n := by omega
      subst hrn
      clear hI
      go_wp2_with fail
      go_ret
      exact ⟨rfl, A2, hF⟩
theorem cloneL_nil (w : World) : Calls Try.prog 8 #[.slice none 0 0] w fun e w' => e = .returned (.slice none 0 0) ∧ w = w' := by
  have hnil := eql_nil 22 32 none 0 0 Try.underlying22
  go_enter Try.func8, Try.ntmps8
  go_wp2
  go_ret
  exact ⟨rfl, rfl⟩
def ClonedL (n : Nat) (L : Nat → Nat) (D : Nat → List UInt8) (w : World) (e : Ending) (w' : World) : Prop :=
  ∃ o A2, e = .returned (.slice o n n) ∧ HeadsAt w' o n A2 L L ∧ (∀ i, i < n → BytesAt w' (A2 i) (L i) (D i)) ∧ Below w.heap.size w w'
theorem cloneL (o : Option Addr) (n cap : Nat) (A : Nat → Option Addr) (L C : Nat → Nat) (F : Nat → Nat → Int) (w : World) (hn : n ≤ 65536) (hI : HeadsAt w o n A L C) (hR : ∀ r, r < n → ByteRow w (A r) (L r) (C r) (F r)) (hL : sumL L n ≤ 1048576) (h0 : o = none → n = 0 ∧ cap = 0) :
    Calls Try.prog 8 #[.slice o n cap] w (ClonedL n L (fun i => bl (F i) (L i)) w) := by
  cases o with
  | none =>
    obtain ⟨rfl, rfl⟩ := h0 rfl
    refine (cloneL_nil w).mono ?_
    rintro e w' ⟨rfl, rfl⟩
    exact ⟨none, A, rfl, .inl rfl, fun i hi => absurd hi (by omega), Below.refl _ _⟩
  | some a =>
    refine (cloneL_some a n cap A L C F w hn hI hR hL).mono ?_
    rintro e w' ⟨rfl, A2, hF⟩
    exact ⟨_, A2, rfl, .inr ⟨_, 0, rfl, hF.row.lt, fun r hr => by rw [Nat.zero_add, hF.row.cell hr, if_pos hr]⟩, hF.dat, hF.below⟩
end Go.Proofs.Ytolfajalkbnnoaa.Join
