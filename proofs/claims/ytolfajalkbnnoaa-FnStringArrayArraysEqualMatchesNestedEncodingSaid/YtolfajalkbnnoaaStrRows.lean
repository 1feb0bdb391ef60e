/-
  Slices of string slices: how they read; sizes; clones; equality. Condition: at most 2^20 in all.
-/
import Derived.Test.YtolfajalkbnnoaaByteRows
namespace Go.Proofs.Ytolfajalkbnnoaa.Enc
open Go.RowKit Go.ChangeShapes Go.WideShapes Go.ChangeAt Go.Proofs.Ytolfajalkbnnoaa.Ints Go.Proofs.Ytolfajalkbnnoaa.Join

structure StrRow (w : World) (a : Option Addr) (l c : Nat) (f : Nat → ByteArray) : Prop where
  strs : StrsAt w a l f
  sz : ∀ i, i < l → (f i).size ≤ maxLen
  le : l ≤ maxLen
  nil : a = none → l = 0 ∧ c = 0
theorem openStrRows {H : Type} {enc : TypeId × Value → H} {P : Program} {W : World} {base : Nat} {spare : Nat → Bool} {held : Bool} {t e q : TypeId} {v : Value} {d : DataW H} {ps : List MemPlace} {dom : Reach}
    (ht : P.underlying t = some (.slice e)) (he : P.underlying e = some (.slice q)) (hq : P.underlying q = some .string) (ce : P.cellsOf e = 1) (cq : P.cellsOf q = 1)
    (hv : Value.okWide P W dom base t v) (h : DataW.Trod enc P W 0 spare held t v d ps) :
    ∃ (o : Option Addr) (n cap : Nat) (A : Nat → Option Addr) (L C : Nat → Nat) (F : Nat → Nat → ByteArray), v = .slice o n cap ∧ n ≤ cap ∧ cap ≤ maxLen ∧ HeadsAt W o n A L C ∧ (∀ r, r < n → StrRow W (A r) (L r) (C r) (F r)) ∧ (o = none → n = 0 ∧ cap = 0) := by
  obtain ⟨a0, len, cap, rfl⟩ := okWide_slice ht hv
  obtain ⟨fuel, hf⟩ := h
  rcases Go.Deep.open_slice1 ht ce hf with ⟨hcs, hx⟩ | ⟨a, len', cap', m, k, V, D, Pl, hcs, _, hl, hm, hmm, hx, hi⟩
  · simp [Value.cells] at hcs
    obtain ⟨rfl, rfl, rfl⟩ := hcs
    exact ⟨none, 0, 0, fun _ => none, fun _ => 0, fun _ => 0, fun _ _ => ByteArray.empty, rfl, Nat.le_refl _, Nat.zero_le _, .inl rfl, fun r hr => absurd hr (by omega), fun _ => ⟨rfl, rfl⟩⟩
  · simp [Value.cells] at hcs
    obtain ⟨rfl, rfl, rfl⟩ := hcs
    have hlm : len ≤ m := by rw [hmm]; split <;> omega
    obtain ⟨Y, hY⟩ := Go.Deep.choose_lt (α := Option Addr × Nat × Nat × (Nat → ByteArray)) (n := m) (p := fun i y => V i = .slice y.1 y.2.1 y.2.2.1 ∧ StrRow W y.1 y.2.1 y.2.2.1 y.2.2.2) (fun i hin => by
      obtain ⟨o, n, c, f, h1, h2, h3, h4, h5, h6⟩ := openStrs he hq cq (hi i hin).2
      exact ⟨⟨o, n, c, f⟩, h1, ⟨h4, h5, Nat.le_trans h2 h3, h6⟩⟩)
    refine ⟨some a, len, cap, fun i => (Y i).1, fun i => (Y i).2.1, fun i => (Y i).2.2.1, fun i => (Y i).2.2.2, rfl, hl, hm, ?_, fun r hr => (hY r (by omega)).2, fun h => by cases h⟩
    by_cases h0 : len = 0
    · exact .inl h0
    · right
      obtain ⟨b, off, spot⟩ := a
      have hspot : spot = none := by simpa [Addr.add] using World.cell?_spot (hi 0 (by omega)).1
      subst hspot
      refine ⟨b, off, rfl, ?_, fun i hin => ?_⟩
      · have := lt_of_cell (hi 0 (by omega)).1
        simpa [Addr.add] using this
      · have h1 := (hi i (by omega)).1
        rw [add_plain, (hY i (by omega)).1] at h1
        exact h1
/-- Strings in a block of strings. -/
def StrT (w : World) (o : Option Addr) (n : Nat) (f : Nat → ByteArray) : Prop :=
  n = 0 ∨ ∃ b off, o = some ⟨b, off, none⟩ ∧ (∃ (cur : Array Value) (fr : Nat × Nat), w.heap[b]? = some (.cells cur 9 fr)) ∧ ∀ i, i < n → w.cell? ⟨b, off + i, none⟩ = some (.string (f i))
theorem StrT.keep {w w' : World} {o : Option Addr} {n : Nat} {f : Nat → ByteArray} (h : StrT w o n f) (hk : ∀ (b : Nat) (cur : Array Value) (fr : Nat × Nat), w.heap[b]? = some (.cells cur 9 fr) → w'.heap[b]? = w.heap[b]?) : StrT w' o n f := by
  rcases h with h0 | ⟨b, off, e, ⟨cur, fr, hb⟩, hc⟩
  · exact .inl h0
  · have hkb := hk b cur fr hb
    exact .inr ⟨b, off, e, ⟨cur, fr, hkb.trans hb⟩, fun i hi => (World.cell?_of_block (a := ⟨b, off + i, none⟩) (w := w) hkb).trans (hc i hi)⟩
theorem StrT.below {w w' : World} {o : Option Addr} {n : Nat} {f : Nat → ByteArray} (h : StrT w o n f) (hB : Below w.heap.size w w') : StrT w' o n f :=
  h.keep (fun b cur fr hg => hB.block b (Array.getElem?_eq_some_iff.1 hg).1)
theorem StrT.strs {w : World} {o : Option Addr} {n : Nat} {f : Nat → ByteArray} (h : StrT w o n f) : StrsAt w o n f := by
  rcases h with h0 | ⟨b, off, e, ⟨cur, fr, hb⟩, hc⟩
  · exact .inl h0
  · exact .inr ⟨b, off, e, (Array.getElem?_eq_some_iff.1 hb).1, hc⟩
theorem infoS9 : (Try.prog.info? 9).map (fun i => (i.zero, i.size, i.bytes)) = some (some (.string ByteArray.empty), 1, 16) := by kernel_rfl
theorem cloneS_some (a : Addr) (n cap : Nat) (f : Nat → ByteArray) (w : World) (hn : n ≤ 1048576) (hI : StrsAt w (some a) n f) :
    Calls Try.prog 27 #[.slice (some a) n cap] w fun e w' => e = .returned (.slice (some ⟨w.heap.size, 0, none⟩) n n) ∧ FillingS w w' 9 n n f := by
  have hmk := run_make_row' (P := Try.prog) 38 9 (.string ByteArray.empty) 16 Try.underlying38 infoS9 rfl .i64 .i64 n (by omega) (by omega)
  have hnil := eql_nil 38 9 (some a) n cap Try.underlying38
  go_enter Try.func27, Try.ntmps27
  go_wp2
  clear hmk
  go_loopg [4] n (fun g i wr => ∃ r : Nat, r ≤ n ∧ g = n - r ∧ i = .int .i64 r ∧ FillingS w wr 9 n r f)
  case atStart => exact ⟨0, Nat.zero_le _, rfl, rfl, fillingS_start _ _ _ _⟩
  case round =>
    obtain ⟨r, hr, rfl, rfl, hF⟩ := hrel
    rcases Nat.lt_or_ge r n with hlt | hge
    · rcases hI with h0 | ⟨b, off, he, hb, hc⟩
      · omega
      · cases he
        have g2 : wr.cell? ⟨b, off + r, none⟩ = some (.string (f r)) := (hF.below.cell (by exact hb)).trans (hc r hlt)
        have g4 : wr.cell? ⟨w.heap.size, r, none⟩ = some (.string ByteArray.empty) := by simpa [fillS] using hF.row.cell hlt
        have g5 := hF.row.frozen r
        clear hc
        go_wp2
        go_roundg (n - (r + 1))
        case measure => omega
        case rel => exact ⟨r + 1, by omega, rfl, rfl, fillingS_step hF⟩
    · have hrn : r = n := by omega
      subst hrn
      clear hI
      go_wp2
      go_ret
      exact ⟨rfl, hF⟩
theorem cloneS_nil (w : World) : Calls Try.prog 27 #[.slice none 0 0] w fun e w' => e = .returned (.slice none 0 0) ∧ w = w' := by
  have hnil := eql_nil 38 9 none 0 0 Try.underlying38
  go_enter Try.func27, Try.ntmps27
  go_wp2
  go_ret
  exact ⟨rfl, rfl⟩
def ClonedS (n : Nat) (f : Nat → ByteArray) (w : World) (e : Ending) (w' : World) : Prop := ∃ o, e = .returned (.slice o n n) ∧ StrT w' o n f ∧ Below w.heap.size w w'
theorem cloneS (o : Option Addr) (n cap : Nat) (f : Nat → ByteArray) (w : World) (hn : n ≤ 1048576) (h : StrRow w o n cap f) : Calls Try.prog 27 #[.slice o n cap] w (ClonedS n f w) := by
  cases o with
  | none =>
    obtain ⟨rfl, rfl⟩ := h.nil rfl
    refine (cloneS_nil w).mono ?_
    rintro e w' ⟨rfl, rfl⟩
    exact ⟨none, rfl, .inl rfl, Below.refl _ _⟩
  | some a =>
    refine (cloneS_some a n cap f w hn h.strs).mono ?_
    rintro e w' ⟨rfl, hF⟩
    refine ⟨_, rfl, .inr ⟨w.heap.size, 0, rfl, ?_, fun i hi => ?_⟩, hF.below⟩
    · obtain ⟨c, hc, _⟩ := hF.row
      exact ⟨c, _, hc⟩
    · rw [Nat.zero_add, hF.row.cell hi]
      simp [fillS, hi]
/-- r rows of the clone are laid. -/
structure RowsS (w wr : World) (n r : Nat) (A : Nat → Option Addr) (L : Nat → Nat) (F : Nat → Nat → ByteArray) : Prop where
  below : Below w.heap.size w wr
  row : wr.rowIs w.heap.size 38 n (fun i => if i < r then .slice (A i) (L i) (L i) else .slice none 0 0)
  dat : ∀ i, i < r → StrT wr (A i) (L i) (F i)
theorem rowsS_start (w : World) (n : Nat) (A : Nat → Option Addr) (L : Nat → Nat) (F : Nat → Nat → ByteArray) : RowsS w (w.alloc (.cells (madeCells #[.slice none 0 0] n) 38)) n 0 A L F :=
  ⟨(Below.refl _ _).alloc (Nat.le_refl _) _, (World.rowIs_made w _ n _).congr (fun i _ => by simp), fun i hi => absurd hi (by omega)⟩
theorem rowsS_step {w wr w1 : World} {n r : Nat} {A : Nat → Option Addr} {L : Nat → Nat} {F : Nat → Nat → ByteArray} {a : Option Addr} (h : RowsS w wr n r A L F) (hb : Below wr.heap.size wr w1) (hd : StrT w1 a (L r) (F r)) :
    RowsS w (w1.setCell ⟨w.heap.size, r, none⟩ (.slice a (L r) (L r))) n (r + 1) (fun i => if i = r then a else A i) L F := by
  have hrow := h.row.of_block (hb.block _ h.row.lt)
  obtain ⟨c, hc, _⟩ := hrow
  have keep : ∀ {o : Option Addr} {m : Nat} {f : Nat → ByteArray}, StrT w1 o m f → StrT (w1.setCell ⟨w.heap.size, r, none⟩ (.slice a (L r) (L r))) o m f :=
    fun hB => hB.keep (fun b cur fr hg => Go.Deep.blk_setCell_other _ _ _ _ (cells_ne hg hc (by decide)))
  refine ⟨(h.below.trans (hb.mono h.below.size)).setCell (Nat.le_refl _) _, ((h.row.of_block (hb.block _ h.row.lt)).set r _).congr (fun i _ => ?_), fun i hi => ?_⟩
  · by_cases e : i = r
    · subst e; simp
    · rw [if_neg e, if_neg e]
      by_cases hlt : i < r
      · rw [if_pos hlt, if_pos (by omega)]
      · rw [if_neg hlt, if_neg (by omega)]
  · by_cases e : i = r
    · subst e; simp only [if_true]; exact keep hd
    · rw [if_neg e]
      exact keep ((h.dat i (by omega)).below hb)
theorem infoRS : (Try.prog.info? 38).map (fun i => (i.zero, i.size, i.bytes)) = some (some (.slice none 0 0), 1, 24) := by kernel_rfl
set_option maxHeartbeats 1000000 in
theorem clone2_some (a : Addr) (n cap : Nat) (A : Nat → Option Addr) (L C : Nat → Nat) (F : Nat → Nat → ByteArray) (w : World) (hn : n ≤ 65536) (hI : HeadsAt w (some a) n A L C) (hR : ∀ r, r < n → StrRow w (A r) (L r) (C r) (F r)) (hL : ∀ r, r < n → L r ≤ 1048576) :
    Calls Try.prog 22 #[.slice (some a) n cap] w fun e w' => e = .returned (.slice (some ⟨w.heap.size, 0, none⟩) n n) ∧ ∃ A2, RowsS w w' n n A2 L F := by
  have hmk := run_make_row' (P := Try.prog) 44 38 (.slice none 0 0) 24 Try.underlying44 infoRS rfl .i64 .i64 n (by omega) (by omega)
  have hnil := eql_nil 44 38 (some a) n cap Try.underlying44
  go_enter Try.func22, Try.ntmps22
  go_wp2_with fail
  clear hmk
  replace hL := Lib.hid hL
  go_loopg [4] n (fun g i wr => ∃ (r : Nat) (A2 : Nat → Option Addr), r ≤ n ∧ g = n - r ∧ i = .int .i64 r ∧ RowsS w wr n r A2 L F)
  case atStart => exact ⟨0, fun _ => none, Nat.zero_le _, rfl, rfl, rowsS_start _ _ _ _ _⟩
  case round =>
    obtain ⟨r, A2, hr, rfl, rfl, hF⟩ := hrel
    rcases Nat.lt_or_ge r n with hlt | hge
    · rcases hI with h0 | ⟨b, off, he, hb, hc⟩
      · omega
      · cases he
        have g2 : wr.cell? ⟨b, off + r, none⟩ = some (.slice (A r) (L r) (C r)) := (hF.below.cell (by exact hb)).trans (hc r hlt)
        have hLr : L r ≤ 1048576 := hL.out r hlt
        have hrow := hR r hlt
        have hrow2 : StrRow wr (A r) (L r) (C r) (F r) := ⟨hrow.strs.below hF.below, hrow.sz, hrow.le, hrow.nil⟩
        clear hc
        replace hR := Lib.hid hR
        go_wp2_with fail
        go_at_call 27
        refine (cloneS (A r) (L r) (C r) (F r) wr hLr hrow2).mono ?_
        rintro e w1 ⟨o2, rfl, hd, hb1⟩
        have hrow3 := hF.row.of_block (hb1.block _ hF.row.lt)
        have g4 : w1.cell? ⟨w.heap.size, r, none⟩ = some (.slice none 0 0) := by simpa using hrow3.cell hlt
        have g5 := hrow3.frozen r
        have hstep := Lib.hid (rowsS_step hF hb1 hd)
        clear hrow hrow2 g2
        go_wp2_with fail
        go_roundg (n - (r + 1))
        case measure => omega
        case rel => exact ⟨r + 1, _, by omega, rfl, rfl, hstep.out⟩
    · have hrn : r = n := by omega
      subst hrn
      clear hI
      go_wp2_with fail
      go_ret
      exact ⟨rfl, A2, hF⟩
theorem clone2_nil (w : World) : Calls Try.prog 22 #[.slice none 0 0] w fun e w' => e = .returned (.slice none 0 0) ∧ w = w' := by
  have hnil := eql_nil 44 38 none 0 0 Try.underlying44
  go_enter Try.func22, Try.ntmps22
  go_wp2
  go_ret
  exact ⟨rfl, rfl⟩
/-- A slice of string slices, each in blocks of their own types. -/
structure Two (w : World) (o : Option Addr) (n : Nat) (A : Nat → Option Addr) (L : Nat → Nat) (F : Nat → Nat → ByteArray) : Prop where
  heads : HeadsAt w o n A L L
  rows : ∀ i, i < n → StrT w (A i) (L i) (F i)
theorem Two.below {w w' : World} {o : Option Addr} {n : Nat} {A : Nat → Option Addr} {L : Nat → Nat} {F : Nat → Nat → ByteArray} (h : Two w o n A L F) (hB : Below w.heap.size w w') : Two w' o n A L F :=
  ⟨h.heads.below hB, fun i hi => (h.rows i hi).below hB⟩
def Cloned2 (n : Nat) (L : Nat → Nat) (F : Nat → Nat → ByteArray) (w : World) (e : Ending) (w' : World) : Prop :=
  ∃ o A2, e = .returned (.slice o n n) ∧ Two w' o n A2 L F ∧ Below w.heap.size w w'
theorem clone2 (o : Option Addr) (n cap : Nat) (A : Nat → Option Addr) (L C : Nat → Nat) (F : Nat → Nat → ByteArray) (w : World) (hn : n ≤ 65536) (hI : HeadsAt w o n A L C) (hR : ∀ r, r < n → StrRow w (A r) (L r) (C r) (F r)) (hL : ∀ r, r < n → L r ≤ 1048576) (h0 : o = none → n = 0 ∧ cap = 0) :
    Calls Try.prog 22 #[.slice o n cap] w (Cloned2 n L F w) := by
  cases o with
  | none =>
    obtain ⟨rfl, rfl⟩ := h0 rfl
    refine (clone2_nil w).mono ?_
    rintro e w' ⟨rfl, rfl⟩
    exact ⟨none, A, rfl, ⟨.inl rfl, fun i hi => absurd hi (by omega)⟩, Below.refl _ _⟩
  | some a =>
    refine (clone2_some a n cap A L C F w hn hI hR hL).mono ?_
    rintro e w' ⟨rfl, A2, hF⟩
    exact ⟨_, A2, rfl, ⟨.inr ⟨_, 0, rfl, hF.row.lt, fun r hr => by rw [Nat.zero_add, hF.row.cell hr, if_pos hr]⟩, hF.dat⟩, hF.below⟩
theorem bytes_inj {s t : ByteArray} (h : s.toList = t.toList) : s = t := by
  rw [ByteArray.toList_eq, ByteArray.toList_eq] at h
  exact ByteArray.ext (Array.ext' h)
/-- The comparison of two string slices. -/
def Eqs (n m : Nat) (f g : Nat → ByteArray) : Prop := n = m ∧ ∀ i, i < n → f i = g i
def Said (p : Prop) (w : World) (e : Ending) (w' : World) : Prop := ∃ b : Bool, e = .returned (.bool b) ∧ w = w' ∧ (b = true ↔ p)
set_option maxHeartbeats 1000000 in
theorem eq1 (o o2 : Option Addr) (n m c c2 : Nat) (f g : Nat → ByteArray) (w : World) (hn : n ≤ 1048576) (hm : m ≤ 1048576) (h1 : StrsAt w o n f) (h2 : StrsAt w o2 m g) :
    Calls Try.prog 28 #[.slice o n c, .slice o2 m c2] w (Said (Eqs n m f g) w) := by
  by_cases hnm : n = m
  · subst hnm
    go_enter Try.func28, Try.ntmps28
    go_wp2_with fail
    go_loopg [14] n (fun gk i wr => w = wr ∧ ∃ r : Nat, r ≤ n ∧ gk = n - r ∧ i = .int .i64 r ∧ ∀ q, q < r → f q = g q)
    case atStart => exact ⟨rfl, 0, Nat.zero_le _, rfl, rfl, fun q hq => absurd hq (by omega)⟩
    case round =>
      obtain ⟨rfl, r, hr, rfl, rfl, hq⟩ := hrel
      replace hq := Lib.hid hq
      rcases Nat.lt_or_ge r n with hlt | hge
      · have hA := h1
        have hB := h2
        rcases hA with h0 | ⟨b, off, rfl, _, hc⟩
        · omega
        rcases hB with h0 | ⟨b2, off2, rfl, _, hc2⟩
        · omega
        have g1 := hc r hlt
        have g2 := hc2 r hlt
        clear hc hc2
        by_cases he : f r = g r
        · rw [he] at g1
          replace he := Lib.hid he
          go_wp2_with fail
          go_roundg (n - (r + 1))
          case measure => omega
          case rel => exact ⟨rfl, r + 1, by omega, rfl, rfl, fun q hq' => by
            rcases Nat.lt_or_ge q r with h | h
            · exact hq.out q h
            · (obtain rfl : q = r := by omega); exact he.out⟩
        · have hne : ((f r).toList == (g r).toList) = false := by
            rw [beq_eq_false_iff_ne]
            exact fun h => he (bytes_inj h)
          go_wp2_with fail
          go_ret
          exact ⟨false, rfl, rfl, by simp only [Bool.false_eq_true, false_iff]; exact fun h => he (h.2 r hlt)⟩
      · have hrn : n = r := by omega
        subst hrn
        go_wp2_with fail
        go_ret
        exact ⟨true, rfl, rfl, by simp only [true_iff]; exact ⟨rfl, hq.out⟩⟩
  · go_enter Try.func28, Try.ntmps28
    go_wp2_with fail
    go_ret
    exact ⟨false, rfl, rfl, by simp [Eqs, hnm]⟩
end Go.Proofs.Ytolfajalkbnnoaa.Enc
