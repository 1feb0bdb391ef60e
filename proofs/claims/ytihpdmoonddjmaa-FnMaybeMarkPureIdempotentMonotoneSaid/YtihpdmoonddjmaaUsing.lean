/-
  Helpers of FnShouldLowerUsingDeclarationsExact: the statements that are built, the parser that is built, and what shouldLowerUsingDeclarations answers. Condition: at most 65536 statements.
-/
import Derived.Test.YtihpdmoonddjmaaRowsI
import Derived.Lib.Hide
import Derived.Laws.Cover3
import Derived.WalkLawsBesides
import Derived.WalkSpells
import Derived.Laws.BitsAllLaws
import Derived.Great.BuildSlice
import Derived.Laws.MakeOwn
import Derived.Outline
namespace Go.Proofs.Ytihpdmoonddjmaa.Using
open Go.RowKit Go.Proofs.Ytihpdmoonddjmaa.Ints

theorem has (a b : Int) (r : Bool) (hr : (bits .and .u64 a b != 0) = r) (w : World) : Calls Try.prog 54 #[.int .u64 a, .int .u64 b] w fun e w' => e = .returned (.bool r) ∧ w = w' := by
  subst hr
  go_enter Try.func54, Try.ntmps54
  go_wp2
  go_ret
  exact ⟨rfl, rfl⟩

/-- What a statement's cell holds for a code. -/
def StmtIs (w : World) (b : Nat) (c : Int) (v : Value) : Prop :=
  (c % 8 ≤ 4 ∧ ∃ B, b < B ∧ v = .iface 284 (.pointer (some ⟨B, 0, none⟩)) ∧ w.cell? ⟨B, 1, none⟩ = some (.int .u8 (c % 8))) ∨
  (4 < c % 8 ∧ ∃ B, v = .iface 290 (.pointer (some ⟨B, 0, none⟩)))

def Local (k : Int) (w : World) (e : Ending) (w' : World) : Prop :=
  ∃ B, w.heap.size ≤ B ∧ e = .returned (.agg #[.iface 284 (.pointer (some ⟨B, 0, none⟩)), .int .i32 0]) ∧ w'.cell? ⟨B, 1, none⟩ = some (.int .u8 k) ∧ Below w.heap.size w w'
theorem localStmt (k : Int) (w : World) : Calls Try.prog 43 #[.int .u8 k] w (Local k w) := by
  go_enter Try.func43, Try.ntmps43
  go_wp2
  refine bodyPost_ret (v := .agg #[.iface 284 (.pointer (some ⟨w.heap.size + 1, 0, none⟩)), .int .i32 0]) (by simp [results, Try.results43, go_sem]) rfl ⟨_, Nat.le_succ _, rfl, by go_simp, ((Below.refl _ _).alloc (Nat.le_refl _) _).alloc (by simp) _⟩
def Expr (w : World) (e : Ending) (w' : World) : Prop := ∃ B, e = .returned (.agg #[.iface 290 (.pointer (some ⟨B, 0, none⟩)), .int .i32 0]) ∧ Below w.heap.size w w'
theorem exprStmt (w : World) : Calls Try.prog 44 #[] w (Expr w) := by
  go_enter Try.func44, Try.ntmps44
  go_wp2
  refine bodyPost_ret (v := .agg #[.iface 290 (.pointer (some ⟨w.heap.size + 1, 0, none⟩)), .int .i32 0]) (by simp [results, Try.results44, go_sem]) rfl ⟨_, rfl, ((Below.refl _ _).alloc (Nat.le_refl _) _).alloc (by simp) _⟩
theorem wpList_buildTo2 {P : Program} {ops : Array Oper} {rest : List Oper} {o : Oper} {a : Act} {w : World} {Q : Exit → Act → World → Prop} (hg : o.guard = none) (t : TypeId) (parts : Array (Nat × Operand)) (ho : o.op = .build t parts)
    (d : Option Tmp) (hd : o.dst = d) (l : List (Nat × Value)) (hl : (parts.map fun (i, x) => (i, a.eval x)).toList = l) (cells : Array Value) (hf : P.built t l = some cells)
    (h : wpList P ops Q rest (a.put d (.agg cells)) w) : wpList P ops Q (o :: rest) a w :=
  Go.wpList_buildTo hg t parts ho d hd cells (by rw [hl]; exact hf) h
theorem parser_cells : ∃ C : Array Value, Try.prog.built 240 [] = some C ∧ C.size = 353 := by
  have h1 : (Try.prog.built 240 []).isSome = true := by kernel_rfl
  obtain ⟨C, hC⟩ := Option.isSome_iff_exists.1 h1
  have h2 : (Try.prog.built 240 []).map (·.size) = some 353 := by kernel_rfl
  rw [hC] at h2
  exact ⟨C, hC, by simpa using h2⟩
def Parser (u : Int) (g : Bool) (w : World) (e : Ending) (w' : World) : Prop :=
  ∃ P, e = .returned (.pointer (some ⟨P, 0, none⟩)) ∧ w'.cell? ⟨P, 23, none⟩ = some (.int .u64 u) ∧ w'.cell? ⟨P, 333, none⟩ = some (.bool g) ∧ Below w.heap.size w w'
set_option maxRecDepth 100000 in
set_option maxHeartbeats 1000000 in
theorem newParser (u : Int) (g s : Bool) (w : World) : Calls Try.prog 21 #[.int .u64 u, .bool g, .bool s] w (Parser u g w) := by
  obtain ⟨C, hC, hsz⟩ := parser_cells
  replace hC := Lib.hid hC
  go_enter Try.func21, Try.ntmps21
  go_wp2_with (refine wpList_buildTo2 rfl 240 _ rfl _ rfl [] (by kernel_rfl) C hC.out ?_)
  go_ret
  exact ⟨_, rfl, by go_simp, by go_simp, (Below.refl _ _).alloc (Nat.le_refl _) _⟩

theorem run_make_rowN {P : Program} (t e : TypeId) (i : TypeInfo) (z : Value) (ht : P.underlying t = some (.slice e)) (hi : P.info? e = some i) (hz : i.zero = some z)
    (kl kc : IntKind) (n c : Nat) (hnc : n ≤ c) (hbytes : i.bytes * c ≤ 281474976710656) (h63 : c ≤ 9223372036854775807) (w : World) :
    (Instr.makeSlice t (.int kl (n : Int)) (.int kc (c : Int))).run P w = .ok (.slice (some ⟨w.heap.size, 0, none⟩) n c) (w.alloc (.cells (madeCells z.cells (c * i.size)) e)) := by
  have hb : (i.bytes : Int) * (c : Int) ≤ 281474976710656 := by
    have h : ((i.bytes * c : Nat) : Int) ≤ 281474976710656 := by omega
    rwa [Int.natCast_mul] at h
  have hr := run_make (P := P) w t e i z ht hi hz kl kc n c (by omega) (by omega) hb (by omega)
  simp only [Int.toNat_natCast] at hr
  exact hr
theorem infoS : (Try.prog.info? 243).map (fun i => (i.zero, i.size, i.bytes)) = some (some (.agg #[.nilIface, .int .i32 0]), 2, 24) := by kernel_rfl
theorem make2 (n : Nat) (hn : n ≤ 65536) (w : World) : (Instr.makeSlice 61 (.int .i64 (n : Int)) (.int .i64 (n : Int))).run Try.prog w =
    .ok (.slice (some ⟨w.heap.size, 0, none⟩) n n) (w.alloc (.cells (madeCells #[.nilIface, .int .i32 0] (n * 2)) 243)) := by
  obtain ⟨i, hi, hz, hs, hb⟩ := info_parts infoS
  have := run_make_rowN (P := Try.prog) 61 243 i _ Try.underlying61 hi hz .i64 .i64 n n (Nat.le_refl _) (by rw [hb]; omega) (by omega) w
  rw [hs] at this
  exact this

/-- The first r elements of the row at b are the statements of the codes. -/
def Row (w : World) (b n r : Nat) (f : Nat → Int) : Prop :=
  ∃ F, w.rowIs b 243 (n * 2) F ∧ ∀ j, j < r → StmtIs w b (f j) (F (j * 2)) ∧ F (j * 2 + 1) = .int .i32 0
theorem made_row (w : World) (n : Nat) (f : Nat → Int) : Row (w.alloc (.cells (madeCells #[.nilIface, .int .i32 0] (n * 2)) 243)) w.heap.size n 0 f := by
  have h := World.rowIs_alloc w (madeCells #[.nilIface, .int .i32 0] (n * 2)) 243 (fun i => if i % 2 = 0 then .nilIface else .int .i32 0) (fun i hi => by
    rw [size_madeCells] at hi
    have h2 : i % 2 = 0 ∨ i % 2 = 1 := by omega
    rcases h2 with h | h <;> simp [madeCells, hi, h])
  rw [size_madeCells] at h
  exact ⟨_, h, fun j hj => absurd hj (by omega)⟩
theorem StmtIs.keep {w w' : World} {b : Nat} {c : Int} {v : Value} (h : StmtIs w b c v) (hk : ∀ B, b < B → ∀ u, w.cell? ⟨B, 1, none⟩ = some u → w'.cell? ⟨B, 1, none⟩ = some u) : StmtIs w' b c v := by
  rcases h with ⟨hc, B, hB, rfl, hu⟩ | h
  · exact .inl ⟨hc, B, hB, rfl, hk B hB _ hu⟩
  · exact .inr h
theorem Row.below {w w' : World} {b n r : Nat} {f : Nat → Int} (h : Row w b n r f) (hB : Below w.heap.size w w') : Row w' b n r f := by
  obtain ⟨F, hR, hF⟩ := h
  exact ⟨F, hR.of_block (hB.block _ hR.lt), fun j hj => ⟨(hF j hj).1.keep fun B _ u hu => (hB.cell (lt_of_cell hu)).trans hu, (hF j hj).2⟩⟩
theorem Row.set {w : World} {b n r : Nat} {f : Nat → Int} (h : Row w b n r f) (v : Value) (hv : StmtIs w b (f r) v) :
    Row ((w.setCell ⟨b, r * 2, none⟩ v).setCell ⟨b, r * 2 + 1, none⟩ (.int .i32 0)) b n (r + 1) f := by
  obtain ⟨F, hR, hF⟩ := h
  have hk : ∀ B, b < B → ∀ u, w.cell? ⟨B, 1, none⟩ = some u → ((w.setCell ⟨b, r * 2, none⟩ v).setCell ⟨b, r * 2 + 1, none⟩ (.int .i32 0)).cell? ⟨B, 1, none⟩ = some u := fun B hB u hu => by
    rw [World.cell?_setCell_other _ _ _ _ (fun e => by have := congrArg Addr.block e; simp at this; omega), World.cell?_setCell_other _ _ _ _ (fun e => by have := congrArg Addr.block e; simp at this; omega)]
    exact hu
  refine ⟨_, (hR.set (r * 2) v).set (r * 2 + 1) (.int .i32 0), fun j hj => ?_⟩
  by_cases e : j = r
  · subst e
    refine ⟨?_, by simp⟩
    show StmtIs _ b (f j) (if j * 2 = j * 2 + 1 then _ else if j * 2 = j * 2 then v else _)
    rw [if_neg (by omega), if_pos rfl]
    exact hv.keep hk
  · have hjr : j < r := by omega
    refine ⟨?_, ?_⟩
    · show StmtIs _ b (f j) (if j * 2 = r * 2 + 1 then _ else if j * 2 = r * 2 then v else F (j * 2))
      rw [if_neg (by omega), if_neg (by omega)]
      exact (hF j hjr).1.keep hk
    · show (if j * 2 + 1 = r * 2 + 1 then _ else if j * 2 + 1 = r * 2 then v else F (j * 2 + 1)) = _
      rw [if_neg (by omega), if_neg (by omega)]
      exact (hF j hjr).2
theorem Row.cells {w : World} {b n r : Nat} {f : Nat → Int} (h : Row w b n r f) {j : Nat} (hj : j < n) :
    ∃ x y, w.cell? ⟨b, j * 2, none⟩ = some x ∧ w.cell? ⟨b, j * 2 + 1, none⟩ = some y ∧ w.frozen? ⟨b, j * 2, none⟩ = false ∧ w.frozen? ⟨b, j * 2 + 1, none⟩ = false := by
  obtain ⟨F, hR, _⟩ := h
  exact ⟨_, _, hR.cell (by omega), hR.cell (by omega), hR.frozen _, hR.frozen _⟩
theorem Row.lt {w : World} {b n r : Nat} {f : Nat → Int} (h : Row w b n r f) : b < w.heap.size := by
  obtain ⟨F, hR, _⟩ := h
  exact hR.lt

def Stmts (n : Nat) (f : Nat → Int) (w : World) (e : Ending) (w' : World) : Prop :=
  e = .returned (.slice (some ⟨w.heap.size, 0, none⟩) n n) ∧ Below w.heap.size w w' ∧ Row w' w.heap.size n n f
set_option maxHeartbeats 2000000 in
theorem stmts (o : Option Addr) (n c : Nat) (f : Nat → Int) (w : World) (hn : n ≤ 65536) (hI : IntsAt .u8 w o n f) (hf : ∀ i, i < n → 0 ≤ f i ∧ f i < 256) :
    Calls Try.prog 23 #[.slice o n c] w (Stmts n f w) := by
  have hmk := make2 n hn
  go_enter Try.func23, Try.ntmps23
  go_wp2_with fail
  clear hmk
  go_loopg [4] n (fun gk i wr => ∃ r : Nat, r ≤ n ∧ gk = n - r ∧ i = .int .i64 r ∧ Below w.heap.size w wr ∧ Row wr w.heap.size n r f)
  case atStart => exact ⟨0, Nat.zero_le _, rfl, rfl, (Below.refl _ _).alloc (Nat.le_refl _) _, made_row w n f⟩
  case round =>
    obtain ⟨r, hr, rfl, rfl, hB, hR⟩ := hrel
    rcases Nat.lt_or_ge r n with hlt | hge
    · rcases hI with h0 | ⟨bb, off, he, hbb, hc⟩
      · omega
      · cases he
        obtain ⟨f0, f1⟩ := hf r hlt
        have g2 : wr.cell? ⟨bb, off + r, none⟩ = some (.int .u8 (f r)) := (hB.cell (by exact hbb)).trans (hc r hlt)
        have hm : f r % 8 = 0 ∨ f r % 8 = 1 ∨ f r % 8 = 2 ∨ f r % 8 = 3 ∨ f r % 8 = 4 ∨ 4 < f r % 8 := by omega
        clear hc hf
        rcases hm with hm | hm | hm | hm | hm | hm
        · go_wp2_with fail
          go_at_call 43
          refine (localStmt _ _).mono ?_
          rintro e w1 ⟨B, hBl, rfl, hc1, B1⟩
          have hB2 := hB.trans (B1.mono hB.size)
          have hR2 := hR.below B1
          obtain ⟨x, y, d0, d1, d2, d3⟩ := hR2.cells hlt
          have hN := hR2.set _ (.inl ⟨by omega, B, by have := hR.lt; omega, rfl, by rw [hm]; exact hc1⟩)
          replace hN := Lib.hid hN
          clear hR hR2 hB B1 g2 hc1
          go_wp2_with fail
          go_roundg (n - (r + 1))
          case measure => omega
          case rel => exact ⟨r + 1, by omega, rfl, rfl, (hB2.setCell (by exact Nat.le_refl _) _).setCell (by exact Nat.le_refl _) _, hN.out⟩
        · go_wp2_with fail
          go_at_call 43
          refine (localStmt _ _).mono ?_
          rintro e w1 ⟨B, hBl, rfl, hc1, B1⟩
          have hB2 := hB.trans (B1.mono hB.size)
          have hR2 := hR.below B1
          obtain ⟨x, y, d0, d1, d2, d3⟩ := hR2.cells hlt
          have hN := hR2.set _ (.inl ⟨by omega, B, by have := hR.lt; omega, rfl, by rw [hm]; exact hc1⟩)
          replace hN := Lib.hid hN
          clear hR hR2 hB B1 g2 hc1
          go_wp2_with fail
          go_roundg (n - (r + 1))
          case measure => omega
          case rel => exact ⟨r + 1, by omega, rfl, rfl, (hB2.setCell (by exact Nat.le_refl _) _).setCell (by exact Nat.le_refl _) _, hN.out⟩
        · go_wp2_with fail
          go_at_call 43
          refine (localStmt _ _).mono ?_
          rintro e w1 ⟨B, hBl, rfl, hc1, B1⟩
          have hB2 := hB.trans (B1.mono hB.size)
          have hR2 := hR.below B1
          obtain ⟨x, y, d0, d1, d2, d3⟩ := hR2.cells hlt
          have hN := hR2.set _ (.inl ⟨by omega, B, by have := hR.lt; omega, rfl, by rw [hm]; exact hc1⟩)
          replace hN := Lib.hid hN
          clear hR hR2 hB B1 g2 hc1
          go_wp2_with fail
          go_roundg (n - (r + 1))
          case measure => omega
          case rel => exact ⟨r + 1, by omega, rfl, rfl, (hB2.setCell (by exact Nat.le_refl _) _).setCell (by exact Nat.le_refl _) _, hN.out⟩
        · go_wp2_with fail
          go_at_call 43
          refine (localStmt _ _).mono ?_
          rintro e w1 ⟨B, hBl, rfl, hc1, B1⟩
          have hB2 := hB.trans (B1.mono hB.size)
          have hR2 := hR.below B1
          obtain ⟨x, y, d0, d1, d2, d3⟩ := hR2.cells hlt
          have hN := hR2.set _ (.inl ⟨by omega, B, by have := hR.lt; omega, rfl, by rw [hm]; exact hc1⟩)
          replace hN := Lib.hid hN
          clear hR hR2 hB B1 g2 hc1
          go_wp2_with fail
          go_roundg (n - (r + 1))
          case measure => omega
          case rel => exact ⟨r + 1, by omega, rfl, rfl, (hB2.setCell (by exact Nat.le_refl _) _).setCell (by exact Nat.le_refl _) _, hN.out⟩
        · go_wp2_with fail
          go_at_call 43
          refine (localStmt _ _).mono ?_
          rintro e w1 ⟨B, hBl, rfl, hc1, B1⟩
          have hB2 := hB.trans (B1.mono hB.size)
          have hR2 := hR.below B1
          obtain ⟨x, y, d0, d1, d2, d3⟩ := hR2.cells hlt
          have hN := hR2.set _ (.inl ⟨by omega, B, by have := hR.lt; omega, rfl, by rw [hm]; exact hc1⟩)
          replace hN := Lib.hid hN
          clear hR hR2 hB B1 g2 hc1
          go_wp2_with fail
          go_roundg (n - (r + 1))
          case measure => omega
          case rel => exact ⟨r + 1, by omega, rfl, rfl, (hB2.setCell (by exact Nat.le_refl _) _).setCell (by exact Nat.le_refl _) _, hN.out⟩
        · have t0 : (f r % 8 == 0) = false := by rw [beq_eq_false_iff_ne]; omega
          have t1 : (f r % 8 == 1) = false := by rw [beq_eq_false_iff_ne]; omega
          have t2 : (f r % 8 == 2) = false := by rw [beq_eq_false_iff_ne]; omega
          have t3 : (f r % 8 == 3) = false := by rw [beq_eq_false_iff_ne]; omega
          have t4 : (f r % 8 == 4) = false := by rw [beq_eq_false_iff_ne]; omega
          go_wp2_with fail
          go_at_call 44
          refine (exprStmt _).mono ?_
          rintro e w1 ⟨B, rfl, B1⟩
          have hB2 := hB.trans (B1.mono hB.size)
          have hR2 := hR.below B1
          obtain ⟨x, y, d0, d1, d2, d3⟩ := hR2.cells hlt
          have hN := hR2.set _ (.inr ⟨by omega, B, rfl⟩)
          replace hN := Lib.hid hN
          clear hR hR2 hB B1 g2
          go_wp2_with fail
          go_roundg (n - (r + 1))
          case measure => omega
          case rel => exact ⟨r + 1, by omega, rfl, rfl, (hB2.setCell (by exact Nat.le_refl _) _).setCell (by exact Nat.le_refl _) _, hN.out⟩
    · have hrn : r = n := by omega
      subst hrn
      clear hI hf
      go_wp2_with fail
      go_ret
      exact ⟨rfl, hB, hR⟩

theorem ta_no (a : Addr) (w : World) : (Instr.typeAssert (.iface 290 (.pointer (some a))) 219 284 true).run Try.prog w = .ok (.tuple #[.pointer none, .bool false]) w := by kernel_rfl
theorem ta_yes (a : Addr) (w : World) : (Instr.typeAssert (.iface 284 (.pointer (some a))) 219 284 true).run Try.prog w = .ok (.tuple #[.pointer (some a), .bool true]) w := by kernel_rfl
def lowB (c : Int) (U A G g : Bool) : Bool := (c % 8 == 3 && U) || (c % 8 == 4 && (U || A || (G && g)))
def anyLow (f : Nat → Int) (U A G g : Bool) : Nat → Bool
  | 0 => false
  | r + 1 => anyLow f U A G g r || lowB (f r) U A G g
theorem anyLow_mono (f : Nat → Int) (U A G g : Bool) (r n : Nat) (h : r ≤ n) (hr : anyLow f U A G g r = true) : anyLow f U A G g n = true := by
  induction n with
  | zero => have : r = 0 := by omega
            subst this; exact hr
  | succ n ih =>
    by_cases e : r = n + 1
    · subst e; exact hr
    · rw [anyLow, ih (by omega)]; rfl

set_option maxRecDepth 100000 in
set_option maxHeartbeats 4000000 in
theorem should (P b n : Nat) (f : Nat → Int) (u : Int) (U A G g : Bool) (w : World) (hn : n ≤ 65536) (hU : (bits .and .u64 u 1152921504606846976 != 0) = U) (hA : (bits .and .u64 u 8 != 0) = A) (hG : (bits .and .u64 u 16 != 0) = G)
    (hu : w.cell? ⟨P, 23, none⟩ = some (.int .u64 u)) (hg : w.cell? ⟨P, 333, none⟩ = some (.bool g)) (hR : Row w b n n f) :
    Calls Try.prog 42 #[.pointer (some ⟨P, 0, none⟩), .slice (some ⟨b, 0, none⟩) n n] w fun e w' => e = .returned (.bool (anyLow f U A G g n)) ∧ Below w.heap.size w w' := by
  have HU := Lib.hid hU
  have HA := Lib.hid hA
  have HG := Lib.hid hG
  clear hU hA hG
  go_enter Try.func42, Try.ntmps42
  go_wp2_with fail
  go_loopg [11] n (fun gk i wr => ∃ r : Nat, r ≤ n ∧ gk = n - r ∧ i = .int .i64 r ∧ Below w.heap.size w wr ∧ anyLow f U A G g r = false)
  case atStart => exact ⟨0, Nat.zero_le _, rfl, rfl, Below.refl _ _, rfl⟩
  case round =>
    obtain ⟨r, hr, rfl, rfl, hB, hL⟩ := hrel
    replace hL := Lib.hid hL
    rcases Nat.lt_or_ge r n with hlt | hge
    · obtain ⟨F, hRow, hF⟩ := hR.below hB
      obtain ⟨hs, hz⟩ := hF r hlt
      have c0 := hRow.cell (i := r * 2) (by omega)
      have c1 := hRow.cell (i := r * 2 + 1) (by omega)
      rw [hz] at c1
      have p1 := (hB.cell (lt_of_cell hu)).trans hu
      have p2 := (hB.cell (lt_of_cell hg)).trans hg
      have q1 := lt_of_cell p1
      have q2 := hRow.lt
      clear hRow hF hz
      rcases hs with ⟨hc, B, hBl, hv, hk⟩ | ⟨hc, B, hv⟩
      · rw [hv] at c0
        have q3 := lt_of_cell hk
        clear hv
        have ta := ta_yes ⟨B, 0, none⟩
        have hLow : anyLow f U A G g (r + 1) = lowB (f r) U A G g := by rw [anyLow, hL.out]; rfl
        have hTrue : lowB (f r) U A G g = true → anyLow f U A G g n = true := fun h => anyLow_mono f U A G g (r + 1) n (by omega) (hLow.trans h)
        unfold lowB at hLow hTrue
        by_cases k3 : f r % 8 = 3
        · rw [k3] at hk hLow hTrue
          replace hLow := Lib.hid hLow
          replace hTrue := Lib.hid hTrue
          clear k3 hc
          cases U
          · go_wp2_with (go_at_call 54; refine (has _ _ _ HU.out _).mono ?_; rintro e w1 ⟨rfl, rfl⟩)
            go_roundg (n - (r + 1))
            case measure => omega
            case rel => exact ⟨r + 1, by omega, rfl, rfl, hB.alloc hB.size _, by rw [hLow.out]; rfl⟩
          · go_wp2_with (go_at_call 54; refine (has _ _ _ HU.out _).mono ?_; rintro e w1 ⟨rfl, rfl⟩)
            go_ret
            exact ⟨by rw [hTrue.out (by rfl)]; rfl, hB.alloc hB.size _⟩
        · have t3 : (f r % 8 == 3) = false := by rw [beq_eq_false_iff_ne]; exact k3
          by_cases k4 : f r % 8 = 4
          · rw [k4] at hk hLow hTrue
            replace hLow := Lib.hid hLow
            replace hTrue := Lib.hid hTrue
            clear k3 k4 t3 hc
            cases U
            · cases A
              · cases G
                · go_wp2_with (go_at_call 54; (first | (with_reducible refine (has u 1152921504606846976 _ HU.out _).mono ?_) | (with_reducible refine (has u 8 _ HA.out _).mono ?_) | (with_reducible refine (has u 16 _ HG.out _).mono ?_)); rintro e w1 ⟨rfl, rfl⟩)
                  go_roundg (n - (r + 1))
                  case measure => omega
                  case rel => exact ⟨r + 1, by omega, rfl, rfl, hB.alloc hB.size _, by rw [hLow.out]; rfl⟩
                · cases g
                  · go_wp2_with (go_at_call 54; (first | (with_reducible refine (has u 1152921504606846976 _ HU.out _).mono ?_) | (with_reducible refine (has u 8 _ HA.out _).mono ?_) | (with_reducible refine (has u 16 _ HG.out _).mono ?_)); rintro e w1 ⟨rfl, rfl⟩)
                    go_roundg (n - (r + 1))
                    case measure => omega
                    case rel => exact ⟨r + 1, by omega, rfl, rfl, hB.alloc hB.size _, by rw [hLow.out]; rfl⟩
                  · go_wp2_with (go_at_call 54; (first | (with_reducible refine (has u 1152921504606846976 _ HU.out _).mono ?_) | (with_reducible refine (has u 8 _ HA.out _).mono ?_) | (with_reducible refine (has u 16 _ HG.out _).mono ?_)); rintro e w1 ⟨rfl, rfl⟩)
                    go_ret
                    exact ⟨by rw [hTrue.out (by rfl)]; rfl, hB.alloc hB.size _⟩
              · go_wp2_with (go_at_call 54; (first | (with_reducible refine (has u 1152921504606846976 _ HU.out _).mono ?_) | (with_reducible refine (has u 8 _ HA.out _).mono ?_) | (with_reducible refine (has u 16 _ HG.out _).mono ?_)); rintro e w1 ⟨rfl, rfl⟩)
                go_ret
                exact ⟨by rw [hTrue.out (by rfl)]; rfl, hB.alloc hB.size _⟩
            · go_wp2_with (go_at_call 54; (first | (with_reducible refine (has u 1152921504606846976 _ HU.out _).mono ?_) | (with_reducible refine (has u 8 _ HA.out _).mono ?_) | (with_reducible refine (has u 16 _ HG.out _).mono ?_)); rintro e w1 ⟨rfl, rfl⟩)
              go_ret
              exact ⟨by rw [hTrue.out (by rfl)]; rfl, hB.alloc hB.size _⟩
          · have t4 : (f r % 8 == 4) = false := by rw [beq_eq_false_iff_ne]; exact k4
            rw [t3, t4] at hLow
            replace hLow := Lib.hid hLow
            clear hTrue
            go_wp2_with fail
            go_roundg (n - (r + 1))
            case measure => omega
            case rel => exact ⟨r + 1, by omega, rfl, rfl, hB.alloc hB.size _, by rw [hLow.out]; rfl⟩
      · rw [hv] at c0
        clear hv
        have e3 : lowB (f r) U A G g = false := by unfold lowB; rw [show (f r % 8 == 3) = false by rw [beq_eq_false_iff_ne]; omega, show (f r % 8 == 4) = false by rw [beq_eq_false_iff_ne]; omega]; rfl
        replace e3 := Lib.hid e3
        have ta := ta_no ⟨B, 0, none⟩
        go_wp2_with fail
        go_roundg (n - (r + 1))
        case measure => omega
        case rel => exact ⟨r + 1, by omega, rfl, rfl, hB.alloc hB.size _, by rw [anyLow, hL.out, e3.out]; rfl⟩
    · have hrn : r = n := by omega
      subst hrn
      go_wp2_with fail
      go_ret
      exact ⟨by rw [hL.out]; rfl, hB⟩
end Go.Proofs.Ytihpdmoonddjmaa.Using
