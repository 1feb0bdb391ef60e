/-
  FnStmtsCareAboutScopeConcatOrderFree: the row of statements that zzBuild builds, the joined list, and what stmtsCareAboutScope answers of a row. Condition: at most 131072 codes.
-/
import Derived.Test.YtfjdpnjdikgofaaScope
import Derived.OwnWalk
import Derived.Laws.OwnMore
import Derived.WalkKit
namespace Go.Proofs.Ytfjdpnjdikgofaa.Scope
open Go.RowKit Go.Proofs.Ytfjdpnjdikgofaa.Ints

theorem norm_eq (c : Int) (h0 : -128 ≤ c) (h1 : c ≤ 127) : (c.tmod 26 < 0 → wrap64 (c.tmod 26 + 26) = c % 26) ∧ (¬ c.tmod 26 < 0 → c.tmod 26 = c % 26) := by
  rcases Int.le_total 0 c with h | h
  · rw [Int.tmod_eq_emod_of_nonneg h]
    exact ⟨fun hh => by omega, fun _ => rfl⟩
  · obtain ⟨m, rfl⟩ : ∃ m, c = -m := ⟨-c, by omega⟩
    rw [Int.neg_tmod, Int.tmod_eq_emod_of_nonneg (by omega)]
    unfold wrap64
    omega
theorem norm (c : Int) (h0 : -128 ≤ c) (h1 : c ≤ 127) (w : World) : Calls Try.prog 53 #[.int .i8 c] w fun e w' => e = .returned (.int .i64 (c % 26)) ∧ w = w' := by
  obtain ⟨n1, n2⟩ := norm_eq c h0 h1
  replace n1 := Lib.hid n1
  replace n2 := Lib.hid n2
  by_cases hn : c.tmod 26 < 0
  · go_enter Try.func53, Try.ntmps53
    go_wp2
    go_ret
    exact ⟨congrArg (fun z => Ending.returned (.int .i64 z)) (n1.out hn), rfl⟩
  · go_enter Try.func53, Try.ntmps53
    go_wp2
    go_ret
    exact ⟨congrArg (fun z => Ending.returned (.int .i64 z)) (n2.out hn), rfl⟩

theorem StmtIs.keep {w w' : World} {b : Nat} {c : Int} {v : Value} (h : StmtIs w b c v) (hk : ∀ B, b < B → ∀ u, w.cell? ⟨B, 1, none⟩ = some u → w'.cell? ⟨B, 1, none⟩ = some u) : StmtIs w' b c v := by
  rcases h with h | h | ⟨h0, h1, B, hB, rfl, hu⟩
  · exact .inl h
  · exact .inr (.inl h)
  · exact .inr (.inr ⟨h0, h1, B, hB, rfl, hk B hB _ hu⟩)
theorem StmtIs.shape {w : World} {b : Nat} {c : Int} {v : Value} (h : StmtIs w b c v) : v = .nilIface ∨ ∃ t B, v = .iface t (.pointer (some ⟨B, 0, none⟩)) := by
  rcases h with ⟨_, h⟩ | ⟨_, _, _, B, h⟩ | ⟨_, _, B, _, h, _⟩
  · exact .inl h
  · exact .inr ⟨_, B, h⟩
  · exact .inr ⟨_, B, h⟩
theorem run_make_rowN {P : Program} (t e : TypeId) (i : TypeInfo) (z : Value) (ht : P.underlying t = some (.slice e)) (hi : P.info? e = some i) (hz : i.zero = some z)
    (kl kc : IntKind) (n c : Nat) (hnc : n ≤ c) (hbytes : i.bytes * c ≤ 281474976710656) (h63 : c ≤ 9223372036854775807) (w : World) :
    (Instr.makeSlice t (.int kl (n : Int)) (.int kc (c : Int))).run P w = .ok (.slice (some ⟨w.heap.size, 0, none⟩) n c) (w.alloc (.cells (madeCells z.cells (c * i.size)) e)) := by
  have hb : (i.bytes : Int) * (c : Int) ≤ 281474976710656 := by
    have h : ((i.bytes * c : Nat) : Int) ≤ 281474976710656 := by omega
    rwa [Int.natCast_mul] at h
  have hr := run_make (P := P) w t e i z ht hi hz kl kc n c (by omega) (by omega) hb (by omega)
  simp only [Int.toNat_natCast] at hr
  exact hr
theorem infoS : (Try.prog.info? 35).map (fun i => (i.zero, i.size, i.bytes)) = some (some (.agg #[.nilIface, .int .i32 0]), 2, 24) := by kernel_rfl
theorem mkS (n : Nat) (hn : n ≤ 131072) (w : World) : (Instr.makeSlice 109 (.int .i64 (n : Int)) (.int .i64 (n : Int))).run Try.prog w =
    .ok (.slice (some ⟨w.heap.size, 0, none⟩) n n) (w.alloc (.cells (madeCells #[.nilIface, .int .i32 0] (n * 2)) 35)) := by
  obtain ⟨i, hi, hz, hs, hb⟩ := info_parts infoS
  have := run_make_rowN (P := Try.prog) 109 35 i _ Try.underlying109 hi hz .i64 .i64 n n (Nat.le_refl _) (by rw [hb]; omega) (by omega) w
  rw [hs] at this
  exact this
/-- The first r elements of the row at b are the statements of the codes. -/
def Row (w : World) (b n r : Nat) (f : Nat → Int) : Prop :=
  ∃ F, w.rowIs b 35 (n * 2) F ∧ ∀ j, j < r → StmtIs w b (f j % 26) (F (j * 2)) ∧ ∃ l, F (j * 2 + 1) = .int .i32 l
theorem made_row (w : World) (n : Nat) (f : Nat → Int) : Row (w.alloc (.cells (madeCells #[.nilIface, .int .i32 0] (n * 2)) 35)) w.heap.size n 0 f := by
  have h := World.rowIs_alloc w (madeCells #[.nilIface, .int .i32 0] (n * 2)) 35 (fun i => if i % 2 = 0 then .nilIface else .int .i32 0) (fun i hi => by
    rw [size_madeCells] at hi
    have h2 : i % 2 = 0 ∨ i % 2 = 1 := by omega
    rcases h2 with h | h <;> simp [madeCells, hi, h])
  rw [size_madeCells] at h
  exact ⟨_, h, fun j hj => absurd hj (by omega)⟩
theorem Row.below {w w' : World} {b n r : Nat} {f : Nat → Int} (h : Row w b n r f) (hB : Below w.heap.size w w') : Row w' b n r f := by
  obtain ⟨F, hR, hF⟩ := h
  exact ⟨F, hR.of_block (hB.block _ hR.lt), fun j hj => ⟨(hF j hj).1.keep fun B _ u hu => (hB.cell (lt_of_cell hu)).trans hu, (hF j hj).2⟩⟩
theorem Row.set {w : World} {b n r : Nat} {f : Nat → Int} (h : Row w b n r f) (v : Value) (l : Int) (hv : StmtIs w b (f r % 26) v) :
    Row ((w.setCell ⟨b, r * 2, none⟩ v).setCell ⟨b, r * 2 + 1, none⟩ (.int .i32 l)) b n (r + 1) f := by
  obtain ⟨F, hR, hF⟩ := h
  have hk : ∀ B, b < B → ∀ u, w.cell? ⟨B, 1, none⟩ = some u → ((w.setCell ⟨b, r * 2, none⟩ v).setCell ⟨b, r * 2 + 1, none⟩ (.int .i32 l)).cell? ⟨B, 1, none⟩ = some u := fun B hB u hu => by
    rw [World.cell?_setCell_other _ _ _ _ (fun e => by have := congrArg Addr.block e; simp at this; omega), World.cell?_setCell_other _ _ _ _ (fun e => by have := congrArg Addr.block e; simp at this; omega)]
    exact hu
  refine ⟨_, (hR.set (r * 2) v).set (r * 2 + 1) (.int .i32 l), fun j hj => ?_⟩
  by_cases e : j = r
  · subst e
    refine ⟨?_, l, by simp⟩
    show StmtIs _ b (f j % 26) (if j * 2 = j * 2 + 1 then _ else if j * 2 = j * 2 then v else _)
    rw [if_neg (by omega), if_pos rfl]
    exact hv.keep hk
  · have hjr : j < r := by omega
    refine ⟨?_, ?_⟩
    · show StmtIs _ b (f j % 26) (if j * 2 = r * 2 + 1 then _ else if j * 2 = r * 2 then v else F (j * 2))
      rw [if_neg (by omega), if_neg (by omega)]
      exact (hF j hjr).1.keep hk
    · obtain ⟨l', hl⟩ := (hF j hjr).2
      refine ⟨l', ?_⟩
      show (if j * 2 + 1 = r * 2 + 1 then _ else if j * 2 + 1 = r * 2 then v else F (j * 2 + 1)) = _
      rw [if_neg (by omega), if_neg (by omega)]
      exact hl
theorem Row.cells {w : World} {b n r : Nat} {f : Nat → Int} (h : Row w b n r f) {j : Nat} (hj : j < n) :
    ∃ x y, w.cell? ⟨b, j * 2, none⟩ = some x ∧ w.cell? ⟨b, j * 2 + 1, none⟩ = some y ∧ w.frozen? ⟨b, j * 2, none⟩ = false ∧ w.frozen? ⟨b, j * 2 + 1, none⟩ = false := by
  obtain ⟨F, hR, _⟩ := h
  exact ⟨_, _, hR.cell (by omega), hR.cell (by omega), hR.frozen _, hR.frozen _⟩
theorem Row.lt {w : World} {b n r : Nat} {f : Nat → Int} (h : Row w b n r f) : b < w.heap.size := by
  obtain ⟨F, hR, _⟩ := h
  exact hR.lt
def Stm (w : World) (o : Option Addr) (n : Nat) (f : Nat → Int) : Prop := n = 0 ∨ ∃ b, o = some ⟨b, 0, none⟩ ∧ Row w b n n f
theorem Stm.below {w w' : World} {o : Option Addr} {n : Nat} {f : Nat → Int} (h : Stm w o n f) (hB : Below w.heap.size w w') : Stm w' o n f := by
  rcases h with h | ⟨b, e, h⟩
  · exact .inl h
  · exact .inr ⟨b, e, h.below hB⟩

theorem nilq (a : Option Addr) (l c : Nat) (w : World) : (binOp .eql 106 (.slice a l c) (.slice none 0 0)).run Try.prog w = .ok (.bool a.isNone) w := by
  simp [binOp, run_equal_slice_nil w 106 166 a l c Try.underlying106]
def Built (n : Nat) (f : Nat → Int) (w : World) (e : Ending) (w' : World) : Prop := ∃ o, e = .returned (.slice o n n) ∧ Below w.heap.size w w' ∧ Stm w' o n f
set_option maxRecDepth 100000 in
set_option maxHeartbeats 2000000 in
theorem build_some (a : Addr) (n c : Nat) (f : Nat → Int) (w : World) (hn : n ≤ 131072) (hI : IntsAt .i8 w (some a) n f) (hf : ∀ i, i < n → -128 ≤ f i ∧ f i ≤ 127) :
    Calls Try.prog 34 #[.slice (some a) n c] w (Built n f w) := by
  have hmk := mkS n hn
  have hnil := nilq (some a) n c
  go_enter Try.func34, Try.ntmps34
  go_wp2_with fail
  clear hmk
  go_loopg [4] n (fun gk i wr => ∃ r : Nat, r ≤ n ∧ gk = n - r ∧ i = .int .i64 r ∧ Below w.heap.size w wr ∧ Row wr w.heap.size n r f)
  case atStart => exact ⟨0, Nat.zero_le _, rfl, rfl, (Below.refl _ _).alloc (Nat.le_refl _) _, made_row w n f⟩
  case round =>
    obtain ⟨r, hr, rfl, rfl, hB, hR⟩ := hrel
    rcases Nat.lt_or_ge r n with hlt | hge
    · rcases hI with h0 | ⟨bb, off, he, hbb, hc⟩
      · omega
      · cases he
        obtain ⟨f0, f1⟩ := hf r hlt
        have g2 : wr.cell? ⟨bb, off + r, none⟩ = some (.int .i8 (f r)) := (hB.cell (by exact hbb)).trans (hc r hlt)
        have hm0 : 0 ≤ f r % 26 := Int.emod_nonneg _ (by decide)
        have hm1 : f r % 26 ≤ 25 := by have := Int.emod_lt_of_pos (f r) (b := 26) (by decide); omega
        clear hc hf
        go_wp2_with fail
        go_at_call 53
        refine (norm _ f0 f1 _).mono ?_
        rintro e w1 ⟨rfl, rfl⟩
        go_wp2_with fail
        go_at_call 52
        refine (make _ _ hm0 hm1 _).mono ?_
        rintro e w1 ⟨v, rfl, hS, B1⟩
        have hB2 := hB.trans (B1.mono hB.size)
        have hR2 := hR.below B1
        obtain ⟨x, y, d0, d1, d2, d3⟩ := hR2.cells hlt
        have hN := fun l => hR2.set v l (hS _ hR.lt)
        replace hN := Lib.hid hN
        have shp := (hS _ hR.lt).shape
        clear hR hR2 hB B1 g2 hS
        rcases shp with rfl | ⟨t, B, rfl⟩
        all_goals
          go_wp2_with fail
          go_roundg (n - (r + 1))
          case measure => omega
          case rel => exact ⟨r + 1, by omega, rfl, rfl, (hB2.setCell (by exact Nat.le_refl _) _).setCell (by exact Nat.le_refl _) _, hN.out _⟩
    · have hrn : r = n := by omega
      subst hrn
      clear hI hf
      go_wp2_with fail
      go_ret
      exact ⟨_, rfl, hB, .inr ⟨_, rfl, hR⟩⟩
theorem build_none (f : Nat → Int) (w : World) : Calls Try.prog 34 #[.slice none 0 0] w (Built 0 f w) := by
  have hnil := nilq none 0 0
  go_enter Try.func34, Try.ntmps34
  go_wp2
  go_ret
  exact ⟨none, rfl, Below.refl _ _, .inl rfl⟩
theorem build (o : Option Addr) (n c : Nat) (f : Nat → Int) (w : World) (hn : n ≤ 131072) (hI : IntsAt .i8 w o n f) (h0 : o = none → n = 0 ∧ c = 0) (hf : ∀ i, i < n → -128 ≤ f i ∧ f i ≤ 127) : Calls Try.prog 34 #[.slice o n c] w (Built n f w) := by
  cases o with
  | none =>
    obtain ⟨rfl, rfl⟩ := h0 rfl
    exact build_none f w
  | some a => exact build_some a n c f w hn hI hf

def anyC (f : Nat → Int) : Nat → Bool
  | 0 => false
  | r + 1 => anyC f r || decide (20 ≤ f r % 26)
theorem anyC_mono (f : Nat → Int) (r n : Nat) (h : r ≤ n) (hr : anyC f r = true) : anyC f n = true := by
  induction n with
  | zero => have : r = 0 := by omega
            subst this; exact hr
  | succ n ih =>
    by_cases e : r = n + 1
    · subst e; exact hr
    · rw [anyC, ih (by omega)]; rfl
set_option maxRecDepth 100000 in
set_option maxHeartbeats 2000000 in
theorem cares (o : Option Addr) (n : Nat) (f : Nat → Int) (w : World) (hn : n ≤ 131072) (hS : Stm w o n f) : Calls Try.prog 51 #[.slice o n n] w fun e w' => e = .returned (.bool (anyC f n)) ∧ Below w.heap.size w w' := by
  go_enter Try.func51, Try.ntmps51
  go_wp2_with fail
  go_loopg [7] n (fun gk i wr => ∃ r : Nat, r ≤ n ∧ gk = n - r ∧ i = .int .i64 r ∧ Below w.heap.size w wr ∧ anyC f r = false)
  case atStart => exact ⟨0, Nat.zero_le _, rfl, rfl, Below.refl _ _, rfl⟩
  case round =>
    obtain ⟨r, hr, rfl, rfl, hB, hL⟩ := hrel
    replace hL := Lib.hid hL
    rcases Nat.lt_or_ge r n with hlt | hge
    · rcases hS with h0 | ⟨b, rfl, hR⟩
      · omega
      obtain ⟨F, hRow, hF⟩ := hR.below hB
      obtain ⟨hs, l, hl⟩ := hF r hlt
      have c0 := hRow.cell (i := r * 2) (by omega)
      have c1 := hRow.cell (i := r * 2 + 1) (by omega)
      rw [hl] at c1
      have q2 := hRow.lt
      clear hRow hF hl hR
      generalize F (r * 2) = v at *
      have shp := hs.shape
      have nx : anyC f (r + 1) = decide (20 ≤ f r % 26) := by rw [anyC, hL.out]; rfl
      replace nx := Lib.hid nx
      replace hs := Lib.hid hs
      rcases shp with rfl | ⟨t, B, rfl⟩
      all_goals
        go_wp2_with fail
        go_at_call 64
        refine (care b (f r % 26) _ _ _ (hs.out.keep fun B _ u hu => (World.cell?_alloc_lt wr _ _ (lt_of_cell hu)).trans hu)).mono ?_
        rintro e w1 ⟨rfl, B1⟩
        have hB1 := hB.alloc hB.size
        have hB2 := (hB1 _).trans (B1.mono (hB1 _).size)
        clear hB1 B1
        cases hq : decide (20 ≤ f r % 26)
        · rw [hq] at nx
          go_wp2_with fail
          go_roundg (n - (r + 1))
          case measure => omega
          case rel => exact ⟨r + 1, by omega, rfl, rfl, hB2, nx.out⟩
        · rw [hq] at nx
          have ht := Lib.hid (anyC_mono f (r + 1) n (by omega) nx.out)
          go_wp2_with fail
          go_ret
          exact ⟨by rw [ht.out]; rfl, hB2⟩
    · have hrn : r = n := by omega
      subst hrn
      clear hS
      go_wp2_with fail
      go_ret
      exact ⟨by rw [hL.out]; rfl, hB⟩
end Go.Proofs.Ytfjdpnjdikgofaa.Scope
