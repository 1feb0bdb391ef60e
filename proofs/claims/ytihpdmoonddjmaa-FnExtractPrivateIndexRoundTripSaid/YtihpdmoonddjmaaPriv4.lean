/-
  Contracts: the parser that zzNewPrivateParser builds: its symbols, its features. Condition: the selector is at most 10.
-/
import Derived.Test.YtihpdmoonddjmaaPriv3
import Derived.Test.YtihpdmoonddjmaaMapX
import Derived.Test.YtihpdmoonddjmaaUsing
namespace Go.Proofs.Ytihpdmoonddjmaa.Priv
open Go.RowKit Go.Proofs.Ytihpdmoonddjmaa.Ints Go.Proofs.Ytihpdmoonddjmaa.MapX

def kindOf (s : Int) : Int := if s = 10 then 27 else s + 8
theorem kind (s : Int) (h0 : 0 ≤ s) (h1 : s ≤ 10) (w : World) : Calls Try.prog 38 #[.int .u8 s] w fun e w' => e = .returned (.int .u8 (kindOf s)) ∧ w = w' := by
  have h : s = 0 ∨ s = 1 ∨ s = 2 ∨ s = 3 ∨ s = 4 ∨ s = 5 ∨ s = 6 ∨ s = 7 ∨ s = 8 ∨ s = 9 ∨ s = 10 := by omega
  rcases h with rfl | rfl | rfl | rfl | rfl | rfl | rfl | rfl | rfl | rfl | rfl
  all_goals
    clear h0 h1
    go_enter Try.func38, Try.ntmps38
    go_wp2
    go_ret
    exact ⟨rfl, rfl⟩
theorem kindOf_kinds (s : Int) (h0 : 0 ≤ s) (h1 : s ≤ 10) : Kinds (kindOf s) := by unfold Kinds kindOf; split <;> omega

theorem parser_cells (a : Option Addr) (l c : Nat) (x y z : Nat) : ∃ C : Array Value, Try.prog.built 240 [(9, .slice a l c), (27, .map (some x)), (28, .map (some y)), (20, .map (some z))] = some C ∧ C.size = 353 ∧ C[106]? = some (.slice a l c) ∧ C[23]? = some (.int .u64 0) := by
  have h1 : (Try.prog.built 240 [(9, .slice a l c), (27, .map (some x)), (28, .map (some y)), (20, .map (some z))]).isSome = true := by kernel_rfl
  obtain ⟨C, hC⟩ := Option.isSome_iff_exists.1 h1
  have h2 : (Try.prog.built 240 [(9, .slice a l c), (27, .map (some x)), (28, .map (some y)), (20, .map (some z))]).map (·.size) = some 353 := by kernel_rfl
  have h3 : (Try.prog.built 240 [(9, .slice a l c), (27, .map (some x)), (28, .map (some y)), (20, .map (some z))]).bind (·[106]?) = some (.slice a l c) := by kernel_rfl
  have h4 : (Try.prog.built 240 [(9, .slice a l c), (27, .map (some x)), (28, .map (some y)), (20, .map (some z))]).bind (·[23]?) = some (.int .u64 0) := by kernel_rfl
  rw [hC] at h2 h3 h4
  exact ⟨C, hC, by simpa using h2, h3, h4⟩

def Parser (a : Option Addr) (w : World) (e : Ending) (w' : World) : Prop :=
  ∃ P, e = .returned (.pointer (some ⟨P, 0, none⟩)) ∧ w'.cell? ⟨P, 106, none⟩ = some (.slice a 9 9) ∧ w'.cell? ⟨P, 23, none⟩ = some (.int .u64 0) ∧ Below w.heap.size w w'
set_option maxRecDepth 100000 in
set_option maxHeartbeats 1000000 in
theorem newParser (a : Option Addr) (x y z : Nat) (w : World) : Calls Try.prog 39 #[.slice a 9 9, .map (some x), .map (some y), .map (some z)] w (Parser a w) := by
  obtain ⟨C, hC, hsz, h1, h2⟩ := parser_cells a 9 9 x y z
  replace hC := Lib.hid hC
  go_enter Try.func39, Try.ntmps39
  go_wp2_with (refine Using.wpList_buildTo2 rfl 240 _ rfl _ rfl [(9, .slice a 9 9), (27, .map (some x)), (28, .map (some y)), (20, .map (some z))] (by kernel_rfl) C hC.out ?_)
  go_ret
  exact ⟨_, rfl, by go_simp; exact Array.getElem_eq_iff.2 h1, by go_simp; exact Array.getElem_eq_iff.2 h2, (Below.refl _ _).alloc (Nat.le_refl _) _⟩

theorem infoY : ∃ i z, Try.prog.info? 86 = some i ∧ i.zero = some z ∧ i.size = 10 ∧ i.bytes ≤ 1000 := by
  have h1 : (Try.prog.info? 86).isSome = true := by kernel_rfl
  obtain ⟨i, hi⟩ := Option.isSome_iff_exists.1 h1
  have h2 : ((Try.prog.info? 86).bind (·.zero)).isSome = true := by kernel_rfl
  have h3 : (Try.prog.info? 86).map (·.size) = some 10 := by kernel_rfl
  have h4 : (Try.prog.info? 86).map (fun i => decide (i.bytes ≤ 1000)) = some true := by kernel_rfl
  rw [hi] at h2 h3 h4
  obtain ⟨z, hz⟩ := Option.isSome_iff_exists.1 h2
  exact ⟨i, z, hi, hz, by simpa using h3, by simpa using h4⟩
theorem makeY : ∃ z : Array Value, ∀ w : World, (Instr.makeSlice 70 (.int .i64 9) (.int .i64 9)).run Try.prog w = .ok (.slice (some ⟨w.heap.size, 0, none⟩) 9 9) (w.alloc (.cells (madeCells z 90) 86)) := by
  obtain ⟨i, z, hi, hz, hs, hb⟩ := infoY
  refine ⟨z.cells, fun w => ?_⟩
  have := Using.run_make_rowN (P := Try.prog) 70 86 i z Try.underlying70 hi hz .i64 .i64 9 9 (Nat.le_refl _) (by omega) (by omega) w
  rw [hs] at this
  exact this
def Row90 (w : World) (S : Nat) : Prop := ∃ F, w.rowIs S 86 90 F
theorem row90 (w : World) (z : Array Value) : Row90 (w.alloc (.cells (madeCells z 90) 86)) w.heap.size := by
  have h := World.rowIs_alloc w (madeCells z 90) 86 (fun i => ((madeCells z 90)[i]?).getD undef) (fun i hi => by simp [hi])
  rw [size_madeCells] at h
  exact ⟨_, h⟩
theorem Row90.set {w : World} {S : Nat} (h : Row90 w S) (i : Nat) (v : Value) : Row90 (w.setCell ⟨S, i, none⟩ v) S := by
  obtain ⟨F, hF⟩ := h
  exact ⟨_, hF.set i v⟩
theorem Row90.cell {w : World} {S : Nat} (h : Row90 w S) (i : Nat) (hi : i < 90) : ∃ v, w.cell? ⟨S, i, none⟩ = some v ∧ w.frozen? ⟨S, i, none⟩ = false := by
  obtain ⟨F, hF⟩ := h
  exact ⟨_, hF.cell hi, hF.frozen _⟩

theorem ckR (i : Int) (w : World) : (Instr.checkKey false 10000 45 (.agg #[.int .u32 0, .int .u32 i])).run Try.prog w = .ok () w := by kernel_rfl
theorem fdR (i : Int) (w : World) : (Instr.findKey 45 (.agg #[.int .u32 0, .int .u32 i]) (#[] : Array MapEntry).toList).run Try.prog w = .ok none w := by kernel_rfl

def Made (k : Int) (m : Bool) (w : World) (e : Ending) (w' : World) : Prop :=
  ∃ P S, e = .returned (.pointer (some ⟨P, 0, none⟩)) ∧ w'.cell? ⟨P, 106, none⟩ = some (.slice (some ⟨S, 0, none⟩) 9 9) ∧ w'.cell? ⟨P, 23, none⟩ = some (.int .u64 0) ∧
    w'.cell? ⟨S, 8, none⟩ = some (.int .u8 k) ∧ w'.cell? ⟨S, 7, none⟩ = some (.int .u16 (cond m 8 0)) ∧ Below w.heap.size w w'
/-- The symbols' row at w's first new block: its first symbol is of kind k; nothing below has turned. -/
structure Sy (k : Int) (m : Bool) (w V : World) : Prop where
  below : Below w.heap.size w V
  k : V.cell? ⟨w.heap.size, 8, none⟩ = some (.int .u8 k)
  f : V.cell? ⟨w.heap.size, 7, none⟩ = some (.int .u16 (cond m 8 0))
theorem Sy.step {k : Int} {m : Bool} {w V V' : World} (h : Sy k m w V) (hb : Below V.heap.size V V') : Sy k m w V' :=
  ⟨h.below.trans (hb.mono h.below.size), (hb.cell (lt_of_cell h.k)).trans h.k, (hb.cell (lt_of_cell h.f)).trans h.f⟩
theorem sy_of {w wr : World} (hB : Below w.heap.size w wr) (hR : Row90 wr w.heap.size) (k : Int) (m : Bool) :
    Sy k m w (cond m (((wr.setCell ⟨w.heap.size, 8, none⟩ (.int .u8 k)).setCell ⟨w.heap.size, 7, none⟩ (.int .u16 0)).setCell ⟨w.heap.size, 7, none⟩ (.int .u16 8)) ((wr.setCell ⟨w.heap.size, 8, none⟩ (.int .u8 k)).setCell ⟨w.heap.size, 7, none⟩ (.int .u16 0))) := by
  obtain ⟨F, hF⟩ := hR
  have h1 := (hF.set 8 (.int .u8 k)).set 7 (.int .u16 0)
  have b1 : Below w.heap.size w ((wr.setCell ⟨w.heap.size, 8, none⟩ (.int .u8 k)).setCell ⟨w.heap.size, 7, none⟩ (.int .u16 0)) := (hB.setCell (Nat.le_refl _) _).setCell (Nat.le_refl _) _
  cases m
  · exact ⟨b1, (h1.cell (by omega)).trans (by simp), (h1.cell (by omega)).trans (by simp)⟩
  · have h2 := h1.set 7 (.int .u16 8)
    exact ⟨b1.setCell (Nat.le_refl _) _, (h2.cell (by omega)).trans (by simp), (h2.cell (by omega)).trans (by simp)⟩
/-- A map was made at V's first new block r, and is empty yet. -/
structure Mp (k : Int) (m : Bool) (w V : World) (r : Nat) (es : Array MapEntry) (c : Nat) : Prop where
  sy : Sy k m w V
  map : V.heap[r]? = some (.map es c)
  le : w.heap.size ≤ r
theorem Sy.put {k : Int} {m : Bool} {w V V' : World} (h : Sy k m w V) (hb : Below (V.alloc (.map #[] 0)).heap.size (V.alloc (.map #[] 0)) V') : Mp k m w V' V.heap.size #[] 0 :=
  ⟨(h.step ((Below.refl _ _).alloc (Nat.le_refl _) _)).step hb, (hb.block _ (by simp)).trans (Go.MapKept.heap_alloc V _).1, h.below.size⟩
theorem Mp.step {k : Int} {m : Bool} {w V V' : World} {r c : Nat} {es : Array MapEntry} (h : Mp k m w V r es c) (hb : Below V.heap.size V V') : Mp k m w V' r es c := by
  refine ⟨h.sy.step hb, (hb.block _ ?_).trans h.map, h.le⟩
  have := h.map
  rcases Nat.lt_or_ge r V.heap.size with h' | h'
  · exact h'
  · rw [Array.getElem?_eq_none h'] at this; cases this
theorem Mp.store {k : Int} {m : Bool} {w V : World} {r c : Nat} {es : Array MapEntry} (h : Mp k m w V r es c) (e : MapEntry) : Mp k m w (putMap V r (es.push e) (c + 1)) r (es.push e) (c + 1) :=
  ⟨⟨putMap_below h.sy.below h.le, (putMap_cell h.map _).trans h.sy.k, (putMap_cell h.map _).trans h.sy.f⟩, putMap_same h.map, h.le⟩
set_option maxRecDepth 100000 in
set_option maxHeartbeats 2000000 in
theorem newPrivate (s : Int) (m : Bool) (h0 : 0 ≤ s) (h1 : s ≤ 10) (w : World) : Calls Try.prog 11 #[.int .u8 s, .bool m, .bool false] w (Made (kindOf s) m w) := by
  obtain ⟨z, hmk⟩ := makeY
  go_enter Try.func11, Try.ntmps11
  go_wp2_with fail
  clear hmk
  go_loopg [8] 9 (fun gk i wr => ∃ r : Nat, r ≤ 9 ∧ gk = 9 - r ∧ i = .int .i64 r ∧ Below w.heap.size w wr ∧ Row90 wr w.heap.size)
  case atStart => exact ⟨0, Nat.zero_le _, rfl, rfl, (Below.refl _ _).alloc (Nat.le_refl _) _, row90 w z⟩
  case round =>
    obtain ⟨r, hr, rfl, rfl, hB, hR⟩ := hrel
    rcases Nat.lt_or_ge r 9 with hlt | hge
    · obtain ⟨v, c1, c2⟩ := hR.cell (r * 10 + 8) (by omega)
      have hN := Lib.hid (hR.set (r * 10 + 8) (.int .u8 27))
      have hlt' : (r : Int) < 9 := by omega
      clear hR
      go_wp2_with fail
      go_roundg (9 - (r + 1))
      case measure => omega
      case rel => exact ⟨r + 1, by omega, rfl, rfl, hB.setCell (Nat.le_refl _) _, hN.out⟩
    · have hge' : ¬ (r : Int) < 9 := by omega
      obtain ⟨v, c1, c2⟩ := hR.cell 8 (by omega)
      obtain ⟨v', c3, c4⟩ := (hR.set 8 (.int .u8 (kindOf s))).cell 7 (by omega)
      obtain ⟨v'', c5, c6⟩ := ((hR.set 8 (.int .u8 (kindOf s))).set 7 (.int .u16 0)).cell 7 (by omega)
      have hS := hB.size
      go_wp2_with fail
      go_at_call 38
      refine (kind s h0 h1 _).mono ?_
      rintro e w1 ⟨rfl, rfl⟩
      have hmm := @run_makeMap Try.prog
      have hV : ∃ V : World, V = (cond m (((wr.setCell ⟨w.heap.size, 8, none⟩ (.int .u8 (kindOf s))).setCell ⟨w.heap.size, 7, none⟩ (.int .u16 0)).setCell ⟨w.heap.size, 7, none⟩ (.int .u16 8)) ((wr.setCell ⟨w.heap.size, 8, none⟩ (.int .u8 (kindOf s))).setCell ⟨w.heap.size, 7, none⟩ (.int .u16 0))) := ⟨_, rfl⟩
      obtain ⟨V, hV⟩ := hV
      have y : Sy (kindOf s) m w V := by rw [hV]; exact sy_of hB hR (kindOf s) m
      clear hR hB
      cases m
      all_goals
        simp only [cond_true, cond_false] at hV
        go_wp2_with fail
        rw [← hV]
        have hVs : V.heap.size = wr.heap.size := by rw [hV]; simp
        clear hV c1 c2 c3 c4 c5 c6
        go_at_call 13
        refine (ref _ _).mono ?_
        rintro e w1 ⟨rfl, B1⟩
        replace B1 := y.put B1
        rw [hVs] at B1
        clear y hVs
        go_wp2_with fail
        go_at_call 13
        refine (ref _ _).mono ?_
        rintro e w2 ⟨rfl, B2⟩
        replace B2 := B1.step B2
        clear B1
        have u1 := update_new (val := .agg #[.int .u32 0, .int .u32 1]) Try.underlying152 B2.map (ckR 0 w2) (fdR 0 w2)
        have y := (B2.store { key := .agg #[.int .u32 0, .int .u32 0], val := .agg #[.int .u32 0, .int .u32 1], born := 0 }).sy
        clear B2
        generalize hP : putMap w2 wr.heap.size _ _ = V2 at u1 y
        clear hP
        go_wp2_with fail
        clear u1
        go_at_call 13
        refine (ref _ _).mono ?_
        rintro e w3 ⟨rfl, B3⟩
        replace B3 := y.put B3
        clear y
        go_wp2_with fail
        go_at_call 13
        refine (ref _ _).mono ?_
        rintro e w4 ⟨rfl, B4⟩
        replace B4 := B3.step B4
        clear B3
        have u1 := update_new (val := .agg #[.int .u32 0, .int .u32 2]) Try.underlying152 B4.map (ckR 0 w4) (fdR 0 w4)
        have y := (B4.store { key := .agg #[.int .u32 0, .int .u32 0], val := .agg #[.int .u32 0, .int .u32 2], born := 0 }).sy
        clear B4
        generalize hP : putMap w4 V2.heap.size _ _ = V3 at u1 y
        clear hP
        go_wp2_with fail
        clear u1
        go_at_call 13
        refine (ref _ _).mono ?_
        rintro e w5 ⟨rfl, B5⟩
        replace B5 := y.put B5
        clear y
        have u1 := update_new (key := .string ⟨#[95, 95, 112, 114, 105, 118, 97, 116, 101, 87, 114, 97, 112, 112, 101, 114]⟩) (val := .agg #[.int .i32 0, .int .u32 0, .int .u32 5]) Try.underlying153 B5.map (check_string _ _ Try.underlying9) (find_string Try.underlying9 (by kernel_rfl))
        have C0 := B5.store { key := .string ⟨#[95, 95, 112, 114, 105, 118, 97, 116, 101, 87, 114, 97, 112, 112, 101, 114]⟩, val := .agg #[.int .i32 0, .int .u32 0, .int .u32 5], born := 0 }
        clear B5
        generalize hP : putMap w5 V3.heap.size _ _ = X0 at u1 C0
        clear hP
        go_wp2_with fail
        clear u1
        go_at_call 13
        refine (ref _ _).mono ?_
        rintro e w6 ⟨rfl, B6⟩
        replace B6 := C0.step B6
        clear C0
        have u1 := update_new (key := .string ⟨#[95, 95, 112, 114, 105, 118, 97, 116, 101, 83, 101, 116]⟩) (val := .agg #[.int .i32 0, .int .u32 0, .int .u32 6]) Try.underlying153 B6.map (check_string _ _ Try.underlying9) (find_string Try.underlying9 (by kernel_rfl))
        have C1 := B6.store { key := .string ⟨#[95, 95, 112, 114, 105, 118, 97, 116, 101, 83, 101, 116]⟩, val := .agg #[.int .i32 0, .int .u32 0, .int .u32 6], born := 1 }
        clear B6
        generalize hP : putMap w6 V3.heap.size _ _ = X1 at u1 C1
        clear hP
        go_wp2_with fail
        clear u1
        go_at_call 13
        refine (ref _ _).mono ?_
        rintro e w7 ⟨rfl, B7⟩
        replace B7 := C1.step B7
        clear C1
        have u1 := update_new (key := .string ⟨#[95, 95, 112, 114, 105, 118, 97, 116, 101, 71, 101, 116]⟩) (val := .agg #[.int .i32 0, .int .u32 0, .int .u32 7]) Try.underlying153 B7.map (check_string _ _ Try.underlying9) (find_string Try.underlying9 (by kernel_rfl))
        have C2 := B7.store { key := .string ⟨#[95, 95, 112, 114, 105, 118, 97, 116, 101, 71, 101, 116]⟩, val := .agg #[.int .i32 0, .int .u32 0, .int .u32 7], born := 2 }
        clear B7
        generalize hP : putMap w7 V3.heap.size _ _ = X2 at u1 C2
        clear hP
        go_wp2_with fail
        clear u1
        go_at_call 13
        refine (ref _ _).mono ?_
        rintro e w8 ⟨rfl, B8⟩
        replace B8 := C2.step B8
        clear C2
        have u1 := update_new (key := .string ⟨#[95, 95, 112, 114, 105, 118, 97, 116, 101, 77, 101, 116, 104, 111, 100]⟩) (val := .agg #[.int .i32 0, .int .u32 0, .int .u32 8]) Try.underlying153 B8.map (check_string _ _ Try.underlying9) (find_string Try.underlying9 (by kernel_rfl))
        have C3 := B8.store { key := .string ⟨#[95, 95, 112, 114, 105, 118, 97, 116, 101, 77, 101, 116, 104, 111, 100]⟩, val := .agg #[.int .i32 0, .int .u32 0, .int .u32 8], born := 3 }
        clear B8
        generalize hP : putMap w8 V3.heap.size _ _ = X3 at u1 C3
        clear hP
        go_wp2_with fail
        clear u1
        go_at_call 39
        refine (newParser _ _ _ _ _).mono ?_
        rintro e w9 ⟨P, rfl, p1, p2, B9⟩
        have y := C3.sy.step B9
        clear C3 B9
        go_wp2_with fail
        go_ret
        exact ⟨P, w.heap.size, rfl, p1, p2, y.k, y.f, y.below⟩
end Go.Proofs.Ytihpdmoonddjmaa.Priv
