/-
  LineColumnTracker.MsgLocationOrNil and MsgData: a new location that bears the range's length. Condition: at most 2^20 bytes, utf8's two tables laid.
-/
import Derived.Test.YtcijcifhdakhoaaFmtTk3
import Derived.Test.YtcijcifhdakhoaaFmtTake
namespace Go.Proofs.YtcijcifhdakhoaaFmt.Ex
open Go.RowKit Go.Lib Go.Proofs.YtcijcifhdakhoaaFmt.Ints Go.Proofs.YtcijcifhdakhoaaFmt.U8 Go.Proofs.YtcijcifhdakhoaaFmt.Pct

def locC (x : ByteArray) (a c : Int) (k : Nat) : Array Value := #[.string ⟨#[]⟩, .string ⟨#[]⟩, .string ⟨#[]⟩, .string x, .string ⟨#[]⟩, .int .i64 a, .int .i64 c, .int .i64 (k : Nat)]
/-- Block q is a location whose length is k. -/
def IsLoc (q k : Nat) (w : World) : Prop := ∃ x a c, w.heap[q]? = some (.cells (locC x a c k) 177 (0, 0))
def After (P : Nat) (F0 : Nat → Value) (s : ByteArray) (o0 t : Nat) (w w' : World) : Prop :=
  ∃ (o ls le : Nat) (ln : Int), Tk P F0 s o ls le ln true true w' ∧ Op2 P w w' ∧ (o0 ≤ t → St s o ls le true)
def LocP (P : Nat) (F0 : Nat → Value) (s : ByteArray) (o0 t k : Nat) (w : World) (y : Ending) (w' : World) : Prop :=
  ∃ q, y = .returned (.pointer (some ⟨q, 0, none⟩)) ∧ IsLoc q k w' ∧ w.heap.size ≤ q ∧ After P F0 s o0 t w w'
structure SL (P N : Nat) (s : ByteArray) (k : Nat) (w : World) : Prop where
  c0 : w.cell? ⟨P, 67, none⟩ = some (.string s)
  c1 : w.cell? ⟨P, 68, none⟩ = some (.string ⟨#[]⟩)
  c2 : w.cell? ⟨P, 69, none⟩ = some (.string ⟨#[]⟩)
  c3 : w.cell? ⟨N, 1, none⟩ = some (.int .i32 (k : Nat))
theorem SL.below {P N k : Nat} {s : ByteArray} {w w1 : World} (h : SL P N s k w) (hb : Below w.heap.size w w1) : SL P N s k w1 :=
  ⟨(hb.cell (lt_of_cell h.c0)).trans h.c0, (hb.cell (lt_of_cell h.c1)).trans h.c1, (hb.cell (lt_of_cell h.c2)).trans h.c2, (hb.cell (lt_of_cell h.c3)).trans h.c3⟩
theorem st_alloc {W W' : World} {o : Obj} (h : W.alloc o = W') : Below W.heap.size W W' ∧ W'.heap[W.heap.size]? = some o := by
  subst h
  exact ⟨(Below.refl _ _).alloc (Nat.le_refl _) _, heap_alloc_new _ _⟩
theorem After.next {P o0 t : Nat} {F0 : Nat → Value} {s : ByteArray} {w w1 w2 : World} (h : After P F0 s o0 t w w1) (hP : P ≤ w.heap.size) (hb : Below w1.heap.size w1 w2) : After P F0 s o0 t w w2 := by
  obtain ⟨o, ls, le, ln, g1, g2, g3⟩ := h
  exact ⟨o, ls, le, ln, g1.of (hb.block _ g1.lt), g2.next hP hb, g3⟩
theorem After.start {P o0 t : Nat} {F0 : Nat → Value} {s : ByteArray} {w0 w w1 : World} (h : After P F0 s o0 t w w1) (hb : Below w0.heap.size w0 w) (hP : P ≤ w0.heap.size) : After P F0 s o0 t w0 w1 := by
  obtain ⟨o, ls, le, ln, g1, g2, g3⟩ := h
  exact ⟨o, ls, le, ln, g1, (Op2.below hb hP).trans g2, g3⟩
set_option maxRecDepth 100000 in
set_option maxHeartbeats 4000000 in
theorem loc (P : Nat) (F0 : Nat → Value) (s : ByteArray) (o ls le : Nat) (ln : Int) (he : Bool) (t k : Nat) (w : World) (hs : s.size ≤ 1048576) (ht : t ≤ s.size) (hk : k ≤ 1048576) (hP : 2 ≤ P) (hT : Utf8Tabs 0 1 w) (h : Tk P F0 s o ls le ln true he w) (st : St s o ls le he) :
    Calls Tryf.prog 46 #[.pointer (some ⟨P, 67, none⟩), .agg #[.int .i32 (t : Nat), .int .i32 (k : Nat)]] w (LocP P F0 s o t k w) := by
  have lP0 := h.lt
  have c76 := h.c76
  have b0 : Below w.heap.size w (w.alloc (.cells #[.int .i32 (t : Nat), .int .i32 (k : Nat)] 31)) := (Below.refl _ _).alloc (Nat.le_refl _) _
  have q0 : (w.alloc (.cells #[.int .i32 (t : Nat), .int .i32 (k : Nat)] 31)).heap[w.heap.size]? = some (.cells #[.int .i32 (t : Nat), .int .i32 (k : Nat)] 31 (0, 0)) := heap_alloc_new _ _
  have cC := Lib.hid (comp P F0 s o ls le ln he t (w.alloc (.cells #[.int .i32 (t : Nat), .int .i32 (k : Nat)] 31)) hs ht hP (Utf8Tabs_below hT b0) (h.of (b0.block _ lP0)) st)
  replace b0 := Lib.hid b0
  replace q0 := Lib.hid q0
  clear h st hT
  generalize o = o0 at *
  go_enter Tryf.func46, Tryf.ntmps46
  go_wp2_with fail
  go_at_call 56
  refine cC.out.mono ?_
  rintro y w1 ⟨a, c, ls, le, rfl, hl1, hl2, o, ln, hTk, hO, hst⟩
  have hN : w.heap.size < (w.alloc (.cells #[.int .i32 (t : Nat), .int .i32 (k : Nat)] 31)).heap.size := by simp
  have q1 := (hO.blk _ hN (by omega)).trans q0.out
  have hS0 : SL P w.heap.size s k w1 := ⟨hTk.c67, hTk.c68, hTk.c69, cell_of_row _ _ 1 _ _ _ q1⟩
  have hA : After P F0 s o0 t w w1 := After.start ⟨o, ls, le, ln, hTk, hO, hst⟩ b0.out (Nat.le_of_lt lP0)
  replace hS0 := Lib.hid hS0
  replace hA := Lib.hid hA
  have hN1 := Lib.hid (lt_of_cell hS0.out.c3)
  clear cC b0 q0 q1 hTk hO hst hN c76
  have kI : (k : Int) ≤ 1048576 := by omega
  have kJ : IntKind.i64.wrap (k : Int) = (k : Int) := wraps_i64 _ (by omega) (by omega)
  replace kJ := Lib.hid kJ
  go_upto_region 4 with fail
  refine wp_region_held_drew (S := SL P w.heap.size s k) (by kernel_rfl) (hS0.out.below (Below.refl _ _).drew) (fun hS => ?_)
  refine Take.takeD (i := 0) (v := .pointer (some ⟨P, 67, none⟩)) (some 29) rfl rfl (by kernel_rfl) (by kernel_rfl) (by kernel_rfl) (fun _ _ _ h => h) (Or.inl ⟨by rfl, fun w9 hw9 => by (have u0 := hw9.c0; have u1 := hw9.c1; have u2 := hw9.c2; have u3 := hw9.c3; go_simp; first | done | rfl | (simp [u0, u1, u2, u3]; done) | (simp [u0, u1, u2, u3]; omega))⟩) hS ?_
  try simp only [Act.put, List.setIfInBounds_toArray, List.set_cons_zero, List.set_cons_succ]
  refine Take.takeD (i := 1) (v := .pointer (some ⟨P, 67, none⟩)) (some 30) rfl rfl (by kernel_rfl) (by kernel_rfl) (by kernel_rfl) (fun _ _ _ h => h) (Or.inl ⟨by rfl, fun w9 hw9 => by (have u0 := hw9.c0; have u1 := hw9.c1; have u2 := hw9.c2; have u3 := hw9.c3; go_simp; first | done | rfl | (simp [u0, u1, u2, u3]; done) | (simp [u0, u1, u2, u3]; omega))⟩) hS ?_
  try simp only [Act.put, List.setIfInBounds_toArray, List.set_cons_zero, List.set_cons_succ]
  refine Take.takeD (i := 2) (v := .pointer (some ⟨P, 68, none⟩)) (some 31) rfl rfl (by kernel_rfl) (by kernel_rfl) (by kernel_rfl) (fun _ _ _ h => h) (Or.inl ⟨by rfl, fun w9 hw9 => by (have u0 := hw9.c0; have u1 := hw9.c1; have u2 := hw9.c2; have u3 := hw9.c3; go_simp; first | done | rfl | (simp [u0, u1, u2, u3]; done) | (simp [u0, u1, u2, u3]; omega))⟩) hS ?_
  try simp only [Act.put, List.setIfInBounds_toArray, List.set_cons_zero, List.set_cons_succ]
  refine Take.takeD (i := 3) (v := .agg #[.string ⟨#[]⟩, .string ⟨#[]⟩]) (some 32) rfl rfl (by kernel_rfl) (by kernel_rfl) (by kernel_rfl) (fun _ _ _ h => h) (Or.inl ⟨by rfl, fun w9 hw9 => by (have u0 := hw9.c0; have u1 := hw9.c1; have u2 := hw9.c2; have u3 := hw9.c3; go_simp; first | done | rfl | (simp [u0, u1, u2, u3]; done) | (simp [u0, u1, u2, u3]; omega))⟩) hS ?_
  try simp only [Act.put, List.setIfInBounds_toArray, List.set_cons_zero, List.set_cons_succ]
  refine Take.takeD (i := 4) (v := .int .i64 a) (some 33) rfl rfl (by kernel_rfl) (by kernel_rfl) (by kernel_rfl) (fun _ _ _ h => h) (Or.inl ⟨by rfl, fun w9 hw9 => by (have u0 := hw9.c0; have u1 := hw9.c1; have u2 := hw9.c2; have u3 := hw9.c3; go_simp; first | done | rfl | (simp [u0, u1, u2, u3]; done) | (simp [u0, u1, u2, u3]; omega))⟩) hS ?_
  try simp only [Act.put, List.setIfInBounds_toArray, List.set_cons_zero, List.set_cons_succ]
  refine Take.takeD (i := 5) (v := ?_) (some 34) rfl rfl (by kernel_rfl) (by kernel_rfl) (by kernel_rfl) (fun _ _ _ h => h) (Or.inl ⟨by rfl, ?_⟩) hS ?_
  rotate_left 1
  · intro w9 _; go_simp; try with_reducible rfl
  try simp only [Act.put, List.setIfInBounds_toArray, List.set_cons_zero, List.set_cons_succ]
  refine Take.takeD (i := 6) (v := .int .i64 c) (some 35) rfl rfl (by kernel_rfl) (by kernel_rfl) (by kernel_rfl) (fun _ _ _ h => h) (Or.inl ⟨by rfl, fun w9 hw9 => by (have u0 := hw9.c0; have u1 := hw9.c1; have u2 := hw9.c2; have u3 := hw9.c3; go_simp; first | done | rfl | (simp [u0, u1, u2, u3]; done) | (simp [u0, u1, u2, u3]; omega))⟩) hS ?_
  try simp only [Act.put, List.setIfInBounds_toArray, List.set_cons_zero, List.set_cons_succ]
  refine Take.takeD (i := 7) (v := .pointer (some ⟨w.heap.size, 1, none⟩)) (some 36) rfl rfl (by kernel_rfl) (by kernel_rfl) (by kernel_rfl) (fun _ _ _ h => h) (Or.inl ⟨by rfl, fun w9 hw9 => by (have u0 := hw9.c0; have u1 := hw9.c1; have u2 := hw9.c2; have u3 := hw9.c3; go_simp; first | done | rfl | (simp [u0, u1, u2, u3]; done) | (simp [u0, u1, u2, u3]; omega))⟩) hS ?_
  try simp only [Act.put, List.setIfInBounds_toArray, List.set_cons_zero, List.set_cons_succ]
  refine Take.takeD (i := 8) (v := .int .i32 (k : Nat)) (some 37) rfl rfl (by kernel_rfl) (by kernel_rfl) (by kernel_rfl) (fun _ _ _ h => h) (Or.inl ⟨by rfl, fun w9 hw9 => by (have u0 := hw9.c0; have u1 := hw9.c1; have u2 := hw9.c2; have u3 := hw9.c3; go_simp; first | done | rfl | (simp [u0, u1, u2, u3]; done) | (simp [u0, u1, u2, u3]; omega))⟩) hS ?_
  try simp only [Act.put, List.setIfInBounds_toArray, List.set_cons_zero, List.set_cons_succ]
  refine Take.takeD (i := 9) (v := .int .i64 (k : Nat)) (some 38) rfl rfl (by kernel_rfl) (by kernel_rfl) (by kernel_rfl) (fun _ _ _ h => h) (Or.inl ⟨by rfl, fun w9 hw9 => by (go_simp; first | done | rfl | (simp [kJ.out]; done))⟩) hS ?_
  try simp only [Act.put, List.setIfInBounds_toArray, List.set_cons_zero, List.set_cons_succ]
  refine Take.takeD (i := 10) (v := .pointer (some ⟨P, 67, none⟩)) (some 39) rfl rfl (by kernel_rfl) (by kernel_rfl) (by kernel_rfl) (fun _ _ _ h => h) (Or.inl ⟨by rfl, fun w9 hw9 => by (have u0 := hw9.c0; have u1 := hw9.c1; have u2 := hw9.c2; have u3 := hw9.c3; go_simp; first | done | rfl | (simp [u0, u1, u2, u3]; done) | (simp [u0, u1, u2, u3]; omega))⟩) hS ?_
  try simp only [Act.put, List.setIfInBounds_toArray, List.set_cons_zero, List.set_cons_succ]
  refine Take.takeD (i := 11) (v := .pointer (some ⟨P, 67, none⟩)) (some 40) rfl rfl (by kernel_rfl) (by kernel_rfl) (by kernel_rfl) (fun _ _ _ h => h) (Or.inl ⟨by rfl, fun w9 hw9 => by (have u0 := hw9.c0; have u1 := hw9.c1; have u2 := hw9.c2; have u3 := hw9.c3; go_simp; first | done | rfl | (simp [u0, u1, u2, u3]; done) | (simp [u0, u1, u2, u3]; omega))⟩) hS ?_
  try simp only [Act.put, List.setIfInBounds_toArray, List.set_cons_zero, List.set_cons_succ]
  refine Take.takeD (i := 12) (v := .pointer (some ⟨P, 67, none⟩)) (some 41) rfl rfl (by kernel_rfl) (by kernel_rfl) (by kernel_rfl) (fun _ _ _ h => h) (Or.inl ⟨by rfl, fun w9 hw9 => by (have u0 := hw9.c0; have u1 := hw9.c1; have u2 := hw9.c2; have u3 := hw9.c3; go_simp; first | done | rfl | (simp [u0, u1, u2, u3]; done) | (simp [u0, u1, u2, u3]; omega))⟩) hS ?_
  try simp only [Act.put, List.setIfInBounds_toArray, List.set_cons_zero, List.set_cons_succ]
  refine Take.takeD (i := 13) (v := .string s) (some 42) rfl rfl (by kernel_rfl) (by kernel_rfl) (by kernel_rfl) (fun _ _ _ h => h) (Or.inl ⟨by rfl, fun w9 hw9 => by (have u0 := hw9.c0; have u1 := hw9.c1; have u2 := hw9.c2; have u3 := hw9.c3; go_simp; first | done | rfl | (simp [u0, u1, u2, u3]; done) | (simp [u0, u1, u2, u3]; omega))⟩) hS ?_
  try simp only [Act.put, List.setIfInBounds_toArray, List.set_cons_zero, List.set_cons_succ]
  refine Take.takeD (i := 14) (v := .int .i64 (ls : Nat)) (some 43) rfl rfl (by kernel_rfl) (by kernel_rfl) (by kernel_rfl) (fun _ _ _ h => h) (Or.inl ⟨by rfl, fun w9 hw9 => by (have u0 := hw9.c0; have u1 := hw9.c1; have u2 := hw9.c2; have u3 := hw9.c3; go_simp; first | done | rfl | (simp [u0, u1, u2, u3]; done) | (simp [u0, u1, u2, u3]; omega))⟩) hS ?_
  try simp only [Act.put, List.setIfInBounds_toArray, List.set_cons_zero, List.set_cons_succ]
  refine Take.takeD (i := 15) (v := .int .i64 (le : Nat)) (some 44) rfl rfl (by kernel_rfl) (by kernel_rfl) (by kernel_rfl) (fun _ _ _ h => h) (Or.inl ⟨by rfl, fun w9 hw9 => by (have u0 := hw9.c0; have u1 := hw9.c1; have u2 := hw9.c2; have u3 := hw9.c3; go_simp; first | done | rfl | (simp [u0, u1, u2, u3]; done) | (simp [u0, u1, u2, u3]; omega))⟩) hS ?_
  try simp only [Act.put, List.setIfInBounds_toArray, List.set_cons_zero, List.set_cons_succ]
  refine Take.takeD (i := 16) (v := .string (s.extract ls le)) (some 45) rfl rfl (by kernel_rfl) (by kernel_rfl) (by kernel_rfl) (fun _ _ _ h => h) (Or.inl ⟨by rfl, fun w9 hw9 => by (have u0 := hw9.c0; have u1 := hw9.c1; have u2 := hw9.c2; have u3 := hw9.c3; go_simp; first | done | rfl | (simp [u0, u1, u2, u3]; done) | (simp [u0, u1, u2, u3]; omega))⟩) hS ?_
  try simp only [Act.put, List.setIfInBounds_toArray, List.set_cons_zero, List.set_cons_succ]
  refine Take.takeD (i := 17) (v := ?_) (some 46) rfl rfl (by kernel_rfl) (by kernel_rfl) (by kernel_rfl) (fun _ _ _ h => h) (Or.inl ⟨by rfl, ?_⟩) hS ?_
  rotate_left 1
  · intro w9 _; go_simp; try with_reducible rfl
  try simp only [Act.put, List.setIfInBounds_toArray, List.set_cons_zero, List.set_cons_succ]
  clear hS
  refine wpAnyH_ready (rs := [18]) (by kernel_rfl) (by decide) ?_
  refine AllReadyH.cons rfl (fun K' hK => ?_) AllReadyH.nil
  rw [if_pos (by kernel_rfl)]
  go_wp2_with fail
  refine hK.out _ _ (hS0.out.below (((Below.refl _ _).alloc (Nat.le_refl _) _).drew)) (fun _ => ?_)
  clear hK
  have q2 : (w1.alloc (.cells (locC (s.extract ls le) (wrap64 (a + 1)) c k) 177)).drew.heap[w1.heap.size]? = some (.cells (locC (s.extract ls le) (wrap64 (a + 1)) c k) 177 (0, 0)) := heap_alloc_new _ _
  have b2 : Below w1.heap.size w1 (w1.alloc (.cells (locC (s.extract ls le) (wrap64 (a + 1)) c k) 177)).drew := ((Below.refl _ _).alloc (Nat.le_refl _) _).drew
  have hfin : LocP P F0 s o0 t k w (.returned (.pointer (some ⟨w1.heap.size, 0, none⟩))) (w1.alloc (.cells (locC (s.extract ls le) (wrap64 (a + 1)) c k) 177)).drew :=
    ⟨_, rfl, ⟨_, _, _, q2⟩, Nat.le_of_lt hN1.out, hA.out.next (Nat.le_of_lt lP0) b2⟩
  have hS3 := hS0.out.below b2
  unfold locC at hfin hS3
  clear q2 b2
  replace hfin := Lib.hid hfin
  replace hS3 := Lib.hid hS3
  refine wpAnyH_ready (rs := [19]) (by kernel_rfl) (by decide) ?_
  refine AllReadyH.cons rfl (fun K' hK => ?_) AllReadyH.nil
  rw [if_pos (by kernel_rfl)]
  go_wp2_with fail
  refine hK.out _ _ hS3.out (fun _ => ?_)
  clear hK hS3
  refine wpAnyH_done (by kernel_rfl) ?_ _
  go_wp2_with fail
  go_ret
  exact hfin.out
def DataP (P : Nat) (F0 : Nat → Value) (s x : ByteArray) (o0 t k : Nat) (w : World) (y : Ending) (w' : World) : Prop :=
  ∃ q, y = .returned (.agg #[.nilIface, .pointer (some ⟨q, 0, none⟩), .string x, .bool false]) ∧ IsLoc q k w' ∧ w.heap.size ≤ q ∧ After P F0 s o0 t w w'
theorem IsLoc.below {q k : Nat} {w w1 : World} (h : IsLoc q k w) (hb : Below w.heap.size w w1) : IsLoc q k w1 := by
  obtain ⟨x, a, c, h⟩ := h
  exact ⟨x, a, c, (hb.block _ (Array.getElem?_eq_some_iff.1 h).1).trans h⟩
theorem IsLoc.set {q k b j : Nat} {v : Value} {w : World} (h : IsLoc q k w) (hn : q ≠ b) : IsLoc q k (w.setCell ⟨b, j, none⟩ v) := by
  obtain ⟨x, a, c, h⟩ := h
  exact ⟨x, a, c, (Go.Deep.blk_setCell_other _ _ _ _ hn).trans h⟩
theorem After.set {P o0 t b j : Nat} {v : Value} {F0 : Nat → Value} {s : ByteArray} {w w1 : World} (h : After P F0 s o0 t w w1) (hb : w.heap.size ≤ b) (hP : P < w.heap.size) : After P F0 s o0 t w (w1.setCell ⟨b, j, none⟩ v) := by
  obtain ⟨o, ls, le, ln, g1, g2, g3⟩ := h
  exact ⟨o, ls, le, ln, g1.of (Go.Deep.blk_setCell_other _ _ _ _ (by show P ≠ b; omega)), ⟨g2.bel.setCell (by show P ≤ b; omega) _, fun c hc hn => (Go.Deep.blk_setCell_other _ _ _ _ (by show c ≠ b; omega)).trans (g2.blk c hc hn)⟩, g3⟩
set_option maxRecDepth 100000 in
set_option maxHeartbeats 2000000 in
theorem data (P : Nat) (F0 : Nat → Value) (s x : ByteArray) (o ls le : Nat) (ln : Int) (he : Bool) (t k : Nat) (w : World) (hs : s.size ≤ 1048576) (ht : t ≤ s.size) (hk : k ≤ 1048576) (hP : 2 ≤ P) (hT : Utf8Tabs 0 1 w) (h : Tk P F0 s o ls le ln true he w) (st : St s o ls le he) :
    Calls Tryf.prog 29 #[.pointer (some ⟨P, 67, none⟩), .agg #[.int .i32 (t : Nat), .int .i32 (k : Nat)], .string x] w (DataP P F0 s x o t k w) := by
  have lP0 := h.lt
  obtain ⟨W, hW⟩ : ∃ W, W = (w.alloc (.cells #[.int .i32 (t : Nat), .int .i32 (k : Nat)] 31)).alloc (.cells #[.nilIface, .pointer none, .string ⟨#[]⟩, .bool false] 172) := ⟨_, rfl⟩
  have b0 : Below w.heap.size w W := by rw [hW]; exact ((Below.refl _ _).alloc (Nat.le_refl _) _).alloc (by simp) _
  have e0 : (w.alloc (.cells #[.int .i32 (t : Nat), .int .i32 (k : Nat)] 31)).heap.size = w.heap.size + 1 := by simp
  have qr : W.heap[w.heap.size + 1]? = some (.cells #[.nilIface, .pointer none, .string ⟨#[]⟩, .bool false] 172 (0, 0)) := by rw [hW, ← e0]; exact heap_alloc_new _ _
  have sW : W.heap.size = w.heap.size + 1 + 1 := by rw [hW]; simp
  have cL := Lib.hid (loc P F0 s o ls le ln he t k W hs ht hk hP (Utf8Tabs_below hT b0) (h.of (b0.block _ lP0)) st)
  rw [hW] at cL
  replace qr := Lib.hid qr
  replace sW := Lib.hid sW
  replace b0 := Lib.hid b0
  clear h st hT
  go_enter Tryf.func29, Tryf.ntmps29
  go_wp2_with fail
  go_at_call 46
  refine cL.out.mono ?_
  rw [← hW]
  rintro y w1 ⟨q, rfl, hq, hq1, hA⟩
  clear cL hW e0
  have hA1 : After P F0 s o t w w1 := hA.start b0.out (Nat.le_of_lt lP0)
  obtain ⟨o2, ls2, le2, ln2, g1, g2, g3⟩ := hA
  have qr1 := (g2.blk _ (by rw [sW.out]; omega) (by omega)).trans qr.out
  have hq2 : w.heap.size + 1 < q := by rw [sW.out] at hq1; omega
  have z0 := frozen_of_row w1 (w.heap.size + 1) 0 _ _ qr1
  have z1 := frozen_of_row w1 (w.heap.size + 1) 1 _ _ qr1
  have z2 := frozen_of_row w1 (w.heap.size + 1) 2 _ _ qr1
  have z3 := frozen_of_row w1 (w.heap.size + 1) 3 _ _ qr1
  have y0 : w1.cell? ⟨w.heap.size + 1, 0, none⟩ = some .nilIface := cell_of_row _ _ 0 _ _ _ qr1
  have y1 : w1.cell? ⟨w.heap.size + 1, 1, none⟩ = some (.pointer none) := cell_of_row _ _ 1 _ _ _ qr1
  have y2 : w1.cell? ⟨w.heap.size + 1, 2, none⟩ = some (.string ⟨#[]⟩) := cell_of_row _ _ 2 _ _ _ qr1
  have y3 : w1.cell? ⟨w.heap.size + 1, 3, none⟩ = some (.bool false) := cell_of_row _ _ 3 _ _ _ qr1
  have lR := lt_of_cell y0
  replace hA1 := Lib.hid hA1
  replace hq := Lib.hid hq
  replace hq2 := Lib.hid hq2
  clear g1 g2 g3 hq1 qr1
  go_wp2_with fail
  refine bodyPost_ret (v := .agg #[.nilIface, .pointer (some ⟨q, 0, none⟩), .string x, .bool false]) (by simp [results, Tryf.results29, go_sem, y0, y1, y2, y3]) rfl ⟨q, rfl, ?_, by have := hq2.out; omega, ?_⟩
  · exact (((hq.out.set (by have := hq2.out; omega)).set (by have := hq2.out; omega)).set (by have := hq2.out; omega)).set (by have := hq2.out; omega)
  · exact (((hA1.out.set (by omega) lP0).set (by omega) lP0).set (by omega) lP0).set (by omega) lP0
end Go.Proofs.YtcijcifhdakhoaaFmt.Ex
