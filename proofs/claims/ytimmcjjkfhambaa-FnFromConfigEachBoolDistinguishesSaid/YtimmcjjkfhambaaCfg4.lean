/-
  zzBuild: the config's cells behind its great region. Condition: at most 65536 labels.
-/
import Derived.Test.YtimmcjjkfhambaaCfg0
import Derived.Test.YtimmcjjkfhambaaTake
namespace Go.Proofs.Ytimmcjjkfhambaa.Cfg
open Go.RowKit Go.ChangeShapes Go.WideShapes Go.ChangeAt Go.Proofs.Ytimmcjjkfhambaa.Ints

def cfgP (b : Int) (env : ByteArray) (fe ov ms : Int) (mn rn : Bool) (o : Option Addr) (n c : Nat) : Array Value := #[.int .u16 b, .string env, .int .u64 fe, .int .u64 ov, .int .u64 ms, .bool mn, .bool rn, .slice o n c]
theorem builtC (x : Nat → Bool) (env : ByteArray) (fe ov ms : Int) (o : Option Addr) (n : Nat) : Try.prog.built 92 [(67, .bool (x 0)), (68, .bool (x 1)), (53, .bool (x 2)), (52, .bool (x 3)), (51, .bool (x 4)), (65, .bool (x 5)), (66, .bool (x 6)), (69, .bool (x 7)), (70, .bool (x 8)), (71, .bool (x 9)), (72, .bool (x 10)), (7, .string env), (42, .int .u64 fe), (44, .int .u64 ov), (45, .int .u64 ms), (8, .slice o n n)] = some (cfgV x env fe ov ms none none o n) := by kernel_rfl
theorem yields_build {P : Program} {ops : Array Oper} {S : World → Prop} {a : Act} {o : Oper} (hg : o.guard = none) (t : TypeId) (parts : Array (Nat × Operand)) (ho : o.op = .build t parts)
    (l : List (Nat × Value)) (hl : (parts.map fun (i, x) => (i, a.eval x)).toList = l) (cells : Array Value) (hf : P.built t l = some cells) : YieldsIf P ops S o (.agg cells) a := by
  subst hl
  refine .inl ⟨by simp [Region.wanted, hg], fun w _ => ?_⟩
  unfold execOp
  simp only [ho, Sem.run_bind, run_build w t _ cells hf, Result.andThen_ok]
  rfl
/-- Behind the region: the config at C, a copy of the labels. -/
def Made (W1 : World) (x : Nat → Bool) (env : ByteArray) (fe ov ms : Int) (n : Nat) (f : Nat → ByteArray) (c : Value) (wx : World) : Prop :=
  ∃ C o2, c = .pointer (some ⟨C, 0, none⟩) ∧ W1.heap.size ≤ C ∧ Below W1.heap.size W1 wx ∧ wx.heap[C]? = some (.cells (cfgV x env fe ov ms none none o2 n) 92 (0, 0)) ∧ Lab W1.heap.size wx o2 n f ∧ (n ≠ 0 → ∀ b off, o2 = some ⟨b, off, none⟩ → b ≠ C)
set_option maxRecDepth 100000 in
set_option maxHeartbeats 8000000 in
theorem build1 (b : Int) (env : ByteArray) (fe ov ms : Int) (mn rn : Bool) (o : Option Addr) (n c : Nat) (f : Nat → ByteArray) (w : World) (h0 : 0 ≤ b) (h1 : b < 65536) (hn : n ≤ 65536) (hI : StrsAt w o n f) (hz : o = none → n = 0 ∧ c = 0) :
    Calls Try.prog 7 #[.agg (cfgP b env fe ov ms mn rn o n c)] w (Built (bt b) env fe ov ms mn rn n f w) := by
  replace hz := Lib.hid hz
  unfold cfgP
  go_enter Try.func7, Try.ntmps7
  go_upto_region 1 with fail
  have hO : ((w.alloc (.cells (cfgP b env fe ov ms mn rn o n c) 26 (0, 0))).alloc (.cells optZ 67 (0, 0))).heap[w.heap.size + 1]? = some (.cells optZ 67 (0, 0)) := by rw [← World.size_alloc (w := w) (o := .cells (cfgP b env fe ov ms mn rn o n c) 26 (0, 0))]; exact heap_alloc_new _ _
  have hP : ((w.alloc (.cells (cfgP b env fe ov ms mn rn o n c) 26 (0, 0))).alloc (.cells optZ 67 (0, 0))).heap[w.heap.size]? = some (.cells (cfgP b env fe ov ms mn rn o n c) 26 (0, 0)) := (Below.heap_alloc _ _ _ (by simp)).trans (heap_alloc_new _ _)
  have hB : Below w.heap.size w ((w.alloc (.cells (cfgP b env fe ov ms mn rn o n c) 26 (0, 0))).alloc (.cells optZ 67 (0, 0))) := ((Below.refl _ _).alloc (Nat.le_refl _) _).alloc (by simp) _
  have hs : ((w.alloc (.cells (cfgP b env fe ov ms mn rn o n c) 26 (0, 0))).alloc (.cells optZ 67 (0, 0))).heap.size = w.heap.size + 2 := by simp
  unfold optZ cfgP at hO hP hB hs
  generalize ((w.alloc _).alloc _) = W1 at hO hP hB hs ⊢
  have hL := hI.below hB
  generalize hZ : w.heap.size = Z at *
  replace hZ := Lib.hid hZ
  have g0 : W1.cell? ⟨Z, 0, none⟩ = some (.int .u16 b) := cell_at hP rfl
  have g1 : W1.cell? ⟨Z, 1, none⟩ = some (.string env) := cell_at hP rfl
  have g2 : W1.cell? ⟨Z, 2, none⟩ = some (.int .u64 fe) := cell_at hP rfl
  have g3 : W1.cell? ⟨Z, 3, none⟩ = some (.int .u64 ov) := cell_at hP rfl
  have g4 : W1.cell? ⟨Z, 4, none⟩ = some (.int .u64 ms) := cell_at hP rfl
  have g5 : W1.cell? ⟨Z, 5, none⟩ = some (.bool mn) := cell_at hP rfl
  have g6 : W1.cell? ⟨Z, 6, none⟩ = some (.bool rn) := cell_at hP rfl
  have g7 : W1.cell? ⟨Z, 7, none⟩ = some (.slice o n c) := cell_at hP rfl
  replace hO := Lib.hid hO
  replace hP := Lib.hid hP
  replace hB := Lib.hid hB
  replace hL := Lib.hid hL
  replace hI := Lib.hid hI
  have hlt : Z < W1.heap.size := by omega
  replace hs := Lib.hid hs
  go_cut [3] from 3 to 48 (fun c wx => Made W1 (bt b) env fe ov ms n f c wx)
  case first =>
    refine wp_region_held_drew (S := fun w' => Below W1.heap.size W1 w') (by kernel_rfl) (Below.refl _ _).drew (fun hS => ?_)
    refine Take.takeD (i := 0) (v := ?_) (some 4) rfl rfl (by kernel_rfl) (by kernel_rfl) (by kernel_rfl) (fun _ _ _ h => h) (Or.inl ⟨by rfl, ?_⟩) hS ?_
    rotate_left 1
    · intro w9 _; go_simp; try with_reducible rfl
    try simp only [Act.put, List.setIfInBounds_toArray, List.set_cons_zero, List.set_cons_succ]
    refine Take.takeD (i := 1) (v := ?_) (some 5) rfl rfl (by kernel_rfl) (by kernel_rfl) (by kernel_rfl) (fun _ _ _ h => h) (Or.inl ⟨by rfl, ?_⟩) hS ?_
    rotate_left 1
    · intro w9 hSw; have e9 := (hSw.cell (p := ⟨Z, 0, none⟩) hlt).trans g0; go_simp; try with_reducible rfl
    try simp only [Act.put, List.setIfInBounds_toArray, List.set_cons_zero, List.set_cons_succ]
    refine Take.take_callD (i := 2) (v := .bool (bt b 0)) (some 6) rfl rfl (by kernel_rfl) (by kernel_rfl) (by kernel_rfl) (fun _ _ _ h => h) ⟨by rfl, fun w9 _ => ⟨10, #[.int .u16 b, .int .u64 (0 : Nat)], by (go_simp; try rfl), (bit b 0 w9 h0 h1 (by decide)).mono (fun _ _ h => ⟨h.1, h.2.symm⟩)⟩⟩ hS ?_
    try simp only [Act.put, List.setIfInBounds_toArray, List.set_cons_zero, List.set_cons_succ]
    refine Take.takeD (i := 3) (v := ?_) (some 7) rfl rfl (by kernel_rfl) (by kernel_rfl) (by kernel_rfl) (fun _ _ _ h => h) (Or.inl ⟨by rfl, ?_⟩) hS ?_
    rotate_left 1
    · intro w9 _; go_simp; try with_reducible rfl
    try simp only [Act.put, List.setIfInBounds_toArray, List.set_cons_zero, List.set_cons_succ]
    refine Take.takeD (i := 4) (v := ?_) (some 8) rfl rfl (by kernel_rfl) (by kernel_rfl) (by kernel_rfl) (fun _ _ _ h => h) (Or.inl ⟨by rfl, ?_⟩) hS ?_
    rotate_left 1
    · intro w9 hSw; have e9 := (hSw.cell (p := ⟨Z, 0, none⟩) hlt).trans g0; go_simp; try with_reducible rfl
    try simp only [Act.put, List.setIfInBounds_toArray, List.set_cons_zero, List.set_cons_succ]
    refine Take.take_callD (i := 5) (v := .bool (bt b 1)) (some 9) rfl rfl (by kernel_rfl) (by kernel_rfl) (by kernel_rfl) (fun _ _ _ h => h) ⟨by rfl, fun w9 _ => ⟨10, #[.int .u16 b, .int .u64 (1 : Nat)], by (go_simp; try rfl), (bit b 1 w9 h0 h1 (by decide)).mono (fun _ _ h => ⟨h.1, h.2.symm⟩)⟩⟩ hS ?_
    try simp only [Act.put, List.setIfInBounds_toArray, List.set_cons_zero, List.set_cons_succ]
    refine Take.takeD (i := 6) (v := ?_) (some 10) rfl rfl (by kernel_rfl) (by kernel_rfl) (by kernel_rfl) (fun _ _ _ h => h) (Or.inl ⟨by rfl, ?_⟩) hS ?_
    rotate_left 1
    · intro w9 _; go_simp; try with_reducible rfl
    try simp only [Act.put, List.setIfInBounds_toArray, List.set_cons_zero, List.set_cons_succ]
    refine Take.takeD (i := 7) (v := ?_) (some 11) rfl rfl (by kernel_rfl) (by kernel_rfl) (by kernel_rfl) (fun _ _ _ h => h) (Or.inl ⟨by rfl, ?_⟩) hS ?_
    rotate_left 1
    · intro w9 hSw; have e9 := (hSw.cell (p := ⟨Z, 0, none⟩) hlt).trans g0; go_simp; try with_reducible rfl
    try simp only [Act.put, List.setIfInBounds_toArray, List.set_cons_zero, List.set_cons_succ]
    refine Take.take_callD (i := 8) (v := .bool (bt b 2)) (some 12) rfl rfl (by kernel_rfl) (by kernel_rfl) (by kernel_rfl) (fun _ _ _ h => h) ⟨by rfl, fun w9 _ => ⟨10, #[.int .u16 b, .int .u64 (2 : Nat)], by (go_simp; try rfl), (bit b 2 w9 h0 h1 (by decide)).mono (fun _ _ h => ⟨h.1, h.2.symm⟩)⟩⟩ hS ?_
    try simp only [Act.put, List.setIfInBounds_toArray, List.set_cons_zero, List.set_cons_succ]
    refine Take.takeD (i := 9) (v := ?_) (some 13) rfl rfl (by kernel_rfl) (by kernel_rfl) (by kernel_rfl) (fun _ _ _ h => h) (Or.inl ⟨by rfl, ?_⟩) hS ?_
    rotate_left 1
    · intro w9 _; go_simp; try with_reducible rfl
    try simp only [Act.put, List.setIfInBounds_toArray, List.set_cons_zero, List.set_cons_succ]
    refine Take.takeD (i := 10) (v := ?_) (some 14) rfl rfl (by kernel_rfl) (by kernel_rfl) (by kernel_rfl) (fun _ _ _ h => h) (Or.inl ⟨by rfl, ?_⟩) hS ?_
    rotate_left 1
    · intro w9 hSw; have e9 := (hSw.cell (p := ⟨Z, 0, none⟩) hlt).trans g0; go_simp; try with_reducible rfl
    try simp only [Act.put, List.setIfInBounds_toArray, List.set_cons_zero, List.set_cons_succ]
    refine Take.take_callD (i := 11) (v := .bool (bt b 3)) (some 15) rfl rfl (by kernel_rfl) (by kernel_rfl) (by kernel_rfl) (fun _ _ _ h => h) ⟨by rfl, fun w9 _ => ⟨10, #[.int .u16 b, .int .u64 (3 : Nat)], by (go_simp; try rfl), (bit b 3 w9 h0 h1 (by decide)).mono (fun _ _ h => ⟨h.1, h.2.symm⟩)⟩⟩ hS ?_
    try simp only [Act.put, List.setIfInBounds_toArray, List.set_cons_zero, List.set_cons_succ]
    refine Take.takeD (i := 12) (v := ?_) (some 16) rfl rfl (by kernel_rfl) (by kernel_rfl) (by kernel_rfl) (fun _ _ _ h => h) (Or.inl ⟨by rfl, ?_⟩) hS ?_
    rotate_left 1
    · intro w9 _; go_simp; try with_reducible rfl
    try simp only [Act.put, List.setIfInBounds_toArray, List.set_cons_zero, List.set_cons_succ]
    refine Take.takeD (i := 13) (v := ?_) (some 17) rfl rfl (by kernel_rfl) (by kernel_rfl) (by kernel_rfl) (fun _ _ _ h => h) (Or.inl ⟨by rfl, ?_⟩) hS ?_
    rotate_left 1
    · intro w9 hSw; have e9 := (hSw.cell (p := ⟨Z, 0, none⟩) hlt).trans g0; go_simp; try with_reducible rfl
    try simp only [Act.put, List.setIfInBounds_toArray, List.set_cons_zero, List.set_cons_succ]
    refine Take.take_callD (i := 14) (v := .bool (bt b 4)) (some 18) rfl rfl (by kernel_rfl) (by kernel_rfl) (by kernel_rfl) (fun _ _ _ h => h) ⟨by rfl, fun w9 _ => ⟨10, #[.int .u16 b, .int .u64 (4 : Nat)], by (go_simp; try rfl), (bit b 4 w9 h0 h1 (by decide)).mono (fun _ _ h => ⟨h.1, h.2.symm⟩)⟩⟩ hS ?_
    try simp only [Act.put, List.setIfInBounds_toArray, List.set_cons_zero, List.set_cons_succ]
    refine Take.takeD (i := 15) (v := ?_) (some 19) rfl rfl (by kernel_rfl) (by kernel_rfl) (by kernel_rfl) (fun _ _ _ h => h) (Or.inl ⟨by rfl, ?_⟩) hS ?_
    rotate_left 1
    · intro w9 _; go_simp; try with_reducible rfl
    try simp only [Act.put, List.setIfInBounds_toArray, List.set_cons_zero, List.set_cons_succ]
    refine Take.takeD (i := 16) (v := ?_) (some 20) rfl rfl (by kernel_rfl) (by kernel_rfl) (by kernel_rfl) (fun _ _ _ h => h) (Or.inl ⟨by rfl, ?_⟩) hS ?_
    rotate_left 1
    · intro w9 hSw; have e9 := (hSw.cell (p := ⟨Z, 0, none⟩) hlt).trans g0; go_simp; try with_reducible rfl
    try simp only [Act.put, List.setIfInBounds_toArray, List.set_cons_zero, List.set_cons_succ]
    refine Take.take_callD (i := 17) (v := .bool (bt b 5)) (some 21) rfl rfl (by kernel_rfl) (by kernel_rfl) (by kernel_rfl) (fun _ _ _ h => h) ⟨by rfl, fun w9 _ => ⟨10, #[.int .u16 b, .int .u64 (5 : Nat)], by (go_simp; try rfl), (bit b 5 w9 h0 h1 (by decide)).mono (fun _ _ h => ⟨h.1, h.2.symm⟩)⟩⟩ hS ?_
    try simp only [Act.put, List.setIfInBounds_toArray, List.set_cons_zero, List.set_cons_succ]
    refine Take.takeD (i := 18) (v := ?_) (some 22) rfl rfl (by kernel_rfl) (by kernel_rfl) (by kernel_rfl) (fun _ _ _ h => h) (Or.inl ⟨by rfl, ?_⟩) hS ?_
    rotate_left 1
    · intro w9 _; go_simp; try with_reducible rfl
    try simp only [Act.put, List.setIfInBounds_toArray, List.set_cons_zero, List.set_cons_succ]
    refine Take.takeD (i := 19) (v := ?_) (some 23) rfl rfl (by kernel_rfl) (by kernel_rfl) (by kernel_rfl) (fun _ _ _ h => h) (Or.inl ⟨by rfl, ?_⟩) hS ?_
    rotate_left 1
    · intro w9 hSw; have e9 := (hSw.cell (p := ⟨Z, 0, none⟩) hlt).trans g0; go_simp; try with_reducible rfl
    try simp only [Act.put, List.setIfInBounds_toArray, List.set_cons_zero, List.set_cons_succ]
    refine Take.take_callD (i := 20) (v := .bool (bt b 6)) (some 24) rfl rfl (by kernel_rfl) (by kernel_rfl) (by kernel_rfl) (fun _ _ _ h => h) ⟨by rfl, fun w9 _ => ⟨10, #[.int .u16 b, .int .u64 (6 : Nat)], by (go_simp; try rfl), (bit b 6 w9 h0 h1 (by decide)).mono (fun _ _ h => ⟨h.1, h.2.symm⟩)⟩⟩ hS ?_
    try simp only [Act.put, List.setIfInBounds_toArray, List.set_cons_zero, List.set_cons_succ]
    refine Take.takeD (i := 21) (v := ?_) (some 25) rfl rfl (by kernel_rfl) (by kernel_rfl) (by kernel_rfl) (fun _ _ _ h => h) (Or.inl ⟨by rfl, ?_⟩) hS ?_
    rotate_left 1
    · intro w9 _; go_simp; try with_reducible rfl
    try simp only [Act.put, List.setIfInBounds_toArray, List.set_cons_zero, List.set_cons_succ]
    refine Take.takeD (i := 22) (v := ?_) (some 26) rfl rfl (by kernel_rfl) (by kernel_rfl) (by kernel_rfl) (fun _ _ _ h => h) (Or.inl ⟨by rfl, ?_⟩) hS ?_
    rotate_left 1
    · intro w9 hSw; have e9 := (hSw.cell (p := ⟨Z, 0, none⟩) hlt).trans g0; go_simp; try with_reducible rfl
    try simp only [Act.put, List.setIfInBounds_toArray, List.set_cons_zero, List.set_cons_succ]
    refine Take.take_callD (i := 23) (v := .bool (bt b 7)) (some 27) rfl rfl (by kernel_rfl) (by kernel_rfl) (by kernel_rfl) (fun _ _ _ h => h) ⟨by rfl, fun w9 _ => ⟨10, #[.int .u16 b, .int .u64 (7 : Nat)], by (go_simp; try rfl), (bit b 7 w9 h0 h1 (by decide)).mono (fun _ _ h => ⟨h.1, h.2.symm⟩)⟩⟩ hS ?_
    try simp only [Act.put, List.setIfInBounds_toArray, List.set_cons_zero, List.set_cons_succ]
    refine Take.takeD (i := 24) (v := ?_) (some 28) rfl rfl (by kernel_rfl) (by kernel_rfl) (by kernel_rfl) (fun _ _ _ h => h) (Or.inl ⟨by rfl, ?_⟩) hS ?_
    rotate_left 1
    · intro w9 _; go_simp; try with_reducible rfl
    try simp only [Act.put, List.setIfInBounds_toArray, List.set_cons_zero, List.set_cons_succ]
    refine Take.takeD (i := 25) (v := ?_) (some 29) rfl rfl (by kernel_rfl) (by kernel_rfl) (by kernel_rfl) (fun _ _ _ h => h) (Or.inl ⟨by rfl, ?_⟩) hS ?_
    rotate_left 1
    · intro w9 hSw; have e9 := (hSw.cell (p := ⟨Z, 0, none⟩) hlt).trans g0; go_simp; try with_reducible rfl
    try simp only [Act.put, List.setIfInBounds_toArray, List.set_cons_zero, List.set_cons_succ]
    refine Take.take_callD (i := 26) (v := .bool (bt b 8)) (some 30) rfl rfl (by kernel_rfl) (by kernel_rfl) (by kernel_rfl) (fun _ _ _ h => h) ⟨by rfl, fun w9 _ => ⟨10, #[.int .u16 b, .int .u64 (8 : Nat)], by (go_simp; try rfl), (bit b 8 w9 h0 h1 (by decide)).mono (fun _ _ h => ⟨h.1, h.2.symm⟩)⟩⟩ hS ?_
    try simp only [Act.put, List.setIfInBounds_toArray, List.set_cons_zero, List.set_cons_succ]
    refine Take.takeD (i := 27) (v := ?_) (some 31) rfl rfl (by kernel_rfl) (by kernel_rfl) (by kernel_rfl) (fun _ _ _ h => h) (Or.inl ⟨by rfl, ?_⟩) hS ?_
    rotate_left 1
    · intro w9 _; go_simp; try with_reducible rfl
    try simp only [Act.put, List.setIfInBounds_toArray, List.set_cons_zero, List.set_cons_succ]
    refine Take.takeD (i := 28) (v := ?_) (some 32) rfl rfl (by kernel_rfl) (by kernel_rfl) (by kernel_rfl) (fun _ _ _ h => h) (Or.inl ⟨by rfl, ?_⟩) hS ?_
    rotate_left 1
    · intro w9 hSw; have e9 := (hSw.cell (p := ⟨Z, 0, none⟩) hlt).trans g0; go_simp; try with_reducible rfl
    try simp only [Act.put, List.setIfInBounds_toArray, List.set_cons_zero, List.set_cons_succ]
    refine Take.take_callD (i := 29) (v := .bool (bt b 9)) (some 33) rfl rfl (by kernel_rfl) (by kernel_rfl) (by kernel_rfl) (fun _ _ _ h => h) ⟨by rfl, fun w9 _ => ⟨10, #[.int .u16 b, .int .u64 (9 : Nat)], by (go_simp; try rfl), (bit b 9 w9 h0 h1 (by decide)).mono (fun _ _ h => ⟨h.1, h.2.symm⟩)⟩⟩ hS ?_
    try simp only [Act.put, List.setIfInBounds_toArray, List.set_cons_zero, List.set_cons_succ]
    refine Take.takeD (i := 30) (v := ?_) (some 34) rfl rfl (by kernel_rfl) (by kernel_rfl) (by kernel_rfl) (fun _ _ _ h => h) (Or.inl ⟨by rfl, ?_⟩) hS ?_
    rotate_left 1
    · intro w9 _; go_simp; try with_reducible rfl
    try simp only [Act.put, List.setIfInBounds_toArray, List.set_cons_zero, List.set_cons_succ]
    refine Take.takeD (i := 31) (v := ?_) (some 35) rfl rfl (by kernel_rfl) (by kernel_rfl) (by kernel_rfl) (fun _ _ _ h => h) (Or.inl ⟨by rfl, ?_⟩) hS ?_
    rotate_left 1
    · intro w9 hSw; have e9 := (hSw.cell (p := ⟨Z, 0, none⟩) hlt).trans g0; go_simp; try with_reducible rfl
    try simp only [Act.put, List.setIfInBounds_toArray, List.set_cons_zero, List.set_cons_succ]
    refine Take.take_callD (i := 32) (v := .bool (bt b 10)) (some 36) rfl rfl (by kernel_rfl) (by kernel_rfl) (by kernel_rfl) (fun _ _ _ h => h) ⟨by rfl, fun w9 _ => ⟨10, #[.int .u16 b, .int .u64 (10 : Nat)], by (go_simp; try rfl), (bit b 10 w9 h0 h1 (by decide)).mono (fun _ _ h => ⟨h.1, h.2.symm⟩)⟩⟩ hS ?_
    try simp only [Act.put, List.setIfInBounds_toArray, List.set_cons_zero, List.set_cons_succ]
    refine Take.takeD (i := 33) (v := ?_) (some 37) rfl rfl (by kernel_rfl) (by kernel_rfl) (by kernel_rfl) (fun _ _ _ h => h) (Or.inl ⟨by rfl, ?_⟩) hS ?_
    rotate_left 1
    · intro w9 _; go_simp; try with_reducible rfl
    try simp only [Act.put, List.setIfInBounds_toArray, List.set_cons_zero, List.set_cons_succ]
    refine Take.takeD (i := 34) (v := ?_) (some 38) rfl rfl (by kernel_rfl) (by kernel_rfl) (by kernel_rfl) (fun _ _ _ h => h) (Or.inl ⟨by rfl, ?_⟩) hS ?_
    rotate_left 1
    · intro w9 hSw; have e9 := (hSw.cell (p := ⟨Z, 1, none⟩) hlt).trans g1; go_simp; try with_reducible rfl
    try simp only [Act.put, List.setIfInBounds_toArray, List.set_cons_zero, List.set_cons_succ]
    refine Take.takeD (i := 35) (v := ?_) (some 39) rfl rfl (by kernel_rfl) (by kernel_rfl) (by kernel_rfl) (fun _ _ _ h => h) (Or.inl ⟨by rfl, ?_⟩) hS ?_
    rotate_left 1
    · intro w9 _; go_simp; try with_reducible rfl
    try simp only [Act.put, List.setIfInBounds_toArray, List.set_cons_zero, List.set_cons_succ]
    refine Take.takeD (i := 36) (v := ?_) (some 40) rfl rfl (by kernel_rfl) (by kernel_rfl) (by kernel_rfl) (fun _ _ _ h => h) (Or.inl ⟨by rfl, ?_⟩) hS ?_
    rotate_left 1
    · intro w9 hSw; have e9 := (hSw.cell (p := ⟨Z, 2, none⟩) hlt).trans g2; go_simp; try with_reducible rfl
    try simp only [Act.put, List.setIfInBounds_toArray, List.set_cons_zero, List.set_cons_succ]
    refine Take.takeD (i := 37) (v := ?_) (some 41) rfl rfl (by kernel_rfl) (by kernel_rfl) (by kernel_rfl) (fun _ _ _ h => h) (Or.inl ⟨by rfl, ?_⟩) hS ?_
    rotate_left 1
    · intro w9 _; go_simp; try with_reducible rfl
    try simp only [Act.put, List.setIfInBounds_toArray, List.set_cons_zero, List.set_cons_succ]
    refine Take.takeD (i := 38) (v := ?_) (some 42) rfl rfl (by kernel_rfl) (by kernel_rfl) (by kernel_rfl) (fun _ _ _ h => h) (Or.inl ⟨by rfl, ?_⟩) hS ?_
    rotate_left 1
    · intro w9 hSw; have e9 := (hSw.cell (p := ⟨Z, 3, none⟩) hlt).trans g3; go_simp; try with_reducible rfl
    try simp only [Act.put, List.setIfInBounds_toArray, List.set_cons_zero, List.set_cons_succ]
    refine Take.takeD (i := 39) (v := ?_) (some 43) rfl rfl (by kernel_rfl) (by kernel_rfl) (by kernel_rfl) (fun _ _ _ h => h) (Or.inl ⟨by rfl, ?_⟩) hS ?_
    rotate_left 1
    · intro w9 _; go_simp; try with_reducible rfl
    try simp only [Act.put, List.setIfInBounds_toArray, List.set_cons_zero, List.set_cons_succ]
    refine Take.takeD (i := 40) (v := ?_) (some 44) rfl rfl (by kernel_rfl) (by kernel_rfl) (by kernel_rfl) (fun _ _ _ h => h) (Or.inl ⟨by rfl, ?_⟩) hS ?_
    rotate_left 1
    · intro w9 hSw; have e9 := (hSw.cell (p := ⟨Z, 4, none⟩) hlt).trans g4; go_simp; try with_reducible rfl
    try simp only [Act.put, List.setIfInBounds_toArray, List.set_cons_zero, List.set_cons_succ]
    refine Take.takeD (i := 41) (v := ?_) (some 45) rfl rfl (by kernel_rfl) (by kernel_rfl) (by kernel_rfl) (fun _ _ _ h => h) (Or.inl ⟨by rfl, ?_⟩) hS ?_
    rotate_left 1
    · intro w9 _; go_simp; try with_reducible rfl
    try simp only [Act.put, List.setIfInBounds_toArray, List.set_cons_zero, List.set_cons_succ]
    refine Take.takeD (i := 42) (v := ?_) (some 46) rfl rfl (by kernel_rfl) (by kernel_rfl) (by kernel_rfl) (fun _ _ _ h => h) (Or.inl ⟨by rfl, ?_⟩) hS ?_
    rotate_left 1
    · intro w9 hSw; have e9 := (hSw.cell (p := ⟨Z, 7, none⟩) hlt).trans g7; go_simp; try with_reducible rfl
    try simp only [Act.put, List.setIfInBounds_toArray, List.set_cons_zero, List.set_cons_succ]
    have hL1 : StrsAt W1.drew o n f := hL.out.below (Below.refl _ _).drew
    replace hL1 := Lib.hid hL1
    clear g0 g1 g2 g3 g4 g5 g6 g7
    refine wpAnyH_ready (rs := [43, 45]) (by kernel_rfl) (by decide) ?_
    refine AllReadyH.cons rfl (fun K' hK => ?_) ?_
    · rw [if_pos (by kernel_rfl)]
      go_wp2_with (go_at_call 9; refine (clone o n c f _ hn hL1.out hz.out).mono ?_; rintro e w4 ⟨o2, rfl, L4, b4⟩)
      have hS4 : Below W1.heap.size W1 w4 := hS.trans b4
      refine hK.out _ _ hS4 (fun _ => ?_)
      clear hK hS
      try simp only [Act.put, List.setIfInBounds_toArray, List.set_cons_zero, List.set_cons_succ]
      refine Take.takeD (i := 44) (some 48) rfl rfl (by kernel_rfl) (by kernel_rfl) (by kernel_rfl) (fun _ _ _ h => h) (yields_build rfl 92 _ rfl _ (by kernel_rfl) _ (builtC (bt b) env fe ov ms o2 n)) hS4 ?_
      try simp only [Act.put, List.setIfInBounds_toArray, List.set_cons_zero, List.set_cons_succ]
      refine wpAnyH_ready (rs := [45]) (by kernel_rfl) (by decide) ?_
      refine AllReadyH.cons rfl (fun K' hK => ?_) AllReadyH.nil
      rw [if_pos (by kernel_rfl)]
      go_wp2_with fail
      have hC : (w4.alloc (.cells Try.zeroCells92 92 (0, 0))).heap[w4.heap.size]? = some (.cells Try.zeroCells92 92 (0, 0)) := heap_alloc_new _ _
      have hB5 : Below W1.heap.size W1 (w4.alloc (.cells Try.zeroCells92 92 (0, 0))) := (hS4.alloc hS4.size _)
      have hs5 : (w4.alloc (.cells Try.zeroCells92 92 (0, 0))).heap.size = w4.heap.size + 1 := by simp
      have hk5 : ∀ k, k < w4.heap.size → (w4.alloc (.cells Try.zeroCells92 92 (0, 0))).heap[k]? = w4.heap[k]? := fun k hk => Below.heap_alloc _ _ _ hk
      generalize (w4.alloc _) = w5 at hC hB5 hs5 hk5 ⊢
      refine hK.out _ _ hB5 (fun _ => ?_)
      clear hK
      try simp only [Act.put, List.setIfInBounds_toArray, List.set_cons_zero, List.set_cons_succ]
      refine wpAnyH_ready (rs := [46]) (by kernel_rfl) (by decide) ?_
      refine AllReadyH.cons rfl (fun K' hK => ?_) AllReadyH.nil
      rw [if_pos (by kernel_rfl)]
      refine wp_store_row 92 (.tmp 3) (.tmp 48) rfl w4.heap.size (cfgV (bt b) env fe ov ms none none o2 n) rfl (by kernel_rfl) 92 _ hC (by kernel_rfl) (by kernel_rfl) (by kernel_rfl) ?_
      refine hK.out _ _ (below_setRow hB5 hS4.size _) (fun _ => ?_)
      clear hK
      have hfin : Made W1 (bt b) env fe ov ms n f (.pointer (some ⟨w4.heap.size, 0, none⟩)) (w5.setRow w4.heap.size (cfgV (bt b) env fe ov ms none none o2 n)) :=
        ⟨_, o2, rfl, hS4.size, below_setRow hB5 hS4.size _, setRow_at hC _, L4.keep (by rw [setRow_size]; omega) (fun k _ hk => (setRow_ne (by omega) _).trans (hk5 k hk)), fun h0 b off e => by have := lab_lt L4 h0 e; omega⟩
      refine wpAnyH_done (by kernel_rfl) ?_ _
      replace hfin := Lib.hid hfin
      clear hC hB5 hs5 hk5 L4 b4 hS4
      go_wp2_with fail
      go_meet
      exact hfin.out
    refine AllReadyH.cons rfl (fun K' hK => ?_) AllReadyH.nil
    have hS4 : Below W1.heap.size W1 W1 := Below.refl _ _
    rw [if_pos (by kernel_rfl)]
    go_wp2_with fail
    have hC : (W1.alloc (.cells Try.zeroCells92 92 (0, 0))).drew.heap[W1.heap.size]? = some (.cells Try.zeroCells92 92 (0, 0)) := heap_alloc_new _ _
    have hB5 : Below W1.heap.size W1 (W1.alloc (.cells Try.zeroCells92 92 (0, 0))).drew := (hS4.alloc hS4.size _).drew
    have hs5 : (W1.alloc (.cells Try.zeroCells92 92 (0, 0))).drew.heap.size = W1.heap.size + 1 := by simp
    have hk5 : ∀ k, k < W1.heap.size → (W1.alloc (.cells Try.zeroCells92 92 (0, 0))).drew.heap[k]? = W1.heap[k]? := fun k hk => Below.heap_alloc _ _ _ hk
    generalize (W1.alloc _).drew = w5 at hC hB5 hs5 hk5 ⊢
    have hL5 := hL.out.below hB5
    replace hL5 := Lib.hid hL5
    refine hK.out _ _ hB5 (fun _ => ?_)
    clear hK hS
    try simp only [Act.put, List.setIfInBounds_toArray, List.set_cons_zero, List.set_cons_succ]
    refine wpAnyH_ready (rs := [43]) (by kernel_rfl) (by decide) ?_
    refine AllReadyH.cons rfl (fun K' hK => ?_) AllReadyH.nil
    rw [if_pos (by kernel_rfl)]
    go_wp2_with (go_at_call 9; refine (clone o n c f _ hn hL5.out hz.out).mono ?_; rintro e w4 ⟨o2, rfl, L4, b4⟩)
    have hsz : w5.heap.size = W1.heap.size + 1 := hs5
    have hS6 : Below W1.heap.size W1 w4 := hB5.trans (b4.mono hB5.size)
    have hC6 : w4.heap[W1.heap.size]? = some (.cells Try.zeroCells92 92 (0, 0)) := (b4.block _ (by omega)).trans hC
    refine hK.out _ _ hS6 (fun _ => ?_)
    clear hK
    try simp only [Act.put, List.setIfInBounds_toArray, List.set_cons_zero, List.set_cons_succ]
    refine Take.takeD (i := 44) (some 48) rfl rfl (by kernel_rfl) (by kernel_rfl) (by kernel_rfl) (fun _ _ _ h => h) (yields_build rfl 92 _ rfl _ (by kernel_rfl) _ (builtC (bt b) env fe ov ms o2 n)) hS6 ?_
    try simp only [Act.put, List.setIfInBounds_toArray, List.set_cons_zero, List.set_cons_succ]
    refine wpAnyH_ready (rs := [46]) (by kernel_rfl) (by decide) ?_
    refine AllReadyH.cons rfl (fun K' hK => ?_) AllReadyH.nil
    rw [if_pos (by kernel_rfl)]
    refine wp_store_row 92 (.tmp 3) (.tmp 48) rfl W1.heap.size (cfgV (bt b) env fe ov ms none none o2 n) rfl (by kernel_rfl) 92 _ hC6 (by kernel_rfl) (by kernel_rfl) (by kernel_rfl) ?_
    refine hK.out _ _ (below_setRow hS6 (Nat.le_refl _) _) (fun _ => ?_)
    clear hK
    have hlab : Lab w5.heap.size (w4.setRow W1.heap.size (cfgV (bt b) env fe ov ms none none o2 n)) o2 n f := L4.keep (by rw [setRow_size]; exact Nat.le_refl _) (fun k hk _ => setRow_ne (by omega) _)
    have hfin : Made W1 (bt b) env fe ov ms n f (.pointer (some ⟨W1.heap.size, 0, none⟩)) (w4.setRow W1.heap.size (cfgV (bt b) env fe ov ms none none o2 n)) :=
      ⟨_, o2, rfl, Nat.le_refl _, below_setRow hS6 (Nat.le_refl _) _, setRow_at hC6 _, ⟨hlab.at_, hlab.nil, fun b off h => Nat.le_trans (by omega) (hlab.ge b off h)⟩, fun _ b off e => by have := hlab.ge b off e; omega⟩
    refine wpAnyH_done (by kernel_rfl) ?_ _
    replace hfin := Lib.hid hfin
    clear hC hB5 hs5 hk5 L4 b4 hS6 hC6 hlab hsz hS4 hL5
    go_wp2_with fail
    go_meet
    exact hfin.out
  case rest =>
    obtain ⟨C, o2, rfl, hCge, hB1, hC, hL2, hne⟩ := hcut
    have sC : St W1 C (bt b) env fe ov ms mn rn o2 n f none none wc := ⟨hCge, hB1, hC, hL2, (fun h => absurd rfl h), (fun h => absurd rfl h), (fun M e => by cases e), (fun M e => by cases e), hne⟩
    have e5 : wc.cell? ⟨Z, 5, none⟩ = some (.bool mn) := (hB1.cell (p := ⟨Z, 5, none⟩) hlt).trans g5
    have ev6 : ∀ w', Below W1.heap.size W1 w' → w'.cell? ⟨Z, 6, none⟩ = some (.bool rn) := fun w' h => (h.cell (p := ⟨Z, 6, none⟩) hlt).trans g6
    replace ev6 := Lib.hid ev6
    clear g0 g1 g2 g3 g4 g5 g6 g7 hCge hB1 hC hL2 hne
    cases hmn : mn
    · subst hmn
      go_wp2_with fail
      go_at_call 11
      refine (zeroRx _).mono ?_
      rintro e wz ⟨R, rfl, rfl, hR⟩
      have rm := rgx_new sC.below.size hR
      have am := sC.alloc (.cells R 103 (0, 0))
      have nm : wc.heap.size ≠ C := by have := lt_row sC.cfg; omega
      have q6m : (wc.alloc (.cells R 103 (0, 0))).cell? ⟨C, 6, none⟩ = some (.pointer none) := cell_at am.cfg rfl
      have q7m : (wc.alloc (.cells R 103 (0, 0))).frozen? ⟨C, 6, none⟩ = false := frz am.cfg
      replace rm := Lib.hid rm
      replace am := Lib.hid am
      replace nm := Lib.hid nm
      clear hR
      generalize (wc.alloc _) = wm at *
      generalize wc.heap.size = Mm at *
      go_upto_region 4 with fail
      have s5 := am.out.setM Mm nm.out rm.out
      clear am rm q6m q7m e5
      generalize (wm.setCell ⟨C, 6, none⟩ (.pointer (some ⟨Mm, 0, none⟩))) = w5 at *
      have e6 := ev6.out _ s5.below
      cases hrn : rn
      · subst hrn
        go_wp2_with fail
        go_at_call 11
        refine (zeroRx _).mono ?_
        rintro e wz ⟨R, rfl, rfl, hR⟩
        have rr := rgx_new s5.below.size hR
        have ar := s5.alloc (.cells R 103 (0, 0))
        have nr : w5.heap.size ≠ C := by have := lt_row s5.cfg; omega
        have q6r : (w5.alloc (.cells R 103 (0, 0))).cell? ⟨C, 7, none⟩ = some (.pointer none) := cell_at ar.cfg rfl
        have q7r : (w5.alloc (.cells R 103 (0, 0))).frozen? ⟨C, 7, none⟩ = false := frz ar.cfg
        replace rr := Lib.hid rr
        replace ar := Lib.hid ar
        replace nr := Lib.hid nr
        clear hR
        generalize (w5.alloc _) = wr at *
        generalize w5.heap.size = Mr at *
        go_upto_region 6 with fail
        have hs6 := ar.out.setR Mr nr.out rr.out
        have hr := hs6.rr (fun h => by cases h)
        have hm := hs6.rm (fun h => by cases h)
        clear ar rr q6r q7r e6
        generalize (wr.setCell ⟨C, 7, none⟩ (.pointer (some ⟨Mr, 0, none⟩))) = w6 at *
        have hcell := Lib.hid hs6.cfg
        have hO6 : w6.heap[Z + 1]? = some (.cells optZ 67 (0, 0)) := (hs6.below.block _ (by have := hs.out; omega)).trans hO.out
        replace hO6 := Lib.hid hO6
        replace hs6 := Lib.hid hs6
        go_wp2_with fail
        go_at_call 12
        refine (opts C (bt b) env fe ov ms (some ⟨Mm, 0, none⟩) (some ⟨Mr, 0, none⟩) o2 n _ hcell.out).mono ?_
        rintro e w9 ⟨rfl, b9⟩
        have hO9 : w9.heap[Z + 1]? = some (.cells optZ 67 (0, 0)) := (b9.block _ (by have := hs6.out.below.size; have := hs.out; omega)).trans hO6.out
        have hn3 : (w9.setRow (Z + 1) (optV (bt b) env fe ov ms (some ⟨Mm, 0, none⟩) (some ⟨Mr, 0, none⟩) o2 n)).heap[Z + 1]? = some (.cells (optV (bt b) env fe ov ms (some ⟨Mm, 0, none⟩) (some ⟨Mr, 0, none⟩) o2 n) 67 (0, 0)) := setRow_at hO9 _
        have hB10 : Below Z w (w9.setRow (Z + 1) (optV (bt b) env fe ov ms (some ⟨Mm, 0, none⟩) (some ⟨Mr, 0, none⟩) o2 n)) := below_setRow (hB.out.trans ((hs6.out.below.mono (by have := hs.out; omega)).trans (b9.mono (by have := hs6.out.below.size; have := hs.out; omega)))) (by omega) _
        have hf := fin_all hs6.out hm hr hs.out b9 (setRow_size w9 (Z + 1) (optV (bt b) env fe ov ms (some ⟨Mm, 0, none⟩) (some ⟨Mr, 0, none⟩) o2 n)) (fun k h => setRow_ne h _) hB10
        replace hf := Lib.hid hf
        replace hn3 := Lib.hid hn3
        replace hO9 := Lib.hid hO9
        clear hB10 b9
        go_wp2_with (refine wpList_store_row rfl 67 (.tmp 2) (.tmp 59) rfl (Z + 1) (optV (bt b) env fe ov ms (some ⟨Mm, 0, none⟩) (some ⟨Mr, 0, none⟩) o2 n) rfl rfl 67 _ hO9.out (by kernel_rfl) (by kernel_rfl) (by kernel_rfl) ?_; generalize w9.setRow (Z + 1) (optV (bt b) env fe ov ms (some ⟨Mm, 0, none⟩) (some ⟨Mr, 0, none⟩) o2 n) = w10 at *)
        refine bodyPost_ret (v := .agg (optV (bt b) env fe ov ms (some ⟨Mm, 0, none⟩) (some ⟨Mr, 0, none⟩) o2 n)) (results_cell_row rfl _ _ (Z + 1) 67 (optV (bt b) env fe ov ms (some ⟨Mm, 0, none⟩) (some ⟨Mr, 0, none⟩) o2 n) (0, 0) _ (by kernel_rfl) hn3.out (by rw [Try.underlying67]) rfl (by kernel_rfl)) rfl ⟨_, _, _, rfl, ?_⟩
        rw [hZ.out]
        exact hf.out
      · subst hrn
        go_upto_region 6 with fail
        have hs6 := s5
        have hr : Rgx W1.heap.size w5 true none := .inl ⟨rfl, rfl⟩
        have hm := hs6.rm (fun h => by cases h)
        clear e6
        have hcell := Lib.hid hs6.cfg
        have hO6 : w5.heap[Z + 1]? = some (.cells optZ 67 (0, 0)) := (hs6.below.block _ (by have := hs.out; omega)).trans hO.out
        replace hO6 := Lib.hid hO6
        replace hs6 := Lib.hid hs6
        go_wp2_with fail
        go_at_call 12
        refine (opts C (bt b) env fe ov ms (some ⟨Mm, 0, none⟩) none o2 n _ hcell.out).mono ?_
        rintro e w9 ⟨rfl, b9⟩
        have hO9 : w9.heap[Z + 1]? = some (.cells optZ 67 (0, 0)) := (b9.block _ (by have := hs6.out.below.size; have := hs.out; omega)).trans hO6.out
        have hn3 : (w9.setRow (Z + 1) (optV (bt b) env fe ov ms (some ⟨Mm, 0, none⟩) none o2 n)).heap[Z + 1]? = some (.cells (optV (bt b) env fe ov ms (some ⟨Mm, 0, none⟩) none o2 n) 67 (0, 0)) := setRow_at hO9 _
        have hB10 : Below Z w (w9.setRow (Z + 1) (optV (bt b) env fe ov ms (some ⟨Mm, 0, none⟩) none o2 n)) := below_setRow (hB.out.trans ((hs6.out.below.mono (by have := hs.out; omega)).trans (b9.mono (by have := hs6.out.below.size; have := hs.out; omega)))) (by omega) _
        have hf := fin_all hs6.out hm hr hs.out b9 (setRow_size w9 (Z + 1) (optV (bt b) env fe ov ms (some ⟨Mm, 0, none⟩) none o2 n)) (fun k h => setRow_ne h _) hB10
        replace hf := Lib.hid hf
        replace hn3 := Lib.hid hn3
        replace hO9 := Lib.hid hO9
        clear hB10 b9
        go_wp2_with (refine wpList_store_row rfl 67 (.tmp 2) (.tmp 59) rfl (Z + 1) (optV (bt b) env fe ov ms (some ⟨Mm, 0, none⟩) none o2 n) rfl rfl 67 _ hO9.out (by kernel_rfl) (by kernel_rfl) (by kernel_rfl) ?_; generalize w9.setRow (Z + 1) (optV (bt b) env fe ov ms (some ⟨Mm, 0, none⟩) none o2 n) = w10 at *)
        refine bodyPost_ret (v := .agg (optV (bt b) env fe ov ms (some ⟨Mm, 0, none⟩) none o2 n)) (results_cell_row rfl _ _ (Z + 1) 67 (optV (bt b) env fe ov ms (some ⟨Mm, 0, none⟩) none o2 n) (0, 0) _ (by kernel_rfl) hn3.out (by rw [Try.underlying67]) rfl (by kernel_rfl)) rfl ⟨_, _, _, rfl, ?_⟩
        rw [hZ.out]
        exact hf.out
    · subst hmn
      go_upto_region 4 with fail
      clear e5
      have e6 := ev6.out _ sC.below
      cases hrn : rn
      · subst hrn
        go_wp2_with fail
        go_at_call 11
        refine (zeroRx _).mono ?_
        rintro e wz ⟨R, rfl, rfl, hR⟩
        have rr := rgx_new sC.below.size hR
        have ar := sC.alloc (.cells R 103 (0, 0))
        have nr : wc.heap.size ≠ C := by have := lt_row sC.cfg; omega
        have q6r : (wc.alloc (.cells R 103 (0, 0))).cell? ⟨C, 7, none⟩ = some (.pointer none) := cell_at ar.cfg rfl
        have q7r : (wc.alloc (.cells R 103 (0, 0))).frozen? ⟨C, 7, none⟩ = false := frz ar.cfg
        replace rr := Lib.hid rr
        replace ar := Lib.hid ar
        replace nr := Lib.hid nr
        clear hR
        generalize (wc.alloc _) = wr at *
        generalize wc.heap.size = Mr at *
        go_upto_region 6 with fail
        have hs6 := ar.out.setR Mr nr.out rr.out
        have hr := hs6.rr (fun h => by cases h)
        have hm : ∀ w, Rgx W1.heap.size w true none := fun _ => .inl ⟨rfl, rfl⟩
        clear ar rr q6r q7r e6
        generalize (wr.setCell ⟨C, 7, none⟩ (.pointer (some ⟨Mr, 0, none⟩))) = w6 at *
        have hcell := Lib.hid hs6.cfg
        have hO6 : w6.heap[Z + 1]? = some (.cells optZ 67 (0, 0)) := (hs6.below.block _ (by have := hs.out; omega)).trans hO.out
        replace hO6 := Lib.hid hO6
        replace hs6 := Lib.hid hs6
        go_wp2_with fail
        go_at_call 12
        refine (opts C (bt b) env fe ov ms none (some ⟨Mr, 0, none⟩) o2 n _ hcell.out).mono ?_
        rintro e w9 ⟨rfl, b9⟩
        have hO9 : w9.heap[Z + 1]? = some (.cells optZ 67 (0, 0)) := (b9.block _ (by have := hs6.out.below.size; have := hs.out; omega)).trans hO6.out
        have hn3 : (w9.setRow (Z + 1) (optV (bt b) env fe ov ms none (some ⟨Mr, 0, none⟩) o2 n)).heap[Z + 1]? = some (.cells (optV (bt b) env fe ov ms none (some ⟨Mr, 0, none⟩) o2 n) 67 (0, 0)) := setRow_at hO9 _
        have hB10 : Below Z w (w9.setRow (Z + 1) (optV (bt b) env fe ov ms none (some ⟨Mr, 0, none⟩) o2 n)) := below_setRow (hB.out.trans ((hs6.out.below.mono (by have := hs.out; omega)).trans (b9.mono (by have := hs6.out.below.size; have := hs.out; omega)))) (by omega) _
        have hf := fin_all hs6.out (hm _) hr hs.out b9 (setRow_size w9 (Z + 1) (optV (bt b) env fe ov ms none (some ⟨Mr, 0, none⟩) o2 n)) (fun k h => setRow_ne h _) hB10
        replace hf := Lib.hid hf
        replace hn3 := Lib.hid hn3
        replace hO9 := Lib.hid hO9
        clear hB10 b9
        go_wp2_with (refine wpList_store_row rfl 67 (.tmp 2) (.tmp 59) rfl (Z + 1) (optV (bt b) env fe ov ms none (some ⟨Mr, 0, none⟩) o2 n) rfl rfl 67 _ hO9.out (by kernel_rfl) (by kernel_rfl) (by kernel_rfl) ?_; generalize w9.setRow (Z + 1) (optV (bt b) env fe ov ms none (some ⟨Mr, 0, none⟩) o2 n) = w10 at *)
        refine bodyPost_ret (v := .agg (optV (bt b) env fe ov ms none (some ⟨Mr, 0, none⟩) o2 n)) (results_cell_row rfl _ _ (Z + 1) 67 (optV (bt b) env fe ov ms none (some ⟨Mr, 0, none⟩) o2 n) (0, 0) _ (by kernel_rfl) hn3.out (by rw [Try.underlying67]) rfl (by kernel_rfl)) rfl ⟨_, _, _, rfl, ?_⟩
        rw [hZ.out]
        exact hf.out
      · subst hrn
        go_upto_region 6 with fail
        have hs6 := sC
        have hr : Rgx W1.heap.size wc true none := .inl ⟨rfl, rfl⟩
        have hm : ∀ w, Rgx W1.heap.size w true none := fun _ => .inl ⟨rfl, rfl⟩
        clear e6
        have hcell := Lib.hid hs6.cfg
        have hO6 : wc.heap[Z + 1]? = some (.cells optZ 67 (0, 0)) := (hs6.below.block _ (by have := hs.out; omega)).trans hO.out
        replace hO6 := Lib.hid hO6
        replace hs6 := Lib.hid hs6
        go_wp2_with fail
        go_at_call 12
        refine (opts C (bt b) env fe ov ms none none o2 n _ hcell.out).mono ?_
        rintro e w9 ⟨rfl, b9⟩
        have hO9 : w9.heap[Z + 1]? = some (.cells optZ 67 (0, 0)) := (b9.block _ (by have := hs6.out.below.size; have := hs.out; omega)).trans hO6.out
        have hn3 : (w9.setRow (Z + 1) (optV (bt b) env fe ov ms none none o2 n)).heap[Z + 1]? = some (.cells (optV (bt b) env fe ov ms none none o2 n) 67 (0, 0)) := setRow_at hO9 _
        have hB10 : Below Z w (w9.setRow (Z + 1) (optV (bt b) env fe ov ms none none o2 n)) := below_setRow (hB.out.trans ((hs6.out.below.mono (by have := hs.out; omega)).trans (b9.mono (by have := hs6.out.below.size; have := hs.out; omega)))) (by omega) _
        have hf := fin_all hs6.out (hm _) hr hs.out b9 (setRow_size w9 (Z + 1) (optV (bt b) env fe ov ms none none o2 n)) (fun k h => setRow_ne h _) hB10
        replace hf := Lib.hid hf
        replace hn3 := Lib.hid hn3
        replace hO9 := Lib.hid hO9
        clear hB10 b9
        go_wp2_with (refine wpList_store_row rfl 67 (.tmp 2) (.tmp 59) rfl (Z + 1) (optV (bt b) env fe ov ms none none o2 n) rfl rfl 67 _ hO9.out (by kernel_rfl) (by kernel_rfl) (by kernel_rfl) ?_; generalize w9.setRow (Z + 1) (optV (bt b) env fe ov ms none none o2 n) = w10 at *)
        refine bodyPost_ret (v := .agg (optV (bt b) env fe ov ms none none o2 n)) (results_cell_row rfl _ _ (Z + 1) 67 (optV (bt b) env fe ov ms none none o2 n) (0, 0) _ (by kernel_rfl) hn3.out (by rw [Try.underlying67]) rfl (by kernel_rfl)) rfl ⟨_, _, _, rfl, ?_⟩
        rw [hZ.out]
        exact hf.out
end Go.Proofs.Ytimmcjjkfhambaa.Cfg
