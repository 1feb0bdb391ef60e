/-
  Options.Equal and zzEq where all agrees: true. Condition: at most 65536 labels.
-/
import Derived.Test.YtimmcjjkfhambaaCfg7
import Derived.Deep.QuietTactic
import Derived.BigQuiet
import Derived.Deep.RegionHeld3
namespace Go.Proofs.Ytimmcjjkfhambaa.Cfg
open Go.RowKit Go.ChangeShapes Go.WideShapes Go.ChangeAt Go.Proofs.Ytimmcjjkfhambaa.Ints
/-- Two blocks of options that agree. -/
structure Eqs (w W : World) (x : Nat → Bool) (env : ByteArray) (fe ov ms : Int) (A B : Nat) (m r m' r' o o' : Option Addr) (n : Nat) (f : Nat → ByteArray) (mn rn : Bool) : Prop where
  below : Below w.heap.size w W
  a : W.heap[A]? = some (.cells (optV x env fe ov ms m r o n) 67 (0, 0))
  b : W.heap[B]? = some (.cells (optV x env fe ov ms m' r' o' n) 67 (0, 0))
  m1 : Rgx 0 W mn m
  m2 : Rgx 0 W mn m'
  r1 : Rgx 0 W rn r
  r2 : Rgx 0 W rn r'
  l1 : StrsAt W o n f
  l2 : StrsAt W o' n f
section
variable {w W : World} {x : Nat → Bool} {env : ByteArray} {fe ov ms : Int} {A B : Nat} {m r m' r' o o' : Option Addr} {n : Nat} {f : Nat → ByteArray} {mn rn : Bool}
theorem Eqs.next {W' : World} (h : Eqs w W x env fe ov ms A B m r m' r' o o' n f mn rn) (hb : Below W.heap.size W W') : Eqs w W' x env fe ov ms A B m r m' r' o o' n f mn rn :=
  ⟨h.below.trans (hb.mono h.below.size), (hb.block _ (lt_row h.a)).trans h.a, (hb.block _ (lt_row h.b)).trans h.b, h.m1.next hb, h.m2.next hb, h.r1.next hb, h.r2.next hb, h.l1.below hb, h.l2.below hb⟩
theorem belowN (W : World) (k : Nat) : Below W.heap.size W (W.drewN k) := ⟨rfl, rfl, rfl, Nat.le_refl _, fun _ _ => rfl⟩
theorem Eqs.drewN (h : Eqs w W x env fe ov ms A B m r m' r' o o' n f mn rn) (k : Nat) : Eqs w (W.drewN k) x env fe ov ms A B m r m' r' o o' n f mn rn := h.next (belowN W k)
theorem Eqs.ca (h : Eqs w W x env fe ov ms A B m r m' r' o o' n f mn rn) {k : Nat} {v : Value} (hk : (optV x env fe ov ms m r o n)[k]? = some v) : W.cell? ⟨A, k, none⟩ = some v := cell_at h.a hk
theorem Eqs.cb (h : Eqs w W x env fe ov ms A B m r m' r' o o' n f mn rn) {k : Nat} {v : Value} (hk : (optV x env fe ov ms m' r' o' n)[k]? = some v) : W.cell? ⟨B, k, none⟩ = some v := cell_at h.b hk
theorem jS (h : Eqs w W x env fe ov ms A B m r m' r' o o' n f mn rn) : W.cell? ⟨A, 1, none⟩ = some (.nilIface) ∧ W.cell? ⟨A, 2, none⟩ = some (.slice none 0 0) ∧ W.cell? ⟨A, 3, none⟩ = some (.int .u32 0) ∧ W.cell? ⟨A, 4, none⟩ = some (.nilIface) ∧ W.cell? ⟨A, 5, none⟩ = some (.slice none 0 0) ∧ W.cell? ⟨A, 6, none⟩ = some (.int .u32 0) ∧ W.cell? ⟨A, 7, none⟩ = some (.bool false) ∧ W.cell? ⟨B, 1, none⟩ = some (.nilIface) ∧ W.cell? ⟨B, 2, none⟩ = some (.slice none 0 0) ∧ W.cell? ⟨B, 3, none⟩ = some (.int .u32 0) ∧ W.cell? ⟨B, 4, none⟩ = some (.nilIface) ∧ W.cell? ⟨B, 5, none⟩ = some (.slice none 0 0) ∧ W.cell? ⟨B, 6, none⟩ = some (.int .u32 0) ∧ W.cell? ⟨B, 7, none⟩ = some (.bool false) ∧ Eqs w W x env fe ov ms A B m r m' r' o o' n f mn rn :=
  ⟨h.ca rfl, h.ca rfl, h.ca rfl, h.ca rfl, h.ca rfl, h.ca rfl, h.ca rfl, h.cb rfl, h.cb rfl, h.cb rfl, h.cb rfl, h.cb rfl, h.cb rfl, h.cb rfl, h⟩
theorem jK {w1 : World} (h : W.cell? ⟨A, 1, none⟩ = some (.nilIface) ∧ W.cell? ⟨A, 2, none⟩ = some (.slice none 0 0) ∧ W.cell? ⟨A, 3, none⟩ = some (.int .u32 0) ∧ W.cell? ⟨A, 4, none⟩ = some (.nilIface) ∧ W.cell? ⟨A, 5, none⟩ = some (.slice none 0 0) ∧ W.cell? ⟨A, 6, none⟩ = some (.int .u32 0) ∧ W.cell? ⟨A, 7, none⟩ = some (.bool false) ∧ W.cell? ⟨B, 1, none⟩ = some (.nilIface) ∧ W.cell? ⟨B, 2, none⟩ = some (.slice none 0 0) ∧ W.cell? ⟨B, 3, none⟩ = some (.int .u32 0) ∧ W.cell? ⟨B, 4, none⟩ = some (.nilIface) ∧ W.cell? ⟨B, 5, none⟩ = some (.slice none 0 0) ∧ W.cell? ⟨B, 6, none⟩ = some (.int .u32 0) ∧ W.cell? ⟨B, 7, none⟩ = some (.bool false) ∧ Eqs w W x env fe ov ms A B m r m' r' o o' n f mn rn) (hb : Below W.heap.size W w1) : w1.cell? ⟨A, 1, none⟩ = some (.nilIface) ∧ w1.cell? ⟨A, 2, none⟩ = some (.slice none 0 0) ∧ w1.cell? ⟨A, 3, none⟩ = some (.int .u32 0) ∧ w1.cell? ⟨A, 4, none⟩ = some (.nilIface) ∧ w1.cell? ⟨A, 5, none⟩ = some (.slice none 0 0) ∧ w1.cell? ⟨A, 6, none⟩ = some (.int .u32 0) ∧ w1.cell? ⟨A, 7, none⟩ = some (.bool false) ∧ w1.cell? ⟨B, 1, none⟩ = some (.nilIface) ∧ w1.cell? ⟨B, 2, none⟩ = some (.slice none 0 0) ∧ w1.cell? ⟨B, 3, none⟩ = some (.int .u32 0) ∧ w1.cell? ⟨B, 4, none⟩ = some (.nilIface) ∧ w1.cell? ⟨B, 5, none⟩ = some (.slice none 0 0) ∧ w1.cell? ⟨B, 6, none⟩ = some (.int .u32 0) ∧ w1.cell? ⟨B, 7, none⟩ = some (.bool false) ∧ Eqs w w1 x env fe ov ms A B m r m' r' o o' n f mn rn := jS (h.2.2.2.2.2.2.2.2.2.2.2.2.2.2.next hb)
theorem jE (h : W.cell? ⟨A, 1, none⟩ = some (.nilIface) ∧ W.cell? ⟨A, 2, none⟩ = some (.slice none 0 0) ∧ W.cell? ⟨A, 3, none⟩ = some (.int .u32 0) ∧ W.cell? ⟨A, 4, none⟩ = some (.nilIface) ∧ W.cell? ⟨A, 5, none⟩ = some (.slice none 0 0) ∧ W.cell? ⟨A, 6, none⟩ = some (.int .u32 0) ∧ W.cell? ⟨A, 7, none⟩ = some (.bool false) ∧ W.cell? ⟨B, 1, none⟩ = some (.nilIface) ∧ W.cell? ⟨B, 2, none⟩ = some (.slice none 0 0) ∧ W.cell? ⟨B, 3, none⟩ = some (.int .u32 0) ∧ W.cell? ⟨B, 4, none⟩ = some (.nilIface) ∧ W.cell? ⟨B, 5, none⟩ = some (.slice none 0 0) ∧ W.cell? ⟨B, 6, none⟩ = some (.int .u32 0) ∧ W.cell? ⟨B, 7, none⟩ = some (.bool false) ∧ Eqs w W x env fe ov ms A B m r m' r' o o' n f mn rn) : Eqs w W x env fe ov ms A B m r m' r' o o' n f mn rn := h.2.2.2.2.2.2.2.2.2.2.2.2.2.2
end
theorem sameF_refl (x : Nat → Bool) : sameF x x = true := by simp [sameF]
set_option maxRecDepth 100000 in
set_option maxHeartbeats 8000000 in
theorem equalT (x : Nat → Bool) (env : ByteArray) (fe ov ms : Int) (A B : Nat) (m r m' r' o o' : Option Addr) (n : Nat) (f : Nat → ByteArray) (mn rn : Bool) (w : World) (hn : n ≤ 65536) (h : Eqs w w x env fe ov ms A B m r m' r' o o' n f mn rn) :
    Calls Try.prog 13 #[.pointer (some ⟨A, 0, none⟩), .pointer (some ⟨B, 0, none⟩)] w (Yes w) := by
  have r1 : w.drew.rangeAt A 18 (embV x env fe ov ms).toList := range_of (w := w.drew) h.a (emb_in x env fe ov ms m r o n)
  have r2 : w.drew.rangeAt B 18 (embV x env fe ov ms).toList := range_of (w := w.drew) h.b (emb_in x env fe ov ms m' r' o' n)
  go_enter Try.func13, Try.ntmps13
  go_upto_region 1 with fail
  refine wp_region_held_drew (S := fun w' => w'.rangeAt A 18 (embV x env fe ov ms).toList ∧ w'.rangeAt B 18 (embV x env fe ov ms).toList) (by kernel_rfl) ⟨r1, r2⟩ (fun hS => ?_)
  refine Take.takeD (i := 0) (v := ?_) (some 9) rfl rfl (by kernel_rfl) (by kernel_rfl) (by kernel_rfl) (fun _ _ _ h => h) (Or.inl ⟨by rfl, ?_⟩) hS ?_
  rotate_left 1
  · intro w9 _; go_simp; try with_reducible rfl
  try simp only [Act.put, List.setIfInBounds_toArray, List.set_cons_zero, List.set_cons_succ]
  refine Take.takeD (i := 1) (v := ?_) (some 10) rfl rfl (by kernel_rfl) (by kernel_rfl) (by kernel_rfl) (fun _ _ _ h => h) (Or.inl ⟨by rfl, ?_⟩) hS ?_
  rotate_left 1
  · intro w9 _; go_simp; try with_reducible rfl
  try simp only [Act.put, List.setIfInBounds_toArray, List.set_cons_zero, List.set_cons_succ]
  refine Take.takeD (i := 2) (v := ?_) (some 11) rfl rfl (by kernel_rfl) (by kernel_rfl) (by kernel_rfl) (fun _ _ _ h => h) (Or.inl ⟨by rfl, ?_⟩) hS ?_
  rotate_left 1
  · intro w9 _; go_simp; try with_reducible rfl
  try simp only [Act.put, List.setIfInBounds_toArray, List.set_cons_zero, List.set_cons_succ]
  refine Take.takeD (i := 3) (v := .agg (embV x env fe ov ms)) (some 12) rfl rfl (by kernel_rfl) (by kernel_rfl) (by kernel_rfl) (fun _ _ _ h => h) (yload rfl 65 (.tmp 11) rfl A 18 rfl (embV x env fe ov ms) _ (fun w' h => h.1) Try.underlying65 rfl (by kernel_rfl)) hS ?_
  try simp only [Act.put, List.setIfInBounds_toArray, List.set_cons_zero, List.set_cons_succ]
  refine Take.takeD (i := 4) (v := ?_) (some 13) rfl rfl (by kernel_rfl) (by kernel_rfl) (by kernel_rfl) (fun _ _ _ h => h) (Or.inl ⟨by rfl, ?_⟩) hS ?_
  rotate_left 1
  · intro w9 _; go_simp; try with_reducible rfl
  try simp only [Act.put, List.setIfInBounds_toArray, List.set_cons_zero, List.set_cons_succ]
  refine Take.takeD (i := 5) (v := ?_) (some 14) rfl rfl (by kernel_rfl) (by kernel_rfl) (by kernel_rfl) (fun _ _ _ h => h) (Or.inl ⟨by rfl, ?_⟩) hS ?_
  rotate_left 1
  · intro w9 _; go_simp; try with_reducible rfl
  try simp only [Act.put, List.setIfInBounds_toArray, List.set_cons_zero, List.set_cons_succ]
  refine Take.takeD (i := 6) (v := ?_) (some 15) rfl rfl (by kernel_rfl) (by kernel_rfl) (by kernel_rfl) (fun _ _ _ h => h) (Or.inl ⟨by rfl, ?_⟩) hS ?_
  rotate_left 1
  · intro w9 _; go_simp; try with_reducible rfl
  try simp only [Act.put, List.setIfInBounds_toArray, List.set_cons_zero, List.set_cons_succ]
  refine Take.takeD (i := 7) (v := .agg (embV x env fe ov ms)) (some 16) rfl rfl (by kernel_rfl) (by kernel_rfl) (by kernel_rfl) (fun _ _ _ h => h) (yload rfl 65 (.tmp 15) rfl B 18 rfl (embV x env fe ov ms) _ (fun w' h => h.2) Try.underlying65 rfl (by kernel_rfl)) hS ?_
  try simp only [Act.put, List.setIfInBounds_toArray, List.set_cons_zero, List.set_cons_succ]
  refine Take.takeD (i := 8) (v := .bool (!sameF x x)) (some 17) rfl rfl (by kernel_rfl) (by kernel_rfl) (by kernel_rfl) (fun _ _ _ h => h) (yneq rfl _ (.tmp 12) (.tmp 16) rfl (embV x env fe ov ms) (embV x env fe ov ms) rfl rfl (by kernel_rfl) (fun w' => neqE x x env fe ov ms w')) hS ?_
  try simp only [Act.put, List.setIfInBounds_toArray, List.set_cons_zero, List.set_cons_succ]
  refine wpAnyH_done (by kernel_rfl) ?_ _
  rw [sameF_refl]
  clear r1 r2 hS
  have E := h.next (Below.refl _ _).drew
  clear h
  generalize w.drew = w1 at *
  have a13 : w1.cell? ⟨A, 13, none⟩ = some (.pointer none) := E.ca rfl
  have b13 : w1.cell? ⟨B, 13, none⟩ = some (.pointer none) := E.cb rfl
  replace E := Lib.hid E
  go_wp2_with fail
  go_quiet (fail)
  replace E := E.out.drewN nq
  clear a13 b13
  generalize w1.drewN nq = w2 at *
  have qm : ∀ k p q, (p = m ∧ q = m') ∨ (p = r ∧ q = r') → Calls Try.prog 14 #[.pointer p, .pointer q] (w2.drewN k) fun e w'' => e = .returned (.bool true) ∧ ∃ y, w'' = w2.drewN y := fun k p q hpq => by
    rcases hpq with ⟨rfl, rfl⟩ | ⟨rfl, rfl⟩
    · exact Calls.quiet_of_same (same 0 0 mn _ _ _ (E.drewN k).m1 (E.drewN k).m2)
    · exact Calls.quiet_of_same (same 0 0 rn _ _ _ (E.drewN k).r1 (E.drewN k).r2)
  replace qm := Lib.hid qm
  have a14 : w2.cell? ⟨A, 14, none⟩ = some (.pointer m) := E.ca rfl
  have b14 : w2.cell? ⟨B, 14, none⟩ = some (.pointer m') := E.cb rfl
  have a15 : w2.cell? ⟨A, 15, none⟩ = some (.pointer r) := E.ca rfl
  have b15 : w2.cell? ⟨B, 15, none⟩ = some (.pointer r') := E.cb rfl
  replace E := Lib.hid E
  go_wp2_with fail
  go_quiet ((go_at_call 14; exact qm.out _ _ _ (by first | exact .inl ⟨rfl, rfl⟩ | exact .inr ⟨rfl, rfl⟩)))
  replace E := E.out.drewN nq
  clear a14 b14
  clear a15 b15
  generalize w2.drewN nq = w3 at *
  clear qm
  have ql : ∀ k, Calls Try.prog 15 #[.slice o n n, .slice o' n n] (w3.drewN k) fun e w'' => e = .returned (.bool true) ∧ ∃ y, w'' = w3.drewN y := fun k => Calls.quiet_of_same (strs o o' n n n f _ hn (E.drewN k).l1 (E.drewN k).l2)
  replace ql := Lib.hid ql
  have a16 : w3.cell? ⟨A, 16, none⟩ = some (.slice o n n) := E.ca rfl
  have b16 : w3.cell? ⟨B, 16, none⟩ = some (.slice o' n n) := E.cb rfl
  replace E := Lib.hid E
  go_wp2_with fail
  go_quiet ((go_at_call 15; exact ql.out _))
  replace E := E.out.drewN nq
  clear a16 b16
  generalize w3.drewN nq = w4 at *
  clear ql
  have a0 : w4.cell? ⟨A, 0, none⟩ = some (.slice none 0 0) := E.ca rfl
  have b0 : w4.cell? ⟨B, 0, none⟩ = some (.slice none 0 0) := E.cb rfl
  replace E := Lib.hid E
  go_wp2_with fail
  go_quiet (fail)
  replace E := E.out.drewN nq
  clear a0 b0
  generalize w4.drewN nq = w5 at *
  have a0 : w5.cell? ⟨A, 0, none⟩ = some (.slice none 0 0) := E.ca rfl
  replace E := Lib.hid E
  go_wp2_with fail
  go_loopg [121] 0 (fun g iv wr => iv = .int .i64 0 ∧ w5 = wr)
  case atStart => exact ⟨rfl, rfl⟩
  case round =>
    obtain ⟨rfl, rfl⟩ := hrel
    clear a0
    go_wp2_with fail
    have hS := jS (E.out.next (Below.refl _ _).drew)
    go_region_held3 (fun w' => w'.cell? ⟨A, 1, none⟩ = some (.nilIface) ∧ w'.cell? ⟨A, 2, none⟩ = some (.slice none 0 0) ∧ w'.cell? ⟨A, 3, none⟩ = some (.int .u32 0) ∧ w'.cell? ⟨A, 4, none⟩ = some (.nilIface) ∧ w'.cell? ⟨A, 5, none⟩ = some (.slice none 0 0) ∧ w'.cell? ⟨A, 6, none⟩ = some (.int .u32 0) ∧ w'.cell? ⟨A, 7, none⟩ = some (.bool false) ∧ w'.cell? ⟨B, 1, none⟩ = some (.nilIface) ∧ w'.cell? ⟨B, 2, none⟩ = some (.slice none 0 0) ∧ w'.cell? ⟨B, 3, none⟩ = some (.int .u32 0) ∧ w'.cell? ⟨B, 4, none⟩ = some (.nilIface) ∧ w'.cell? ⟨B, 5, none⟩ = some (.slice none 0 0) ∧ w'.cell? ⟨B, 6, none⟩ = some (.int .u32 0) ∧ w'.cell? ⟨B, 7, none⟩ = some (.bool false) ∧ Eqs w w' x env fe ov ms A B m r m' r' o o' n f mn rn) (first | with_reducible exact hS | with_reducible exact jK (by assumption) (by assumption))
      (first | (go_at_call 16; refine (jsxEq _).mono ?_; rintro e w4 ⟨rfl, hb4⟩))
    have E6 := jE (by assumption : w4.cell? ⟨A, 1, none⟩ = some (.nilIface) ∧ w4.cell? ⟨A, 2, none⟩ = some (.slice none 0 0) ∧ w4.cell? ⟨A, 3, none⟩ = some (.int .u32 0) ∧ w4.cell? ⟨A, 4, none⟩ = some (.nilIface) ∧ w4.cell? ⟨A, 5, none⟩ = some (.slice none 0 0) ∧ w4.cell? ⟨A, 6, none⟩ = some (.int .u32 0) ∧ w4.cell? ⟨A, 7, none⟩ = some (.bool false) ∧ w4.cell? ⟨B, 1, none⟩ = some (.nilIface) ∧ w4.cell? ⟨B, 2, none⟩ = some (.slice none 0 0) ∧ w4.cell? ⟨B, 3, none⟩ = some (.int .u32 0) ∧ w4.cell? ⟨B, 4, none⟩ = some (.nilIface) ∧ w4.cell? ⟨B, 5, none⟩ = some (.slice none 0 0) ∧ w4.cell? ⟨B, 6, none⟩ = some (.int .u32 0) ∧ w4.cell? ⟨B, 7, none⟩ = some (.bool false) ∧ Eqs w w4 x env fe ov ms A B m r m' r' o o' n f mn rn)
    clear hS
    have E := Lib.hid E6
    clear E6
    rename_i hb4x hH
    clear hH
    have a17 : w4.cell? ⟨A, 17, none⟩ = some (.pointer none) := E.out.ca rfl
    have b17 : w4.cell? ⟨B, 17, none⟩ = some (.pointer none) := E.out.cb rfl
    go_wp2_with fail
    go_quiet (fail)
    have hfin := Lib.hid (E.out.drewN nq).below
    clear a17 b17
    generalize w4.drewN nq = w9 at *
    go_wp2_with fail
    go_ret
    exact ⟨rfl, hfin.out⟩
theorem zzEqT (x : Nat → Bool) (env : ByteArray) (fe ov ms : Int) (m r m' r' o o' : Option Addr) (n : Nat) (f : Nat → ByteArray) (mn rn : Bool) (w : World) (hn : n ≤ 65536) (h1 : Rgx 0 w mn m) (h2 : Rgx 0 w mn m') (h3 : Rgx 0 w rn r) (h4 : Rgx 0 w rn r') (h5 : StrsAt w o n f) (h6 : StrsAt w o' n f) :
    Calls Try.prog 8 #[.agg (optV x env fe ov ms m r o n), .agg (optV x env fe ov ms m' r' o' n)] w (Yes w) := by
  have hA : ((w.alloc (.cells (optV x env fe ov ms m r o n) 67 (0, 0))).alloc (.cells (optV x env fe ov ms m' r' o' n) 67 (0, 0))).heap[w.heap.size]? = some (.cells (optV x env fe ov ms m r o n) 67 (0, 0)) := (Below.heap_alloc _ _ _ (by simp)).trans (heap_alloc_new _ _)
  have hB : ((w.alloc (.cells (optV x env fe ov ms m r o n) 67 (0, 0))).alloc (.cells (optV x env fe ov ms m' r' o' n) 67 (0, 0))).heap[w.heap.size + 1]? = some (.cells (optV x env fe ov ms m' r' o' n) 67 (0, 0)) := by
    rw [← World.size_alloc (w := w) (o := .cells (optV x env fe ov ms m r o n) 67 (0, 0))]; exact heap_alloc_new _ _
  have hb : Below w.heap.size w ((w.alloc (.cells (optV x env fe ov ms m r o n) 67 (0, 0))).alloc (.cells (optV x env fe ov ms m' r' o' n) 67 (0, 0))) := ((Below.refl _ _).alloc (Nat.le_refl _) _).alloc (by simp) _
  have hE : Eqs ((w.alloc (.cells (optV x env fe ov ms m r o n) 67 (0, 0))).alloc (.cells (optV x env fe ov ms m' r' o' n) 67 (0, 0))) ((w.alloc (.cells (optV x env fe ov ms m r o n) 67 (0, 0))).alloc (.cells (optV x env fe ov ms m' r' o' n) 67 (0, 0))) x env fe ov ms w.heap.size (w.heap.size + 1) m r m' r' o o' n f mn rn :=
    ⟨Below.refl _ _, hA, hB, h1.next hb, h2.next hb, h3.next hb, h4.next hb, h5.below hb, h6.below hb⟩
  replace hE := Lib.hid hE
  replace hb := Lib.hid hb
  clear hA hB h1 h2 h3 h4 h5 h6
  go_enter Try.func8, Try.ntmps8
  go_wp2_with fail
  go_at_call 13
  refine (equalT x env fe ov ms _ _ m r m' r' o o' n f mn rn _ hn hE.out).mono ?_
  rintro e w9 ⟨rfl, b9⟩
  have hb9 := hb.out.trans (b9.mono hb.out.size)
  replace hb9 := Lib.hid hb9
  clear b9
  go_wp2_with fail
  go_ret
  exact ⟨rfl, hb9.out⟩
end Go.Proofs.Ytimmcjjkfhambaa.Cfg
