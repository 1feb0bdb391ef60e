/-
  Options.Equal and zzEq where the flags differ: false. No condition.
-/
import Derived.Test.YtimmcjjkfhambaaCfg5
import Derived.Test.YtimmcjjkfhambaaTake
namespace Go.Proofs.Ytimmcjjkfhambaa.Cfg
open Go.RowKit Go.ChangeShapes Go.WideShapes Go.ChangeAt Go.Proofs.Ytimmcjjkfhambaa.Ints
theorem yload {P : Program} {ops : Array Oper} {S : World → Prop} {op : Oper} {a : Act} (hw : Region.wanted op (yielded ops a.tmps) = true) (ty : TypeId) (x : Operand) (ho : op.op = .load ty x)
    (b o : Nat) (hx : a.eval x = .pointer (some ⟨b, o, none⟩)) (cs : Array Value) (d : TypeDesc) (hS : ∀ w, S w → w.rangeAt b o cs.toList)
    (hu : P.underlying ty = some d) (hd : d.isRow = true) (hi : (P.info? ty).map (·.size) = some cs.size) : YieldsIf P ops S op (.agg cs) a := by
  have := yieldsIf_load_mid (P := P) (S := S) hw ty x ho b o hx cs.toList d hS hu hd (by simpa using hi)
  simpa using this
theorem yneq {P : Program} {ops : Array Oper} {S : World → Prop} {op : Oper} {a : Act} {r : Bool} (hw : Region.wanted op (yielded ops a.tmps) = true) (ty : TypeId) (x y : Operand) (ho : op.op = .binOp .neq ty x y ty) (xs ys : Array Value)
    (hx : a.eval x = .agg xs) (hy : a.eval y = .agg ys) (hm : P.eqGuardType P.depth ty = false) (hr : ∀ w, (binOp .neq ty (.agg xs) (.agg ys)).run P w = .ok (.bool r) w) : YieldsIf P ops S op (.bool r) a := by
  refine .inl ⟨hw, fun w _ => ?_⟩
  unfold execOp
  simp only [ho, hx, hy, Sem.run_bind, run_eqGuard_agg w .neq ty x y xs ys hm, Result.andThen_ok, hr]
  rfl
theorem range_of {w : World} {C off : Nat} {cs ds : Array Value} {t : TypeId} (h : w.heap[C]? = some (.cells cs t (0, 0))) (hd : ∀ j v, ds.toList[j]? = some v → cs[off + j]? = some v) : w.rangeAt C off ds.toList :=
  fun j v hj => cell_at h (hd j v hj)
theorem emb_in (x : Nat → Bool) (env : ByteArray) (fe ov ms : Int) (m r : Option Addr) (o : Option Addr) (n : Nat) : ∀ j v, (embV x env fe ov ms).toList[j]? = some v → (optV x env fe ov ms m r o n)[18 + j]? = some v := by
  intro j v h
  have e : (optV x env fe ov ms m r o n).toList.drop 18 = (embV x env fe ov ms).toList := rfl
  rw [← e, List.getElem?_drop] at h
  simpa using h
def No (w : World) (e : Ending) (w' : World) : Prop := e = .returned (.bool false) ∧ Below w.heap.size w w'
set_option maxRecDepth 100000 in
set_option maxHeartbeats 4000000 in
theorem equalF (x y : Nat → Bool) (env : ByteArray) (fe ov ms : Int) (A B : Nat) (m r m' r' o o' : Option Addr) (n n' : Nat) (w : World) (hA : w.heap[A]? = some (.cells (optV x env fe ov ms m r o n) 67 (0, 0))) (hB : w.heap[B]? = some (.cells (optV y env fe ov ms m' r' o' n') 67 (0, 0)))
    (hf : sameF x y = false) : Calls Try.prog 13 #[.pointer (some ⟨A, 0, none⟩), .pointer (some ⟨B, 0, none⟩)] w (No w) := by
  have r1 : w.drew.rangeAt A 18 (embV x env fe ov ms).toList := range_of (w := w.drew) hA (emb_in x env fe ov ms m r o n)
  have r2 : w.drew.rangeAt B 18 (embV y env fe ov ms).toList := range_of (w := w.drew) hB (emb_in y env fe ov ms m' r' o' n')
  replace hA := Lib.hid hA
  replace hB := Lib.hid hB
  go_enter Try.func13, Try.ntmps13
  go_upto_region 1 with fail
  refine wp_region_held_drew (S := fun w' => w'.rangeAt A 18 (embV x env fe ov ms).toList ∧ w'.rangeAt B 18 (embV y env fe ov ms).toList) (by kernel_rfl) ⟨r1, r2⟩ (fun hS => ?_)
  refine Take.takeD (i := 0) (v := ?_) (some 9) rfl rfl (by kernel_rfl) (by kernel_rfl) (by kernel_rfl) (fun _ _ _ h => h) (Or.inl ⟨by rfl, ?_⟩) hS ?_
  rotate_left 1
  · intro w9 _; go_simp; try with_reducible rfl
  try simp only [Act.put, List.setIfInBounds_toArray, List.set_cons_zero, List.set_cons_succ]
  refine Take.takeD (i := 1) (v := ?_) (some 10) rfl rfl (by kernel_rfl) (by kernel_rfl) (by kernel_rfl) (fun _ _ _ h => h) (Or.inl ⟨by rfl, ?_⟩) hS ?_
  rotate_left 1
  · intro w9 _; go_simp; try with_reducible rfl
  try simp only [Act.put, List.setIfInBounds_toArray, List.set_cons_zero, List.set_cons_succ]
  refine Take.takeD (i := 2) (v := ?_) (some 11) rfl rfl (by kernel_rfl) (by kernel_rfl) (by kernel_rfl) (fun _ _ _ h => h) (Or.inl ⟨by rfl, ?_⟩) hS ?_
  rotate_left 1
  · intro w9 _; go_simp; try with_reducible rfl
  try simp only [Act.put, List.setIfInBounds_toArray, List.set_cons_zero, List.set_cons_succ]
  refine Take.takeD (i := 3) (v := .agg (embV x env fe ov ms)) (some 12) rfl rfl (by kernel_rfl) (by kernel_rfl) (by kernel_rfl) (fun _ _ _ h => h) (yload rfl 65 (.tmp 11) rfl A 18 rfl (embV x env fe ov ms) _ (fun w' h => h.1) Try.underlying65 rfl (by kernel_rfl)) hS ?_
  try simp only [Act.put, List.setIfInBounds_toArray, List.set_cons_zero, List.set_cons_succ]
  refine Take.takeD (i := 4) (v := ?_) (some 13) rfl rfl (by kernel_rfl) (by kernel_rfl) (by kernel_rfl) (fun _ _ _ h => h) (Or.inl ⟨by rfl, ?_⟩) hS ?_
  rotate_left 1
  · intro w9 _; go_simp; try with_reducible rfl
  try simp only [Act.put, List.setIfInBounds_toArray, List.set_cons_zero, List.set_cons_succ]
  refine Take.takeD (i := 5) (v := ?_) (some 14) rfl rfl (by kernel_rfl) (by kernel_rfl) (by kernel_rfl) (fun _ _ _ h => h) (Or.inl ⟨by rfl, ?_⟩) hS ?_
  rotate_left 1
  · intro w9 _; go_simp; try with_reducible rfl
  try simp only [Act.put, List.setIfInBounds_toArray, List.set_cons_zero, List.set_cons_succ]
  refine Take.takeD (i := 6) (v := ?_) (some 15) rfl rfl (by kernel_rfl) (by kernel_rfl) (by kernel_rfl) (fun _ _ _ h => h) (Or.inl ⟨by rfl, ?_⟩) hS ?_
  rotate_left 1
  · intro w9 _; go_simp; try with_reducible rfl
  try simp only [Act.put, List.setIfInBounds_toArray, List.set_cons_zero, List.set_cons_succ]
  refine Take.takeD (i := 7) (v := .agg (embV y env fe ov ms)) (some 16) rfl rfl (by kernel_rfl) (by kernel_rfl) (by kernel_rfl) (fun _ _ _ h => h) (yload rfl 65 (.tmp 15) rfl B 18 rfl (embV y env fe ov ms) _ (fun w' h => h.2) Try.underlying65 rfl (by kernel_rfl)) hS ?_
  try simp only [Act.put, List.setIfInBounds_toArray, List.set_cons_zero, List.set_cons_succ]
  refine Take.takeD (i := 8) (v := .bool (!sameF x y)) (some 17) rfl rfl (by kernel_rfl) (by kernel_rfl) (by kernel_rfl) (fun _ _ _ h => h) (yneq rfl _ (.tmp 12) (.tmp 16) rfl (embV x env fe ov ms) (embV y env fe ov ms) rfl rfl (by kernel_rfl) (fun w' => neqE x y env fe ov ms w')) hS ?_
  try simp only [Act.put, List.setIfInBounds_toArray, List.set_cons_zero, List.set_cons_succ]
  refine wpAnyH_done (by kernel_rfl) ?_ _
  rw [hf]
  clear r1 r2 hS
  go_wp2_with fail
  go_ret
  exact ⟨rfl, (Below.refl _ _).drew⟩
theorem zzEqF (x y : Nat → Bool) (env : ByteArray) (fe ov ms : Int) (m r m' r' o o' : Option Addr) (n n' : Nat) (w : World) (hf : sameF x y = false) :
    Calls Try.prog 8 #[.agg (optV x env fe ov ms m r o n), .agg (optV y env fe ov ms m' r' o' n')] w (No w) := by
  replace hf := Lib.hid hf
  go_enter Try.func8, Try.ntmps8
  go_wp2_with fail
  go_at_call 13
  have hA : ((w.alloc (.cells (optV x env fe ov ms m r o n) 67 (0, 0))).alloc (.cells (optV y env fe ov ms m' r' o' n') 67 (0, 0))).heap[w.heap.size]? = some (.cells (optV x env fe ov ms m r o n) 67 (0, 0)) := (Below.heap_alloc _ _ _ (by simp)).trans (heap_alloc_new _ _)
  have hB : ((w.alloc (.cells (optV x env fe ov ms m r o n) 67 (0, 0))).alloc (.cells (optV y env fe ov ms m' r' o' n') 67 (0, 0))).heap[w.heap.size + 1]? = some (.cells (optV y env fe ov ms m' r' o' n') 67 (0, 0)) := by
    rw [← World.size_alloc (w := w) (o := .cells (optV x env fe ov ms m r o n) 67 (0, 0))]; exact heap_alloc_new _ _
  have hb : Below w.heap.size w ((w.alloc (.cells (optV x env fe ov ms m r o n) 67 (0, 0))).alloc (.cells (optV y env fe ov ms m' r' o' n') 67 (0, 0))) := ((Below.refl _ _).alloc (Nat.le_refl _) _).alloc (by simp) _
  refine (equalF x y env fe ov ms _ _ m r m' r' o o' n n' _ hA hB hf.out).mono ?_
  rintro e w9 ⟨rfl, b9⟩
  have hb9 := hb.trans (b9.mono hb.size)
  replace hb9 := Lib.hid hb9
  clear hA hB hb b9
  go_wp2_with fail
  go_ret
  exact ⟨rfl, hb9.out⟩
end Go.Proofs.Ytimmcjjkfhambaa.Cfg
