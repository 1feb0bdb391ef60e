/-
  The comparison of the 33 cells: equal exactly where the eleven flags agree. No condition.
-/
import Derived.Test.YtimmcjjkfhambaaCfg0
import Derived.Laws.StructEq
namespace Go.Proofs.Ytimmcjjkfhambaa.Cfg
open Go.RowKit Go.ChangeShapes Go.WideShapes Go.ChangeAt Go.Proofs.Ytimmcjjkfhambaa.Ints
abbrev tyo (f : Field) : TypeId × Nat := (f.type, f.offset)
theorem ef_all {P : Program} {w : World} {d : Nat} {xs ys : Array Value} (R : TypeId × Nat → Bool) : ∀ (L : List Field), L.all (fun f => decide (f.name ≠ "_")) = true →
    (∀ p ∈ L.map tyo, ∃ a b, (part p.1 xs p.2).run P w = .ok a w ∧ (part p.1 ys p.2).run P w = .ok b w ∧ (Op.equalIn d p.1 a b).run P w = .ok (R p) w) → (Op.eqFields d xs ys L).run P w = .ok ((L.map tyo).all R) w
  | [], _, _ => rfl
  | f :: L, hn, h => by
    simp only [List.all_cons, Bool.and_eq_true, decide_eq_true_eq] at hn
    obtain ⟨a, b, ha, hb, hr⟩ := h (tyo f) (by simp)
    have ih := ef_all R L hn.2 (fun p hp => h p (List.mem_cons_of_mem _ hp))
    simp only [tyo] at ha hb hr
    simp only [Op.eqFields, if_pos hn.1, Sem.run_bind, ha, hb, hr, Result.andThen_ok, List.map_cons, List.all_cons]
    cases hR : R (f.type, f.offset)
    · rfl
    · simp only [Bool.not_true, Bool.false_eq_true, if_false, ih, Bool.true_and]
def flags (x y : Nat → Bool) (p : TypeId × Nat) : Bool := if 21 ≤ p.2 ∧ p.2 < 32 then x (p.2 - 21) == y (p.2 - 21) else true
theorem tys : (Try.prog.fieldsOf 65).toList.map tyo = [(9, 0), (51, 1), (52, 5), (52, 6), (52, 7), (59, 8), (60, 16), (61, 17), (62, 18), (63, 19), (63, 20), (4, 21), (4, 22), (4, 23), (4, 24), (4, 25), (4, 26), (4, 27), (4, 28), (4, 29), (4, 30), (4, 31), (4, 32)] := by kernel_rfl
theorem f0 (x y : Nat → Bool) (env : ByteArray) (fe ov ms : Int) (w : World) : ∃ a b, (part 9 (embV x env fe ov ms) 0).run Try.prog w = .ok a w ∧ (part 9 (embV y env fe ov ms) 0).run Try.prog w = .ok b w ∧ (Op.equalIn 9999 9 a b).run Try.prog w = .ok (flags x y (9, 0)) w := by
  refine ⟨.string env, .string env, by kernel_rfl, by kernel_rfl, ?_⟩
  rw [run_equalIn_string w 9998 9 env env (by kernel_rfl)]
  simp [flags]
theorem f1 (x y : Nat → Bool) (env : ByteArray) (fe ov ms : Int) (w : World) : ∃ a b, (part 51 (embV x env fe ov ms) 1).run Try.prog w = .ok a w ∧ (part 51 (embV y env fe ov ms) 1).run Try.prog w = .ok b w ∧ (Op.equalIn 9999 51 a b).run Try.prog w = .ok (flags x y (51, 1)) w := by
  exact ⟨.agg #[.pointer none, .int .i32 0, .int .i32 0, .int .u8 0], .agg #[.pointer none, .int .i32 0, .int .i32 0, .int .u8 0], by kernel_rfl, by kernel_rfl, by kernel_rfl⟩
theorem f2 (x y : Nat → Bool) (env : ByteArray) (fe ov ms : Int) (w : World) : ∃ a b, (part 52 (embV x env fe ov ms) 5).run Try.prog w = .ok a w ∧ (part 52 (embV y env fe ov ms) 5).run Try.prog w = .ok b w ∧ (Op.equalIn 9999 52 a b).run Try.prog w = .ok (flags x y (52, 5)) w := by
  refine ⟨.int .u64 fe, .int .u64 fe, by kernel_rfl, by kernel_rfl, ?_⟩
  rw [run_equalIn_int w 9998 52 .u64 .u64 fe fe (by kernel_rfl)]
  simp [flags]
theorem f3 (x y : Nat → Bool) (env : ByteArray) (fe ov ms : Int) (w : World) : ∃ a b, (part 52 (embV x env fe ov ms) 6).run Try.prog w = .ok a w ∧ (part 52 (embV y env fe ov ms) 6).run Try.prog w = .ok b w ∧ (Op.equalIn 9999 52 a b).run Try.prog w = .ok (flags x y (52, 6)) w := by
  refine ⟨.int .u64 ov, .int .u64 ov, by kernel_rfl, by kernel_rfl, ?_⟩
  rw [run_equalIn_int w 9998 52 .u64 .u64 ov ov (by kernel_rfl)]
  simp [flags]
theorem f4 (x y : Nat → Bool) (env : ByteArray) (fe ov ms : Int) (w : World) : ∃ a b, (part 52 (embV x env fe ov ms) 7).run Try.prog w = .ok a w ∧ (part 52 (embV y env fe ov ms) 7).run Try.prog w = .ok b w ∧ (Op.equalIn 9999 52 a b).run Try.prog w = .ok (flags x y (52, 7)) w := by
  refine ⟨.int .u64 ms, .int .u64 ms, by kernel_rfl, by kernel_rfl, ?_⟩
  rw [run_equalIn_int w 9998 52 .u64 .u64 ms ms (by kernel_rfl)]
  simp [flags]
theorem f5 (x y : Nat → Bool) (env : ByteArray) (fe ov ms : Int) (w : World) : ∃ a b, (part 59 (embV x env fe ov ms) 8).run Try.prog w = .ok a w ∧ (part 59 (embV y env fe ov ms) 8).run Try.prog w = .ok b w ∧ (Op.equalIn 9999 59 a b).run Try.prog w = .ok (flags x y (59, 8)) w := by
  exact ⟨.agg #[.int .u8 0, .int .u8 0, .int .u8 0, .int .u8 0, .int .u8 0, .int .u8 0, .bool false, .bool false], .agg #[.int .u8 0, .int .u8 0, .int .u8 0, .int .u8 0, .int .u8 0, .int .u8 0, .bool false, .bool false], by kernel_rfl, by kernel_rfl, by kernel_rfl⟩
theorem f6 (x y : Nat → Bool) (env : ByteArray) (fe ov ms : Int) (w : World) : ∃ a b, (part 60 (embV x env fe ov ms) 16).run Try.prog w = .ok a w ∧ (part 60 (embV y env fe ov ms) 16).run Try.prog w = .ok b w ∧ (Op.equalIn 9999 60 a b).run Try.prog w = .ok (flags x y (60, 16)) w := by
  exact ⟨.int .u8 0, .int .u8 0, by kernel_rfl, by kernel_rfl, by kernel_rfl⟩
theorem f7 (x y : Nat → Bool) (env : ByteArray) (fe ov ms : Int) (w : World) : ∃ a b, (part 61 (embV x env fe ov ms) 17).run Try.prog w = .ok a w ∧ (part 61 (embV y env fe ov ms) 17).run Try.prog w = .ok b w ∧ (Op.equalIn 9999 61 a b).run Try.prog w = .ok (flags x y (61, 17)) w := by
  exact ⟨.int .u8 0, .int .u8 0, by kernel_rfl, by kernel_rfl, by kernel_rfl⟩
theorem f8 (x y : Nat → Bool) (env : ByteArray) (fe ov ms : Int) (w : World) : ∃ a b, (part 62 (embV x env fe ov ms) 18).run Try.prog w = .ok a w ∧ (part 62 (embV y env fe ov ms) 18).run Try.prog w = .ok b w ∧ (Op.equalIn 9999 62 a b).run Try.prog w = .ok (flags x y (62, 18)) w := by
  exact ⟨.int .u8 0, .int .u8 0, by kernel_rfl, by kernel_rfl, by kernel_rfl⟩
theorem f9 (x y : Nat → Bool) (env : ByteArray) (fe ov ms : Int) (w : World) : ∃ a b, (part 63 (embV x env fe ov ms) 19).run Try.prog w = .ok a w ∧ (part 63 (embV y env fe ov ms) 19).run Try.prog w = .ok b w ∧ (Op.equalIn 9999 63 a b).run Try.prog w = .ok (flags x y (63, 19)) w := by
  exact ⟨.int .u8 0, .int .u8 0, by kernel_rfl, by kernel_rfl, by kernel_rfl⟩
theorem f10 (x y : Nat → Bool) (env : ByteArray) (fe ov ms : Int) (w : World) : ∃ a b, (part 63 (embV x env fe ov ms) 20).run Try.prog w = .ok a w ∧ (part 63 (embV y env fe ov ms) 20).run Try.prog w = .ok b w ∧ (Op.equalIn 9999 63 a b).run Try.prog w = .ok (flags x y (63, 20)) w := by
  exact ⟨.int .u8 0, .int .u8 0, by kernel_rfl, by kernel_rfl, by kernel_rfl⟩
theorem f11 (x y : Nat → Bool) (env : ByteArray) (fe ov ms : Int) (w : World) : ∃ a b, (part 4 (embV x env fe ov ms) 21).run Try.prog w = .ok a w ∧ (part 4 (embV y env fe ov ms) 21).run Try.prog w = .ok b w ∧ (Op.equalIn 9999 4 a b).run Try.prog w = .ok (flags x y (4, 21)) w := by
  refine ⟨.bool (x 0), .bool (y 0), by kernel_rfl, by kernel_rfl, ?_⟩
  rw [run_equalIn_bool' w 9998 4 (x 0) (y 0) (by kernel_rfl)]
  rfl
theorem f12 (x y : Nat → Bool) (env : ByteArray) (fe ov ms : Int) (w : World) : ∃ a b, (part 4 (embV x env fe ov ms) 22).run Try.prog w = .ok a w ∧ (part 4 (embV y env fe ov ms) 22).run Try.prog w = .ok b w ∧ (Op.equalIn 9999 4 a b).run Try.prog w = .ok (flags x y (4, 22)) w := by
  refine ⟨.bool (x 1), .bool (y 1), by kernel_rfl, by kernel_rfl, ?_⟩
  rw [run_equalIn_bool' w 9998 4 (x 1) (y 1) (by kernel_rfl)]
  rfl
theorem f13 (x y : Nat → Bool) (env : ByteArray) (fe ov ms : Int) (w : World) : ∃ a b, (part 4 (embV x env fe ov ms) 23).run Try.prog w = .ok a w ∧ (part 4 (embV y env fe ov ms) 23).run Try.prog w = .ok b w ∧ (Op.equalIn 9999 4 a b).run Try.prog w = .ok (flags x y (4, 23)) w := by
  refine ⟨.bool (x 2), .bool (y 2), by kernel_rfl, by kernel_rfl, ?_⟩
  rw [run_equalIn_bool' w 9998 4 (x 2) (y 2) (by kernel_rfl)]
  rfl
theorem f14 (x y : Nat → Bool) (env : ByteArray) (fe ov ms : Int) (w : World) : ∃ a b, (part 4 (embV x env fe ov ms) 24).run Try.prog w = .ok a w ∧ (part 4 (embV y env fe ov ms) 24).run Try.prog w = .ok b w ∧ (Op.equalIn 9999 4 a b).run Try.prog w = .ok (flags x y (4, 24)) w := by
  refine ⟨.bool (x 3), .bool (y 3), by kernel_rfl, by kernel_rfl, ?_⟩
  rw [run_equalIn_bool' w 9998 4 (x 3) (y 3) (by kernel_rfl)]
  rfl
theorem f15 (x y : Nat → Bool) (env : ByteArray) (fe ov ms : Int) (w : World) : ∃ a b, (part 4 (embV x env fe ov ms) 25).run Try.prog w = .ok a w ∧ (part 4 (embV y env fe ov ms) 25).run Try.prog w = .ok b w ∧ (Op.equalIn 9999 4 a b).run Try.prog w = .ok (flags x y (4, 25)) w := by
  refine ⟨.bool (x 4), .bool (y 4), by kernel_rfl, by kernel_rfl, ?_⟩
  rw [run_equalIn_bool' w 9998 4 (x 4) (y 4) (by kernel_rfl)]
  rfl
theorem f16 (x y : Nat → Bool) (env : ByteArray) (fe ov ms : Int) (w : World) : ∃ a b, (part 4 (embV x env fe ov ms) 26).run Try.prog w = .ok a w ∧ (part 4 (embV y env fe ov ms) 26).run Try.prog w = .ok b w ∧ (Op.equalIn 9999 4 a b).run Try.prog w = .ok (flags x y (4, 26)) w := by
  refine ⟨.bool (x 5), .bool (y 5), by kernel_rfl, by kernel_rfl, ?_⟩
  rw [run_equalIn_bool' w 9998 4 (x 5) (y 5) (by kernel_rfl)]
  rfl
theorem f17 (x y : Nat → Bool) (env : ByteArray) (fe ov ms : Int) (w : World) : ∃ a b, (part 4 (embV x env fe ov ms) 27).run Try.prog w = .ok a w ∧ (part 4 (embV y env fe ov ms) 27).run Try.prog w = .ok b w ∧ (Op.equalIn 9999 4 a b).run Try.prog w = .ok (flags x y (4, 27)) w := by
  refine ⟨.bool (x 6), .bool (y 6), by kernel_rfl, by kernel_rfl, ?_⟩
  rw [run_equalIn_bool' w 9998 4 (x 6) (y 6) (by kernel_rfl)]
  rfl
theorem f18 (x y : Nat → Bool) (env : ByteArray) (fe ov ms : Int) (w : World) : ∃ a b, (part 4 (embV x env fe ov ms) 28).run Try.prog w = .ok a w ∧ (part 4 (embV y env fe ov ms) 28).run Try.prog w = .ok b w ∧ (Op.equalIn 9999 4 a b).run Try.prog w = .ok (flags x y (4, 28)) w := by
  refine ⟨.bool (x 7), .bool (y 7), by kernel_rfl, by kernel_rfl, ?_⟩
  rw [run_equalIn_bool' w 9998 4 (x 7) (y 7) (by kernel_rfl)]
  rfl
theorem f19 (x y : Nat → Bool) (env : ByteArray) (fe ov ms : Int) (w : World) : ∃ a b, (part 4 (embV x env fe ov ms) 29).run Try.prog w = .ok a w ∧ (part 4 (embV y env fe ov ms) 29).run Try.prog w = .ok b w ∧ (Op.equalIn 9999 4 a b).run Try.prog w = .ok (flags x y (4, 29)) w := by
  refine ⟨.bool (x 8), .bool (y 8), by kernel_rfl, by kernel_rfl, ?_⟩
  rw [run_equalIn_bool' w 9998 4 (x 8) (y 8) (by kernel_rfl)]
  rfl
theorem f20 (x y : Nat → Bool) (env : ByteArray) (fe ov ms : Int) (w : World) : ∃ a b, (part 4 (embV x env fe ov ms) 30).run Try.prog w = .ok a w ∧ (part 4 (embV y env fe ov ms) 30).run Try.prog w = .ok b w ∧ (Op.equalIn 9999 4 a b).run Try.prog w = .ok (flags x y (4, 30)) w := by
  refine ⟨.bool (x 9), .bool (y 9), by kernel_rfl, by kernel_rfl, ?_⟩
  rw [run_equalIn_bool' w 9998 4 (x 9) (y 9) (by kernel_rfl)]
  rfl
theorem f21 (x y : Nat → Bool) (env : ByteArray) (fe ov ms : Int) (w : World) : ∃ a b, (part 4 (embV x env fe ov ms) 31).run Try.prog w = .ok a w ∧ (part 4 (embV y env fe ov ms) 31).run Try.prog w = .ok b w ∧ (Op.equalIn 9999 4 a b).run Try.prog w = .ok (flags x y (4, 31)) w := by
  refine ⟨.bool (x 10), .bool (y 10), by kernel_rfl, by kernel_rfl, ?_⟩
  rw [run_equalIn_bool' w 9998 4 (x 10) (y 10) (by kernel_rfl)]
  rfl
theorem f22 (x y : Nat → Bool) (env : ByteArray) (fe ov ms : Int) (w : World) : ∃ a b, (part 4 (embV x env fe ov ms) 32).run Try.prog w = .ok a w ∧ (part 4 (embV y env fe ov ms) 32).run Try.prog w = .ok b w ∧ (Op.equalIn 9999 4 a b).run Try.prog w = .ok (flags x y (4, 32)) w := by
  exact ⟨.bool false, .bool false, by kernel_rfl, by kernel_rfl, by kernel_rfl⟩
def sameF (x y : Nat → Bool) : Bool := (List.range 11).all fun i => x i == y i
set_option maxRecDepth 20000 in
theorem neqE (x y : Nat → Bool) (env : ByteArray) (fe ov ms : Int) (w : World) : (binOp .neq 65 (.agg (embV x env fe ov ms)) (.agg (embV y env fe ov ms))).run Try.prog w = .ok (.bool (!sameF x y)) w := by
  have hL := ef_all (P := Try.prog) (w := w) (d := 9999) (xs := embV x env fe ov ms) (ys := embV y env fe ov ms) (flags x y) (Try.prog.fieldsOf 65).toList (by kernel_rfl) (by
    rw [tys]
    intro p hp
    simp only [List.mem_cons, List.not_mem_nil, or_false] at hp
    rcases hp with rfl | rfl | rfl | rfl | rfl | rfl | rfl | rfl | rfl | rfl | rfl | rfl | rfl | rfl | rfl | rfl | rfl | rfl | rfl | rfl | rfl | rfl | rfl
    · exact f0 x y env fe ov ms w
    · exact f1 x y env fe ov ms w
    · exact f2 x y env fe ov ms w
    · exact f3 x y env fe ov ms w
    · exact f4 x y env fe ov ms w
    · exact f5 x y env fe ov ms w
    · exact f6 x y env fe ov ms w
    · exact f7 x y env fe ov ms w
    · exact f8 x y env fe ov ms w
    · exact f9 x y env fe ov ms w
    · exact f10 x y env fe ov ms w
    · exact f11 x y env fe ov ms w
    · exact f12 x y env fe ov ms w
    · exact f13 x y env fe ov ms w
    · exact f14 x y env fe ov ms w
    · exact f15 x y env fe ov ms w
    · exact f16 x y env fe ov ms w
    · exact f17 x y env fe ov ms w
    · exact f18 x y env fe ov ms w
    · exact f19 x y env fe ov ms w
    · exact f20 x y env fe ov ms w
    · exact f21 x y env fe ov ms w
    · exact f22 x y env fe ov ms w)
  rw [run_neq_struct, run_equalIn_agg w 9999 _ _ _ (by kernel_rfl) (by kernel_rfl), hL, tys]
  have hs : ([(9, 0), (51, 1), (52, 5), (52, 6), (52, 7), (59, 8), (60, 16), (61, 17), (62, 18), (63, 19), (63, 20), (4, 21), (4, 22), (4, 23), (4, 24), (4, 25), (4, 26), (4, 27), (4, 28), (4, 29), (4, 30), (4, 31), (4, 32)] : List (TypeId × Nat)).all (flags x y) = sameF x y := by
    rw [Bool.eq_iff_iff]
    constructor
    · intro h
      rw [sameF, List.all_eq_true]
      intro i hi
      have hi := List.mem_range.1 hi
      have h2 := List.all_eq_true.1 h (4, 21 + i) (by
        rcases (show i = 0 ∨ i = 1 ∨ i = 2 ∨ i = 3 ∨ i = 4 ∨ i = 5 ∨ i = 6 ∨ i = 7 ∨ i = 8 ∨ i = 9 ∨ i = 10 by omega) with rfl | rfl | rfl | rfl | rfl | rfl | rfl | rfl | rfl | rfl | rfl <;> simp)
      simp only [flags] at h2
      rw [if_pos (by omega), show 21 + i - 21 = i from by omega] at h2
      exact h2
    · intro h
      rw [sameF, List.all_eq_true] at h
      rw [List.all_eq_true]
      intro p _
      unfold flags
      split
      · exact h (p.2 - 21) (List.mem_range.2 (by omega))
      · rfl
  rw [hs]
  rfl
end Go.Proofs.Ytimmcjjkfhambaa.Cfg
