/-
  The walk of FnPrivateLoweringDistributesOverUnsupportedUnion: it returns true for every kind, flag word and two sets. No condition.
-/
import Derived.Test.YtkpdjdfebaaahaaPrivLow
namespace Go.Proofs.Ytkpdjdfebaaahaa.fnPrivateLoweringDistributesOverUnsupportedUnion
open Go.RowKit

theorem wpList_buildTo2 {P : Program} {ops : Array Oper} {rest : List Oper} {o : Oper} {a : Act} {w : World} {Q : Exit → Act → World → Prop} (hg : o.guard = none) (t : TypeId) (parts : Array (Nat × Operand)) (ho : o.op = .build t parts)
    (d : Option Tmp) (hd : o.dst = d) (l : List (Nat × Value)) (hl : (parts.map fun (i, x) => (i, a.eval x)).toList = l) (cells : Array Value) (hf : P.built t l = some cells)
    (h : wpList P ops Q rest (a.put d (.agg cells)) w) : wpList P ops Q (o :: rest) a w :=
  Go.wpList_buildTo hg t parts ho d hd cells (by rw [hl]; exact hf) h

set_option maxRecDepth 100000 in
set_option maxHeartbeats 1000000 in
theorem zz (k f u : Int) (h1 : 8 ≤ k) (h2 : k ≤ 17) (w : World) : Calls Try.prog 21 #[.int .u8 k, .int .u16 f, .int .u64 u] w fun e w' => e = .returned (.bool (low k f u)) ∧ Below w.heap.size w w' := by
  obtain ⟨C, hC, hsz, g1, g2⟩ := parser_cells (some ⟨w.heap.size, 0, none⟩) 1 1
  replace hC := Lib.hid hC
  go_enter Try.func21, Try.ntmps21
  go_wp2_with (refine wpList_buildTo2 rfl 199 _ rfl _ rfl [(9, .slice (some ⟨w.heap.size, 0, none⟩) 1 1)] (by kernel_rfl) C hC.out ?_)
  have hS : ∃ W, W = (((w.alloc (Obj.cells #[Value.pointer none, Value.string ⟨#[]⟩, Value.int IntKind.u32 0, Value.int IntKind.u32 0, Value.int IntKind.u32 0, Value.int IntKind.u32 0, Value.int IntKind.u32 0, Value.int IntKind.u16 f, Value.int IntKind.u8 k, Value.int IntKind.u8 0] 215)).alloc
        (Obj.cells (C.setIfInBounds 23 (Value.int IntKind.u64 u)) 199)).alloc (Obj.cells #[Value.int IntKind.u32 0, Value.int IntKind.u32 0] 228)) ∧
      W.cell? ⟨w.heap.size + 1, 106, none⟩ = some (.slice (some ⟨w.heap.size, 0, none⟩) 1 1) ∧ W.cell? ⟨w.heap.size + 1 + 1, 1, none⟩ = some (.int .u32 0) ∧ W.cell? ⟨w.heap.size + 1, 23, none⟩ = some (.int .u64 u) ∧ W.cell? ⟨w.heap.size, 8, none⟩ = some (.int .u8 k) ∧ W.cell? ⟨w.heap.size, 7, none⟩ = some (.int .u16 f) ∧ Below w.heap.size w W := by
    refine ⟨_, rfl, ?_, ?_, ?_, ?_, ?_, ?_⟩
    · go_simp
      have e := g1
      rw [Array.getElem?_eq_getElem (by omega)] at e
      exact Option.some.inj e
    · go_simp
    · go_simp
    · go_simp
    · go_simp
    · exact (((Below.refl _ _).alloc (Nat.le_refl _) _).alloc (by simp) _).alloc (by simp; omega) _
  obtain ⟨W, hW, c1, c2, c3, c4, c5, hB⟩ := hS
  rw [← hW]
  refine (needs _ _ _ k f u h1 h2 _ c1 c2 c3 c4 c5).mono ?_
  rintro e w1 ⟨rfl, hb1⟩
  clear hW c1 c2 c3 c4 c5 g1 g2 hsz hC
  go_wp2_with fail
  go_ret
  exact ⟨rfl, hB.trans (hb1.mono hB.size)⟩

theorem isPriv (k : Int) (w : World) : Calls Try.prog 20 #[.int .u8 k] w fun e w' => e = .returned (.bool (decide (8 ≤ k) && decide (k ≤ 17))) ∧ w = w' := by
  go_enter Try.func20, Try.ntmps20
  go_wp2
  all_goals (go_ret; refine ⟨congrArg (fun b => Ending.returned (.bool b)) ?_, rfl⟩; rw [Bool.eq_iff_iff]; simp; omega)

theorem u64_wf {a : Int} (h : (Lit.int .u64 a).wf = true) : 0 ≤ a ∧ a < 18446744073709551616 := by
  have : 0 ≤ a ∧ a ≤ 18446744073709551615 := by simpa [Lit.wf, IntKind.min, IntKind.max, IntKind.signed, IntKind.bits] using h
  omega
theorem feat_lt (k : Int) : 0 ≤ feat k ∧ feat k < 18446744073709551616 := by
  unfold feat; repeat (split <;> try omega)
theorem and_or (a b c : Int) (ha : 0 ≤ a ∧ a < 18446744073709551616) (hb : 0 ≤ b ∧ b < 18446744073709551616) (hc : 0 ≤ c ∧ c < 18446744073709551616) :
    (bits .and .u64 (bits .or .u64 a b) c != 0) = ((bits .and .u64 a c != 0) || (bits .and .u64 b c != 0)) := by
  obtain ⟨x, rfl⟩ := Int.eq_ofNat_of_zero_le ha.1
  obtain ⟨y, rfl⟩ := Int.eq_ofNat_of_zero_le hb.1
  obtain ⟨z, rfl⟩ := Int.eq_ofNat_of_zero_le hc.1
  have hx : x < 18446744073709551616 := by omega
  have hy : y < 18446744073709551616 := by omega
  have hz : z < 18446744073709551616 := by omega
  have hxy : x ||| y < 18446744073709551616 := Nat.or_lt_two_pow (n := 64) hx hy
  rw [u64_or_nat x y hx hy, u64_and_nat _ z hxy hz, u64_and_nat x z hx hz, u64_and_nat y z hy hz, Nat.and_or_distrib_right]
  rw [Bool.eq_iff_iff]
  simp only [bne_iff_ne, ne_eq, Bool.or_eq_true]
  have e : ∀ n : Nat, ((n : Int) = 0) ↔ n = 0 := fun n => by omega
  rw [e, e, e]
  have : x &&& z ||| y &&& z = 0 ↔ (x &&& z = 0 ∧ y &&& z = 0) := Nat.or_eq_zero_iff
  rw [this]
  by_cases h1 : x &&& z = 0 <;> by_cases h2 : y &&& z = 0 <;> simp [h1, h2]
theorem low_or (k f a b : Int) (ha : 0 ≤ a ∧ a < 18446744073709551616) (hb : 0 ≤ b ∧ b < 18446744073709551616) : low k f (bits .or .u64 a b) = (low k f a || low k f b) := by
  unfold low
  rw [and_or a b (feat k) ha hb (feat_lt k)]
  cases (bits .and .u64 a (feat k) != 0) <;> cases (bits .and .u64 b (feat k) != 0) <;> cases (bits .and .u16 f 8 != 0) <;> rfl

set_option maxHeartbeats 1000000 in
theorem walk (a0 : Int) (_w0 : (Lit.int .u8 a0).wf = true) (a1 : Int) (_w1 : (Lit.int .u16 a1).wf = true) (a2 : Int) (w2 : (Lit.int .u64 a2).wf = true) (a3 : Int) (w3 : (Lit.int .u64 a3).wf = true) (w : World) :
    Calls Try.prog 5 #[.int .u8 a0, .int .u16 a1, .int .u64 a2, .int .u64 a3] w fun e w' => e = .returned (.bool true) ∧ Below w.heap.size w w' := by
  have ha := u64_wf w2
  have hb := u64_wf w3
  have HO := Lib.hid (low_or a0 a1 a2 a3 ha hb)
  clear ha hb
  by_cases hk : 8 ≤ a0 ∧ a0 ≤ 17
  · obtain ⟨k1, k2⟩ := hk
    have hp : (decide (8 ≤ a0) && decide (a0 ≤ 17)) = true := by simp [k1, k2]
    have Z := Lib.hid (fun u w => zz a0 a1 u k1 k2 w)
    cases hx : low a0 a1 a2 <;> cases hy : low a0 a1 a3
    all_goals
      rw [hx, hy] at HO
      replace hx := Lib.hid hx
      replace hy := Lib.hid hy
      go_enter Try.func5, Try.ntmps5
      go_wp2_with fail
      refine (isPriv _ _).mono ?_
      rintro e w1 ⟨rfl, rfl⟩
      go_wp2_with fail
      refine (Z.out _ _).mono ?_
      rintro e w1 ⟨rfl, hb1⟩
      rw [HO.out]
      go_wp2_with fail
      refine (Z.out _ _).mono ?_
      rintro e w2 ⟨rfl, hb2⟩
      rw [hx.out]
      go_wp2_with fail
      refine (Z.out _ _).mono ?_
      rintro e w3 ⟨rfl, hb3⟩
      rw [hy.out]
      go_wp2_with fail
      go_ret
      have t1 := hb1.trans (hb2.mono hb1.size)
      exact ⟨rfl, t1.trans (hb3.mono t1.size)⟩
  · have hp : (decide (8 ≤ a0) && decide (a0 ≤ 17)) = false := by
      rw [← Bool.decide_and]; exact decide_eq_false hk
    go_enter Try.func5, Try.ntmps5
    go_wp2_with (go_at_call 20; refine (isPriv _ _).mono ?_; rintro e w1 ⟨rfl, rfl⟩)
    go_ret
    exact ⟨rfl, Below.refl _ _⟩
end Go.Proofs.Ytkpdjdfebaaahaa.fnPrivateLoweringDistributesOverUnsupportedUnion
