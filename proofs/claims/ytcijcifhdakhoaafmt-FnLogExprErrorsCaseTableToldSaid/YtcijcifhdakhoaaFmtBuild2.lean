/-
  Two laws of no program: the build of a struct whose cells are kept closed; a row made of elements of several cells. No condition.
-/
import Derived.Test.YtcijcifhdakhoaaFmtRowsI
import Derived.Lib.Hide
import Derived.Laws.Cover3
import Derived.WalkLawsBesides
import Derived.WalkSpells
import Derived.Laws.MakeOwn
import Derived.Great.BuildSlice
namespace Go.Proofs.YtcijcifhdakhoaaFmt.Ints
open Go.RowKit
theorem wpList_buildTo2 {P : Program} {ops : Array Oper} {rest : List Oper} {o : Oper} {a : Act} {w : World} {Q : Exit → Act → World → Prop} (hg : o.guard = none) (t : TypeId) (parts : Array (Nat × Operand)) (ho : o.op = .build t parts)
    (d : Option Tmp) (hd : o.dst = d) (l : List (Nat × Value)) (hl : (parts.map fun (i, x) => (i, a.eval x)).toList = l) (cells : Array Value) (hf : P.built t l = some cells)
    (h : wpList P ops Q rest (a.put d (.agg cells)) w) : wpList P ops Q (o :: rest) a w :=
  Go.wpList_buildTo hg t parts ho d hd cells (by rw [hl]; exact hf) h
theorem run_make_rowN {P : Program} (t e : TypeId) (i : TypeInfo) (z : Value) (ht : P.underlying t = some (.slice e)) (hi : P.info? e = some i) (hz : i.zero = some z)
    (kl kc : IntKind) (n c : Nat) (hnc : n ≤ c) (hbytes : i.bytes * c ≤ 281474976710656) (h63 : c ≤ 9223372036854775807) (w : World) :
    (Instr.makeSlice t (.int kl (n : Int)) (.int kc (c : Int))).run P w = .ok (.slice (some ⟨w.heap.size, 0, none⟩) n c) (w.alloc (.cells (madeCells z.cells (c * i.size)) e)) := by
  have hb : (i.bytes : Int) * (c : Int) ≤ 281474976710656 := by
    have h : ((i.bytes * c : Nat) : Int) ≤ 281474976710656 := by omega
    rwa [Int.natCast_mul] at h
  have hr := run_make (P := P) w t e i z ht hi hz kl kc n c (by omega) (by omega) hb (by omega)
  simp only [Int.toNat_natCast] at hr
  exact hr
theorem ta_ptr {P : Program} {T e : TypeId} (hT : P.underlying T = some (.pointer e)) (hz : ∀ w : World, (zeroValue T).run P w = .ok (.pointer none) w) (x t : TypeId) (v : Value) (w : World) :
    (Instr.typeAssert (.iface t v) x T true).run P w = .ok (if t = T then .tuple #[v, .bool true] else .tuple #[.pointer none, .bool false]) w := by
  by_cases h : t = T
  · simp [Instr.typeAssert, run_underlying hT, h]
  · simp [Instr.typeAssert, run_underlying hT, h, hz]
theorem ta_nil {P : Program} {T e : TypeId} (hT : P.underlying T = some (.pointer e)) (hz : ∀ w : World, (zeroValue T).run P w = .ok (.pointer none) w) (x : TypeId) (w : World) :
    (Instr.typeAssert .nilIface x T true).run P w = .ok (.tuple #[.pointer none, .bool false]) w := by
  simp [Instr.typeAssert, run_underlying hT, hz]
end Go.Proofs.YtcijcifhdakhoaaFmt.Ints
