/-
  A map whose entries are known: a store of a new key, and look-ups, as equations of runs. No condition beyond the ones stated.
-/
import Derived.Test.YtacekiapcipidaaDoorRowsI
import Derived.MapKept
import Derived.Carry
namespace Go.Proofs.YtacekiapcipidaaDoor.MapX
open Go.RowKit

def putMap (w : World) (r : Nat) (es : Array MapEntry) (c : Nat) : World := { w with heap := w.heap.setIfInBounds r (.map es c) }
section
variable {P : Program} {w : World} {r c c' : Nat} {es es' : Array MapEntry}
theorem putMap_size : (putMap w r es c).heap.size = w.heap.size := by simp [putMap]
theorem putMap_other {b : Nat} (h : b ≠ r) : (putMap w r es c).heap[b]? = w.heap[b]? := by
  show (w.heap.setIfInBounds r (.map es c))[b]? = _
  rw [Array.getElem?_setIfInBounds_ne (by omega)]
theorem putMap_same (h : w.heap[r]? = some (.map es' c')) : (putMap w r es c).heap[r]? = some (.map es c) := by
  have hlt : r < w.heap.size := by
    rcases Nat.lt_or_ge r w.heap.size with h' | h'
    · exact h'
    · rw [Array.getElem?_eq_none h'] at h; cases h
  show (w.heap.setIfInBounds r (.map es c))[r]? = _
  rw [Array.getElem?_setIfInBounds_self_of_lt hlt]
theorem putMap_cell (h : w.heap[r]? = some (.map es' c')) (p : Addr) : (putMap w r es c).cell? p = w.cell? p := by
  by_cases e : p.block = r
  · subst e
    simp [World.cell?, h, putMap_same h]
  · simp [World.cell?, putMap_other e]
theorem putMap_frozen (h : w.heap[r]? = some (.map es' c')) (p : Addr) : (putMap w r es c).frozen? p = w.frozen? p := by
  by_cases e : p.block = r
  · subst e
    simp [World.frozen?, h, putMap_same h]
  · simp [World.frozen?, putMap_other e]
theorem putMap_below {B : Nat} {w0 : World} (h : Below B w0 w) (hr : B ≤ r) : Below B w0 (putMap w r es c) :=
  ⟨h.os, h.tape, h.output, by rw [putMap_size]; exact h.size, fun i hi => (putMap_other (by omega)).trans (h.block i hi)⟩
theorem update_new {mty kt et : TypeId} {key val : Value} (hm : P.underlying mty = some (.map kt et)) (hb : w.heap[r]? = some (.map es c))
    (hc : (Instr.checkKey false 10000 kt key).run P w = .ok () w) (hf : (Instr.findKey kt key es.toList).run P w = .ok none w) :
    (Instr.mapUpdate mty (.map (some r)) key val).run P w = .ok () (putMap w r (es.push { key, val, born := c }) (c + 1)) := by
  simp [Instr.mapUpdate, run_underlying hm, Go.MapKept.run_getObj_map hb, hc, hf, Go.MapKept.run_setObj_map _ hb, putMap]
theorem look_hit {mty kt et : TypeId} {key val : Value} {i : Nat} {ok : Bool} (hm : P.underlying mty = some (.map kt et)) (hb : w.heap[r]? = some (.map es c))
    (hc : (Instr.checkKey es.isEmpty 10000 kt key).run P w = .ok () w) (hf : (Instr.findKey kt key es.toList).run P w = .ok (some (i, val)) w) :
    (Instr.lookup mty (.map (some r)) key ok).run P w = .ok (if ok then .tuple #[val, .bool true] else val) w := by
  simp [Instr.lookup, run_underlying hm, Go.MapKept.run_getObj_map hb, hc, hf]
theorem look_miss {mty kt et : TypeId} {key z : Value} {ok : Bool} (hm : P.underlying mty = some (.map kt et)) (hb : w.heap[r]? = some (.map es c))
    (hc : (Instr.checkKey es.isEmpty 10000 kt key).run P w = .ok () w) (hf : (Instr.findKey kt key es.toList).run P w = .ok none w) (hz : (zeroValue et).run P w = .ok z w) :
    (Instr.lookup mty (.map (some r)) key ok).run P w = .ok (if ok then .tuple #[z, .bool false] else z) w := by
  simp [Instr.lookup, run_underlying hm, Go.MapKept.run_getObj_map hb, hc, hf, hz]
theorem find_string {kt : TypeId} {s : ByteArray} {es : List MapEntry} {a : Option (Nat × Value)} (hk : P.underlying kt = some .string) (h : Instr.findNow .string (.string s) es 0 = some a) : (Instr.findKey kt (.string s) es).run P w = .ok a w :=
  Go.MapKept.run_findKey hk h
theorem check_string {kt : TypeId} {s : ByteArray} (e : Bool) (n : Nat) (hk : P.underlying kt = some .string) : (Instr.checkKey e (n + 1) kt (.string s)).run P w = .ok () w := by
  simp [Instr.checkKey, run_underlying hk]
end
end Go.Proofs.YtacekiapcipidaaDoor.MapX
