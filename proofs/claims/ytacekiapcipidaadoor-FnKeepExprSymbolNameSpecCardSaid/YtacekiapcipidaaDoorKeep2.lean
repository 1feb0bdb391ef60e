/-
  importFromRuntime on a parser whose lists and map of imports are empty. No condition.
-/
import Derived.Test.YtacekiapcipidaaDoorKeep
import Derived.Test.YtacekiapcipidaaDoorMapX
import Derived.Deep.DeepCutAuto
namespace Go.Proofs.YtacekiapcipidaaDoor.Sym
open Go.RowKit Go.ChangeShapes Go.WideShapes Go.ChangeAt Go.Proofs.YtacekiapcipidaaDoor.Ints Go.Proofs.YtacekiapcipidaaDoor.MapX

structure Gl (w : World) : Prop where
  g0 : w.cell? ⟨0, 0, none⟩ = some (.int .u32 4294967295)
  g1 : w.cell? ⟨0, 1, none⟩ = some (.int .u32 4294967295)
theorem Gl.below {B : Nat} {w w' : World} (h : Gl w) (hb : Below B w w') (hB : 0 < B) : Gl w' := ⟨(hb.cell (p := ⟨0, 0, none⟩) hB).trans h.g0, (hb.cell (p := ⟨0, 1, none⟩) hB).trans h.g1⟩
theorem infoLR : (Tryd.prog.info? 55).map (·.zero) = some (some (.agg #[.int .i32 0, .int .u32 0, .int .u32 0])) := by kernel_rfl
theorem zeroLR (w : World) : (zeroValue 55).run Tryd.prog w = .ok (.agg #[.int .i32 0, .int .u32 0, .int .u32 0]) w := by
  have h := infoLR
  cases hi : Tryd.prog.info? 55 with
  | none => rw [hi] at h; cases h
  | some i => rw [hi] at h; simp at h; simp [zeroValue, typeInfo, hi, h]
theorem look0 {w : World} {r : Nat} {nm : ByteArray} (hb : w.heap[r]? = some (.map #[] 0)) : (Instr.lookup 60 (.map (some r)) (.string nm) true).run Tryd.prog w = .ok (.tuple #[.agg #[.int .i32 0, .int .u32 0, .int .u32 0], .bool false]) w :=
  look_miss (ok := true) Tryd.underlying60 hb (check_string _ _ Tryd.underlying9) (find_string Tryd.underlying9 rfl) (zeroLR w)
theorem put0 {w : World} {r : Nat} {nm : ByteArray} {val : Value} (hb : w.heap[r]? = some (.map #[] 0)) : (Instr.mapUpdate 60 (.map (some r)) (.string nm) val).run Tryd.prog w = .ok () (putMap w r (#[].push { key := .string nm, val, born := 0 }) (0 + 1)) :=
  update_new Tryd.underlying60 hb (check_string _ _ Tryd.underlying9) (find_string Tryd.underlying9 rfl)
/-- A parser whose lists and map of imports are empty. -/
structure Pq (B : Nat) (w : World) (P Sc Mp : Nat) (F f : Nat → Value) : Prop where
  core : Core B w P F (.slice none 0 0) (.slice none 0 0) 0 0 [] []
  f66 : F 66 = .int .u32 0
  f32 : F 32 = .bool false
  f106 : F 106 = .slice none 0 0
  f108 : F 108 = .slice none 0 0
  f117 : F 117 = .map (some Mp)
  f187 : F 187 = .pointer (some ⟨Sc, 0, none⟩)
  f350 : F 350 = .bool false
  f105 : F 105 = .pointer none
  sc : w.rowIs Sc 59 16 f
  s5 : f 5 = .slice none 0 0
  map : w.heap[Mp]? = some (.map #[] 0)
  ge : B ≤ P ∧ B ≤ Sc ∧ B ≤ Mp
theorem Pq.next {B P Sc Mp : Nat} {F f : Nat → Value} {w w' : World} (h : Pq B w P Sc Mp F f) (hb : Below w.heap.size w w') : Pq B w' P Sc Mp F f :=
  ⟨h.core.below hb, h.f66, h.f32, h.f106, h.f108, h.f117, h.f187, h.f350, h.f105, h.sc.of_block (hb.block _ h.sc.lt), h.s5, (hb.block _ (Array.getElem?_eq_some_iff.1 h.map).1).trans h.map, h.ge⟩
theorem row_new (w : World) (cs : Array Value) (t : TypeId) (n : Nat) (hn : cs.size = n) : (w.alloc (.cells cs t)).rowIs w.heap.size t n (fun j => cs.getD j undef) := by
  have hr := World.rowIs_alloc w cs t (fun j => cs.getD j undef) (fun i hi => by simp [Array.getD, hi])
  rwa [hn] at hr
theorem row_ne {w : World} {a b s t k m : Nat} {f g : Nat → Value} (h : w.rowIs a s k f) (h' : w.rowIs b t m g) (hst : s ≠ t) : a ≠ b := by
  obtain ⟨c1, k1, _⟩ := h
  obtain ⟨c2, k2, _⟩ := h'
  exact cells_ne k1 k2 hst
theorem row_nm {w : World} {a s k b : Nat} {f : Nat → Value} {es : Array MapEntry} {c : Nat} (h : w.rowIs a s k f) (h' : w.heap[b]? = some (.map es c)) : a ≠ b := by
  obtain ⟨c1, k1, _⟩ := h
  rintro rfl
  rw [h'] at k1
  cases k1
/-- The rows behind newSymbol: the parser, its symbols, the scope, the call's three locals; the map. -/
structure Qs (W : World) (N P g Sc Mp n : Nat) (F G f fi fr fl : Nat → Value) (es : Array MapEntry) (c : Nat) : Prop where
  p : W.rowIs P 176 353 F
  g : W.rowIs g 203 n G
  s : W.rowIs Sc 59 16 f
  i : W.rowIs (N + 1 + 1) 55 3 fi
  r : W.rowIs (N + 1) 31 2 fr
  l : W.rowIs N 27 1 fl
  m : W.heap[Mp]? = some (.map es c)
section
variable {W W' : World} {N P g Sc Mp n : Nat} {F G f fi fr fl : Nat → Value} {es : Array MapEntry} {c : Nat}
theorem Qs.keep (h : Qs W N P g Sc Mp n F G f fi fr fl es c) (hk : ∀ b, b < W.heap.size → W'.heap[b]? = W.heap[b]?) : Qs W' N P g Sc Mp n F G f fi fr fl es c :=
  ⟨h.p.of_block (hk _ h.p.lt), h.g.of_block (hk _ h.g.lt), h.s.of_block (hk _ h.s.lt), h.i.of_block (hk _ h.i.lt), h.r.of_block (hk _ h.r.lt), h.l.of_block (hk _ h.l.lt), (hk _ (Array.getElem?_eq_some_iff.1 h.m).1).trans h.m⟩
theorem Qs.setI (h : Qs W N P g Sc Mp n F G f fi fr fl es c) (j : Nat) (v : Value) : Qs (W.setCell ⟨N + 1 + 1, j, none⟩ v) N P g Sc Mp n F G f (fun k => if k = j then v else fi k) fr fl es c :=
  ⟨h.p.setOther (row_ne h.p h.i (by decide)) v, h.g.setOther (row_ne h.g h.i (by decide)) v, h.s.setOther (row_ne h.s h.i (by decide)) v, h.i.set j v, h.r.setOther (row_ne h.r h.i (by decide)) v, h.l.setOther (row_ne h.l h.i (by decide)) v, (Go.Deep.blk_setCell_other _ _ _ _ (fun e => row_nm h.i h.m e.symm)).trans h.m⟩
theorem Qs.setS (h : Qs W N P g Sc Mp n F G f fi fr fl es c) (j : Nat) (v : Value) : Qs (W.setCell ⟨Sc, j, none⟩ v) N P g Sc Mp n F G (fun k => if k = j then v else f k) fi fr fl es c :=
  ⟨h.p.setOther (row_ne h.p h.s (by decide)) v, h.g.setOther (row_ne h.g h.s (by decide)) v, h.s.set j v, h.i.setOther (row_ne h.i h.s (by decide)) v, h.r.setOther (row_ne h.r h.s (by decide)) v, h.l.setOther (row_ne h.l h.s (by decide)) v, (Go.Deep.blk_setCell_other _ _ _ _ (fun e => row_nm h.s h.m e.symm)).trans h.m⟩
theorem Qs.setG (h : Qs W N P g Sc Mp n F G f fi fr fl es c) (j : Nat) (v : Value) : Qs (W.setCell ⟨g, j, none⟩ v) N P g Sc Mp n F (fun k => if k = j then v else G k) f fi fr fl es c :=
  ⟨h.p.setOther (row_ne h.p h.g (by decide)) v, h.g.set j v, h.s.setOther (row_ne h.s h.g (by decide)) v, h.i.setOther (row_ne h.i h.g (by decide)) v, h.r.setOther (row_ne h.r h.g (by decide)) v, h.l.setOther (row_ne h.l h.g (by decide)) v, (Go.Deep.blk_setCell_other _ _ _ _ (fun e => row_nm h.g h.m e.symm)).trans h.m⟩
theorem Qs.setR (h : Qs W N P g Sc Mp n F G f fi fr fl es c) (j : Nat) (v : Value) : Qs (W.setCell ⟨N + 1, j, none⟩ v) N P g Sc Mp n F G f fi (fun k => if k = j then v else fr k) fl es c :=
  ⟨h.p.setOther (row_ne h.p h.r (by decide)) v, h.g.setOther (row_ne h.g h.r (by decide)) v, h.s.setOther (row_ne h.s h.r (by decide)) v, h.i.setOther (row_ne h.i h.r (by decide)) v, h.r.set j v, h.l.setOther (row_ne h.l h.r (by decide)) v, (Go.Deep.blk_setCell_other _ _ _ _ (fun e => row_nm h.r h.m e.symm)).trans h.m⟩
theorem Qs.putM (h : Qs W N P g Sc Mp n F G f fi fr fl es c) (es' : Array MapEntry) (c' : Nat) : Qs (putMap W Mp es' c') N P g Sc Mp n F G f fi fr fl es' c' :=
  ⟨h.p.of_block (putMap_other (row_nm h.p h.m)), h.g.of_block (putMap_other (row_nm h.g h.m)), h.s.of_block (putMap_other (row_nm h.s h.m)), h.i.of_block (putMap_other (row_nm h.i h.m)), h.r.of_block (putMap_other (row_nm h.r h.m)), h.l.of_block (putMap_other (row_nm h.l h.m)), putMap_same h.m⟩
end
/-- Blocks of cells of other types than Symbol and uint32, and other than P and Sc, are as they were. -/
structure KK (B P Sc : Nat) (w w' : World) : Prop where
  bel : Below B w w'
  kp : ∀ (b : Nat) (cur : Array Value) (t : TypeId) (fr : Nat × Nat), w.heap[b]? = some (.cells cur t fr) → t ≠ 203 → t ≠ 51 → b ≠ P → b ≠ Sc → w'.heap[b]? = w.heap[b]?
theorem KK.step {B P Sc : Nat} {w W W' : World} (h : KK B P Sc w W) (hb : Below B W W') (hk : ∀ (b : Nat) (cur : Array Value) (t : TypeId) (fr : Nat × Nat), b < w.heap.size → W.heap[b]? = some (.cells cur t fr) → t ≠ 203 → t ≠ 51 → b ≠ P → b ≠ Sc → W'.heap[b]? = W.heap[b]?) : KK B P Sc w W' :=
  ⟨h.bel.trans hb, fun b cur t fr e h1 h2 h3 h4 => by
    have e1 := h.kp b cur t fr e h1 h2 h3 h4
    exact (hk b cur t fr (Array.getElem?_eq_some_iff.1 e).1 (e1.trans e) h1 h2 h3 h4).trans e1⟩
theorem row_kk {w w' : World} {B P Sc R k : Nat} {t : TypeId} {f : Nat → Value} (h : w.rowIs R t k f) (hb : KK B P Sc w w') (h1 : t ≠ 203) (h2 : t ≠ 51) (hR : R ≠ P) (hS : R ≠ Sc) : w'.rowIs R t k f := by
  obtain ⟨c, hc, r⟩ := h
  exact ⟨c, (hb.kp R c t _ hc h1 h2 hR hS).trans hc, r⟩
theorem infoRf : (Tryd.prog.info? 53).map (fun i => (i.zero, i.size, i.bytes)) = some (some (.agg #[.int .u32 0, .int .u32 0]), 2, 8) := by kernel_rfl
/-- The one symbol as a row. -/
theorem one_sym {w : World} {B : Nat} {v : Value} {nm : ByteArray} (h : w.ownsRow B 203 10 v 1 (symC 27 nm).toList) :
    ∃ g c n G, v = .slice (some ⟨g, 0, none⟩) 1 c ∧ 1 ≤ c ∧ B ≤ g ∧ w.rowIs g 203 n G ∧ 10 ≤ n ∧ G 1 = .string nm ∧ G 4 = .int .u32 0 := by
  rcases h.2 with ⟨_, h0⟩ | ⟨g, cap, cur, e, hB, hg, hnc, hcm, hcs, ht⟩
  · cases h0
  · have hk : ∀ k, k < 10 → cur[k]? = (symC 27 nm)[k]? := fun k hk => by
      have e1 : (cur.toList.take (1 * 10))[k]? = cur.toList[k]? := List.getElem?_take_of_lt (by omega)
      rw [ht] at e1
      rw [← Array.getElem?_toList, ← e1, Array.getElem?_toList]
    have gd : ∀ k v, cur[k]? = some v → cur.getD k undef = v := fun k v h => by
      obtain ⟨hl, he⟩ := Array.getElem?_eq_some_iff.1 h
      simp [Array.getD, hl, he]
    exact ⟨g, cap, cur.size, fun j => cur.getD j undef, e, hnc, hB, ⟨cur, hg, rfl, fun i hi => by simp [Array.getD, hi]⟩, by omega, gd 1 _ (hk 1 (by omega)), gd 4 _ (hk 4 (by omega))⟩
set_option maxRecDepth 20000 in
theorem recordU (P g c n Mp Sc N : Nat) (F G f fi fr fl : Nat → Value) (es : Array MapEntry) (k : Nat) (w : World) (h : Qs w N P g Sc Mp n F G f fi fr fl es k) (hn : 10 ≤ n) (hc : 1 ≤ c) (f106 : F 106 = .slice (some ⟨g, 0, none⟩) 1 c) (f350 : F 350 = .bool false) (f105 : F 105 = .pointer none) (f32 : F 32 = .bool false) (hG4 : G 4 = .int .u32 0) :
    Calls Tryd.prog 22 #[.pointer (some ⟨P, 0, none⟩), .agg #[.int .u32 0, .int .u32 0]] w fun e w' => e = .returned (.tuple #[]) ∧ Qs w' N P g Sc Mp n F (fun j => if j = 4 then .int .u32 1 else G j) f fi fr fl es k ∧ (∀ b, b < w.heap.size → b ≠ g → w'.heap[b]? = w.heap[b]?) ∧ (∀ B, B ≤ w.heap.size → B ≤ g → Below B w w') := by
  have p1 : w.cell? ⟨P, 350, none⟩ = some (.bool false) := f350 ▸ h.p.cell (i := 350) (by omega)
  have p2 : w.cell? ⟨P, 105, none⟩ = some (.pointer none) := f105 ▸ h.p.cell (i := 105) (by omega)
  have p3 : w.cell? ⟨P, 32, none⟩ = some (.bool false) := f32 ▸ h.p.cell (i := 32) (by omega)
  have p4 : w.cell? ⟨P, 106, none⟩ = some (.slice (some ⟨g, 0, none⟩) 1 c) := f106 ▸ h.p.cell (i := 106) (by omega)
  have lP := h.p.lt
  have lg := h.g.lt
  have b1 : Below w.heap.size w (w.alloc (.cells #[.int .u32 0, .int .u32 0] 53)) := (Below.refl _ _).alloc (Nat.le_refl _) _
  have h1 := h.keep b1.block
  have u1 : (w.alloc (.cells #[.int .u32 0, .int .u32 0] 53)).cell? ⟨g, 4, none⟩ = some (.int .u32 0) := hG4 ▸ h1.g.cell (i := 4) (by omega)
  have u2 := h1.g.frozen 4
  have r1 : (w.alloc (.cells #[.int .u32 0, .int .u32 0] 53)).cell? ⟨w.heap.size, 1, none⟩ = some (.int .u32 0) := cell_of_row _ _ 1 _ _ _ (heap_alloc_new _ _)
  have q1 := (b1.cell (p := ⟨P, 350, none⟩) lP).trans p1
  have q2 := (b1.cell (p := ⟨P, 105, none⟩) lP).trans p2
  have q3 := (b1.cell (p := ⟨P, 32, none⟩) lP).trans p3
  have q4 := (b1.cell (p := ⟨P, 106, none⟩) lP).trans p4
  have hne := row_ne h.p h.g (by decide)
  have h2 := h1.setG 4 (.int .u32 1)
  replace h := Lib.hid h
  replace h1 := Lib.hid h1
  replace h2 := Lib.hid h2
  replace b1 := Lib.hid b1
  go_enter Tryd.func22, Tryd.ntmps22
  go_wp2_with fail
  generalize hW : w.alloc (.cells #[.int .u32 0, .int .u32 0] 53) = W at *
  replace hW := Lib.hid hW
  go_region
  have v1 : (W.setCell ⟨g, 4, none⟩ (.int .u32 1)).drew.cell? ⟨P, 105, none⟩ = some (.pointer none) := (World.cell?_setCell_far _ _ _ _ (by show g ≠ P; exact fun e => hne e.symm)).trans q2
  have v2 : (W.setCell ⟨g, 4, none⟩ (.int .u32 1)).drew.cell? ⟨P, 32, none⟩ = some (.bool false) := (World.cell?_setCell_far _ _ _ _ (by show g ≠ P; exact fun e => hne e.symm)).trans q3
  have hk : ∀ b, b < w.heap.size → b ≠ g → (W.setCell ⟨g, 4, none⟩ (.int .u32 1)).drew.heap[b]? = w.heap[b]? := fun b hb hn => (Go.Deep.blk_setCell_other _ _ _ _ hn).trans (b1.out.block b hb)
  have hB : ∀ B, B ≤ w.heap.size → B ≤ g → Below B w (W.setCell ⟨g, 4, none⟩ (.int .u32 1)).drew := fun B h1 h2 => ((b1.out.mono h1).setCell (p := ⟨g, 4, none⟩) h2 _).drew
  have h3 := h2.out.keep (W' := (W.setCell ⟨g, 4, none⟩ (.int .u32 1)).drew) (fun _ _ => rfl)
  generalize (W.setCell ⟨g, 4, none⟩ (.int .u32 1)).drew = W2 at *
  replace hk := Lib.hid hk
  replace hB := Lib.hid hB
  replace h3 := Lib.hid h3
  clear q1 q2 q3 q4 p1 p2 p3 p4
  go_wp2_with fail
  go_end0
  exact ⟨rfl, h3.out, hk.out, hB.out⟩
def Imp (B P Sc : Nat) (l : Int) (nm : ByteArray) (w : World) (e : Ending) (w' : World) : Prop :=
  ∃ (I g c n : Nat) (F' G fI : Nat → Value), e = .returned (.agg #[.iface 191 (.pointer (some ⟨I, 0, none⟩)), .int .i32 l]) ∧ KK B P Sc w w' ∧ w.heap.size ≤ I ∧ w'.rowIs I 193 5 fI ∧ fI 0 = .int .u32 0 ∧ fI 1 = .int .u32 0 ∧
    w'.rowIs P 176 353 F' ∧ F' 106 = .slice (some ⟨g, 0, none⟩) 1 c ∧ 1 ≤ c ∧ w'.rowIs g 203 n G ∧ 10 ≤ n ∧ G 1 = .string nm
set_option maxRecDepth 100000 in
set_option maxHeartbeats 8000000 in
theorem importR (B P Sc Mp : Nat) (F f : Nat → Value) (l : Int) (nm : ByteArray) (w : World) (h : Pq B w P Sc Mp F f) (hB : 0 < B) (hG : Gl w) :
    Calls Tryd.prog 19 #[.pointer (some ⟨P, 0, none⟩), .agg #[.int .i32 l], .string nm] w (Imp B P Sc l nm w) := by
  have p1 := h.core.row.cell (i := 117) (by omega)
  have p2 := h.core.row.cell (i := 187) (by omega)
  rw [h.f117] at p1
  rw [h.f187] at p2
  have lP := h.core.row.lt
  have lM := (Array.getElem?_eq_some_iff.1 h.map).1
  have hlk : ∀ w' : World, Below w.heap.size w w' → (Instr.lookup 60 (.map (some Mp)) (.string nm) true).run Tryd.prog w' = .ok (.tuple #[.agg #[.int .i32 0, .int .u32 0, .int .u32 0], .bool false]) w' := fun w' hb => look0 ((hb.block _ lM).trans h.map)
  replace h := Lib.hid h
  replace hlk := Lib.hid hlk
  have h1 := hlk.out ((w.alloc (.cells #[.int .i32 l] 27)).alloc (.cells #[.nilIface, .int .i32 0] 31)) (((Below.refl _ _).alloc (Nat.le_refl _) _).alloc (by simp) _)
  go_enter Tryd.func19, Tryd.ntmps19
  go_wp2_with fail
  have b1 : Below w.heap.size w (((w.alloc (.cells #[.int .i32 l] 27)).alloc (.cells #[.nilIface, .int .i32 0] 31)).alloc (.cells #[.int .i32 l, .int .u32 0, .int .u32 0] 55)) := (((Below.refl _ _).alloc (Nat.le_refl _) _).alloc (by simp) _).alloc (by simp; omega) _
  have rL := ((row_new w #[.int .i32 l] 27 1 rfl).alloc (.cells #[.nilIface, .int .i32 0] 31)).alloc (.cells #[.int .i32 l, .int .u32 0, .int .u32 0] 55)
  have rR := (row_new (w.alloc (.cells #[.int .i32 l] 27)) #[.nilIface, .int .i32 0] 31 2 rfl).alloc (.cells #[.int .i32 l, .int .u32 0, .int .u32 0] 55)
  have rI := row_new ((w.alloc (.cells #[.int .i32 l] 27)).alloc (.cells #[.nilIface, .int .i32 0] 31)) #[.int .i32 l, .int .u32 0, .int .u32 0] 55 3 rfl
  rw [World.size_alloc] at rR
  rw [World.size_alloc, World.size_alloc] at rI
  generalize (((w.alloc (.cells #[.int .i32 l] 27)).alloc (.cells #[.nilIface, .int .i32 0] 31)).alloc (.cells #[.int .i32 l, .int .u32 0, .int .u32 0] 55)) = w1 at *
  have q1 := h.out.next b1
  have hwp : w.heap.size > 0 := by omega
  have G1 := hG.below b1 hwp
  clear p1 p2 h1
  go_at_call 21
  refine (newSymbol B P 0 0 0 27 false nm F _ _ [] [] w1 q1.core q1.ge.1 hB q1.f66 q1.f32 q1.f106 q1.f108 (by omega) (by omega) G1.g0 G1.g1).mono ?_
  rintro e w2 ⟨rfl, bk, F', v', u', hC', a1, a2, a3⟩
  have lP1 := q1.core.row.lt
  have rL2 := row_kp rL bk (by decide) (by decide) (by omega)
  have rR2 := row_kp rR bk (by decide) (by decide) (by omega)
  have rI2 := row_kp rI bk (by decide) (by decide) (by omega)
  have hne : Sc ≠ P := by
    obtain ⟨c1, k1, _⟩ := q1.sc
    obtain ⟨c2, k2, _⟩ := q1.core.row
    exact cells_ne k1 k2 (by decide)
  have rS2 := row_kp q1.sc bk (by decide) (by decide) hne
  have hmp : Mp ≠ P := by
    obtain ⟨c2, k2, _⟩ := q1.core.row
    intro e
    have := q1.map
    rw [e, k2] at this
    cases this
  have rM2 := (bk.km _ _ _ q1.map hmp).trans q1.map
  obtain ⟨g, c, n, G, rfl, hc1, hBg, hg0, hn10, hG1, hG4⟩ := one_sym (by simpa using hC'.o1)
  have hQ : Qs w2 w.heap.size P g Sc Mp n F' G f _ _ _ _ _ := ⟨hC'.row, hg0, rS2, rI2, rR2, rL2, rM2⟩
  have hBw : B ≤ w.heap.size := by have := h.out.ge; omega
  have hK : KK B P Sc w w2 := by
    refine ⟨(b1.mono hBw).trans bk.bel, fun b cur t fr e h1 h2 h3 h4 => ?_⟩
    have e1 := b1.block b (Array.getElem?_eq_some_iff.1 e).1
    exact (bk.kp b cur t fr (e1.trans e) h1 h2 h3).trans e1
  have hgW : B ≤ w2.heap.size := by have := hg0.lt; omega
  have hQ3 := (hQ.setI 1 (.int .u32 0)).setI 2 (.int .u32 0)
  have hK3 : KK B P Sc w ((w2.setCell ⟨w.heap.size + 1 + 1, 1, none⟩ (.int .u32 0)).setCell ⟨w.heap.size + 1 + 1, 2, none⟩ (.int .u32 0)) :=
    hK.step (((Below.refl _ _).setCell (p := ⟨w.heap.size + 1 + 1, 1, none⟩) (by show B ≤ w.heap.size + 1 + 1; omega) _).setCell (p := ⟨w.heap.size + 1 + 1, 2, none⟩) (by show B ≤ w.heap.size + 1 + 1; omega) _)
      (fun b cur t fr hb _ _ _ _ _ => (Go.Deep.blk_setCell_other _ _ _ _ (by show b ≠ w.heap.size + 1 + 1; omega)).trans (Go.Deep.blk_setCell_other _ _ _ _ (by show b ≠ w.heap.size + 1 + 1; omega)))
  have i0 : w2.cell? ⟨w.heap.size + 1 + 1, 0, none⟩ = some (.int .i32 l) := rI2.cell (i := 0) (by omega)
  have i1 : w2.cell? ⟨w.heap.size + 1 + 1, 1, none⟩ = some (.int .u32 0) := rI2.cell (i := 1) (by omega)
  have i2 : w2.cell? ⟨w.heap.size + 1 + 1, 2, none⟩ = some (.int .u32 0) := rI2.cell (i := 2) (by omega)
  have i3 := rI2.frozen 1
  have i4 := rI2.frozen 2
  have f187 : F' 187 = .pointer (some ⟨Sc, 0, none⟩) := (a3 187 (by decide) (by decide)).trans h.out.f187
  have f117 : F' 117 = .map (some Mp) := (a3 117 (by decide) (by decide)).trans h.out.f117
  have f350 : F' 350 = .bool false := (a3 350 (by decide) (by decide)).trans h.out.f350
  have f105 : F' 105 = .pointer none := (a3 105 (by decide) (by decide)).trans h.out.f105
  have f32 : F' 32 = .bool false := (a3 32 (by decide) (by decide)).trans h.out.f32
  have fs5 := h.out.s5
  clear hQ hK rL2 rR2 rI2 rS2 rM2 rL rR rI hg0 hC' bk hne hmp lP1 b1 q1 a2 a3 G1
  replace hQ3 := Lib.hid hQ3
  replace hK3 := Lib.hid hK3
  replace f187 := Lib.hid f187
  replace f117 := Lib.hid f117
  replace f350 := Lib.hid f350
  replace f105 := Lib.hid f105
  replace f32 := Lib.hid f32
  replace fs5 := Lib.hid fs5
  replace a1 := Lib.hid a1
  replace hG1 := Lib.hid hG1
  replace hG4 := Lib.hid hG4
  go_upto_region 5 with fail
  clear i0 i1 i2 i3 i4
  generalize ((w2.setCell ⟨w.heap.size + 1 + 1, 1, none⟩ (.int .u32 0)).setCell ⟨w.heap.size + 1 + 1, 2, none⟩ (.int .u32 0)) = W3 at *
  obtain ⟨j0, hj, hy0, hy1, hy2⟩ := info_parts infoRf
  have p1 : W3.cell? ⟨P, 187, none⟩ = some (.pointer (some ⟨Sc, 0, none⟩)) := f187.out ▸ hQ3.out.p.cell (i := 187) (by omega)
  have s5 : W3.cell? ⟨Sc, 5, none⟩ = some (.slice none 0 0) := fs5.out ▸ hQ3.out.s.cell (i := 5) (by omega)
  have i1 : W3.cell? ⟨w.heap.size + 1 + 1, 1, none⟩ = some (.int .u32 0) := hQ3.out.i.cell (i := 1) (by omega)
  have i2 : W3.cell? ⟨w.heap.size + 1 + 1, 2, none⟩ = some (.int .u32 0) := hQ3.out.i.cell (i := 2) (by omega)
  have lP3 := hQ3.out.p.lt
  have lS3 := hQ3.out.s.lt
  have lI3 := hQ3.out.i.lt
  have hnews := Lib.hid (arr_new W3.drew #[.int .u32 0, .int .u32 0] 53 W3.heap.size rfl)
  have hone : Hid (∀ u ∈ ([.int .u32 0, .int .u32 0] : List Value), u.oneCell' = true) := Lib.hid (fun u hu => by simp at hu; subst hu; rfl)
  have hk1 : 0 + 1 ≤ maxLen := by simp only [maxLen]; omega
  have hk2 : (0 + 1) * 8 ≤ 140737488355328 := by omega
  have hk3 : Hid (B ≤ (W3.drew.alloc (.cells #[.int .u32 0, .int .u32 0] 53)).heap.size) := Lib.hid (by simp; omega)
  go_cut [] (fun wx => ∃ f', Qs wx w.heap.size P g Sc Mp n F' G f' (fun k => if k = 2 then .int .u32 0 else if k = 1 then .int .u32 0 else (#[.int .i32 l, .int .u32 0, .int .u32 0] : Array Value).getD k undef) (fun j => (#[.nilIface, .int .i32 0] : Array Value).getD j undef) (fun j => (#[.int .i32 l] : Array Value).getD j undef) #[] 0 ∧ KK B P Sc w wx)
  case first =>
    go_region_law ((refine step_append_own rfl (.tmp 36) (.tmp 39) _ rfl B 53 j0 (.agg #[.int .u32 0, .int .u32 0]) 2 8 Tryd.underlying50 hj hy0 hy1 hy2 rfl (by omega) (.slice none 0 0) 0 [] rfl (World.ownsRow_nil _ _ _ _) ⟨W3.heap.size, 0, none⟩ 1 1 [.int .u32 0, .int .u32 0] rfl rfl hnews.out hone.out hk1 hk2 hk3.out ?_; intro v' w5 ho hg hv; have hbel : Below W3.heap.size W3 w5 := ⟨hg.os, hg.tape, hg.output, Nat.le_trans (by simp) hg.size, fun k hk => (hg.block k (by simp; omega) (by intro e; cases e)).trans (Go.Deep.blk_alloc_lt W3.drew _ k hk)⟩; obtain ⟨a', c', rfl⟩ := slice_form ho; have d0 : w5.cell? ⟨Sc, 5, none⟩ = some (.slice none 0 0) := (hbel.cell (p := ⟨Sc, 5, none⟩) lS3).trans s5; have d1 : w5.cell? ⟨P, 187, none⟩ = some (.pointer (some ⟨Sc, 0, none⟩)) := (hbel.cell (p := ⟨P, 187, none⟩) lP3).trans p1; have e0 := (hQ3.out.s.of_block (hbel.block _ lS3)).frozen 5; replace hbel := Lib.hid hbel; clear ho hv hg))
    all_goals
      go_wp2_with fail
      go_meet
      have hx := (hQ3.out.keep hbel.out.block).setS 5 (.slice a' 1 c')
      exact ⟨_, hx, (hK3.out.step (hbel.out.mono (by omega)) (fun b cur t fr hb _ _ _ _ _ => hbel.out.block b (by have := hK3.out.bel.size; omega))).step ((Below.refl _ _).setCell (p := ⟨Sc, 5, none⟩) h.out.ge.2.1 _) (fun b cur t fr hb _ _ _ _ hne => Go.Deep.blk_setCell_other _ _ _ _ hne)⟩
  case rest =>
    clear p1 s5 i1 i2 lP3 lS3 lI3 hnews hone hk1 hk2 hk3 hQ3 hK3 fs5
    obtain ⟨f2, hQ4, hK4⟩ := hcut
    have p1 : wc.cell? ⟨P, 117, none⟩ = some (.map (some Mp)) := f117.out ▸ hQ4.p.cell (i := 117) (by omega)
    have i0 : wc.cell? ⟨w.heap.size + 1 + 1, 0, none⟩ = some (.int .i32 l) := hQ4.i.cell (i := 0) (by omega)
    have i1 : wc.cell? ⟨w.heap.size + 1 + 1, 1, none⟩ = some (.int .u32 0) := hQ4.i.cell (i := 1) (by omega)
    have i2 : wc.cell? ⟨w.heap.size + 1 + 1, 2, none⟩ = some (.int .u32 0) := hQ4.i.cell (i := 2) (by omega)
    have hup := put0 (nm := nm) (val := .agg #[.int .i32 l, .int .u32 0, .int .u32 0]) (w := wc.drew) (hQ4.m)
    replace hQ4 := Lib.hid hQ4
    replace hK4 := Lib.hid hK4
    go_wp2_with fail
    go_region
    have hQ5 := (hQ4.out.keep (W' := wc.drew) (fun _ _ => rfl)).putM (#[].push { key := .string nm, val := .agg #[.int .i32 l, .int .u32 0, .int .u32 0], born := 0 }) (0 + 1)
    have hK5 : KK B P Sc w (putMap wc.drew Mp (#[].push { key := .string nm, val := .agg #[.int .i32 l, .int .u32 0, .int .u32 0], born := 0 }) (0 + 1)) := hK4.out.step (putMap_below (Below.refl _ _).drew h.out.ge.2.2) (fun b cur t fr hb e _ _ _ _ => putMap_other (fun e2 => by rw [e2, hQ4.out.m] at e; cases e))
    clear p1 i0 i1 i2 hup
    change Exit.then _ _ _ _ (putMap wc.drew Mp (#[].push { key := .string nm, val := .agg #[.int .i32 l, .int .u32 0, .int .u32 0], born := 0 }) (0 + 1))
    generalize (putMap wc.drew Mp (#[].push { key := .string nm, val := .agg #[.int .i32 l, .int .u32 0, .int .u32 0], born := 0 }) (0 + 1)) = W5 at *
    have i1 : W5.cell? ⟨w.heap.size + 1 + 1, 1, none⟩ = some (.int .u32 0) := hQ5.i.cell (i := 1) (by omega)
    have i2 : W5.cell? ⟨w.heap.size + 1 + 1, 2, none⟩ = some (.int .u32 0) := hQ5.i.cell (i := 2) (by omega)
    replace hQ5 := Lib.hid hQ5
    replace hK5 := Lib.hid hK5
    clear hQ4 hK4
    go_wp2_with fail
    go_at_call 22
    refine (recordU P g c n Mp Sc w.heap.size F' G f2 _ _ _ _ _ W5 hQ5.out hn10 hc1 a1.out f350.out f105.out f32.out hG4.out).mono ?_
    rintro e W6 ⟨rfl, hQ6, hk6, hb6⟩
    have hK6 : KK B P Sc w W6 := hK5.out.step (hb6 B (by have := hK5.out.bel.size; omega) hBg) (fun b cur t fr hb e h1 _ _ _ => hk6 b (Array.getElem?_eq_some_iff.1 e).1 (by
      obtain ⟨cg, kg, _⟩ := hQ5.out.g
      exact cells_ne e kg h1))
    have l0 : W6.cell? ⟨w.heap.size, 0, none⟩ = some (.int .i32 l) := hQ6.l.cell (i := 0) (by omega)
    have j1 : W6.cell? ⟨w.heap.size + 1 + 1, 1, none⟩ = some (.int .u32 0) := hQ6.i.cell (i := 1) (by omega)
    have j2 : W6.cell? ⟨w.heap.size + 1 + 1, 2, none⟩ = some (.int .u32 0) := hQ6.i.cell (i := 2) (by omega)
    have r0 : W6.cell? ⟨w.heap.size + 1, 0, none⟩ = some (.nilIface) := hQ6.r.cell (i := 0) (by omega)
    have r1 : W6.cell? ⟨w.heap.size + 1, 1, none⟩ = some (.int .i32 0) := hQ6.r.cell (i := 1) (by omega)
    have r2 := hQ6.r.frozen 0
    have r3 := hQ6.r.frozen 1
    have ll := hQ6.l.lt
    have li := hQ6.i.lt
    have lr := hQ6.r.lt
    replace hQ6 := Lib.hid hQ6
    replace hK6 := Lib.hid hK6
    replace hk6 := Lib.hid hk6
    replace hb6 := Lib.hid hb6
    clear i1 i2
    go_wp2_with fail
    have hQ7 := (hQ6.out.setR 0 (.iface 191 (.pointer (some ⟨W6.heap.size, 0, none⟩)))).setR 1 (.int .i32 l)
    have hs : ((W6.setCell ⟨w.heap.size + 1, 0, none⟩ (.iface 191 (.pointer (some ⟨W6.heap.size, 0, none⟩)))).setCell ⟨w.heap.size + 1, 1, none⟩ (.int .i32 l)).heap.size = W6.heap.size := by simp
    have hK7 : KK B P Sc w ((W6.setCell ⟨w.heap.size + 1, 0, none⟩ (.iface 191 (.pointer (some ⟨W6.heap.size, 0, none⟩)))).setCell ⟨w.heap.size + 1, 1, none⟩ (.int .i32 l)) :=
      hK6.out.step (((Below.refl _ _).setCell (p := ⟨w.heap.size + 1, 0, none⟩) (by show B ≤ w.heap.size + 1; omega) _).setCell (p := ⟨w.heap.size + 1, 1, none⟩) (by show B ≤ w.heap.size + 1; omega) _)
        (fun b cur t fr hb _ _ _ _ _ => (Go.Deep.blk_setCell_other _ _ _ _ (by show b ≠ w.heap.size + 1; omega)).trans (Go.Deep.blk_setCell_other _ _ _ _ (by show b ≠ w.heap.size + 1; omega)))
    have hW6 : w.heap.size ≤ W6.heap.size := hK6.out.bel.size
    generalize ((W6.setCell ⟨w.heap.size + 1, 0, none⟩ (.iface 191 (.pointer (some ⟨W6.heap.size, 0, none⟩)))).setCell ⟨w.heap.size + 1, 1, none⟩ (.int .i32 l)) = W7 at *
    have b8 : Below W7.heap.size W7 (W7.alloc (.cells #[.int .u32 0, .int .u32 0, .bool false, .bool false, .bool false] 193)) := (Below.refl _ _).alloc (Nat.le_refl _) _
    have hQ8 := hQ7.keep b8.block
    have rI := row_new W7 #[.int .u32 0, .int .u32 0, .bool false, .bool false, .bool false] 193 5 rfl
    rw [hs] at rI
    have t0 := hQ8.r.cell (i := 0) (by omega)
    have t1 := hQ8.r.cell (i := 1) (by omega)
    simp only [if_true, if_false, show ¬ (0 : Nat) = 1 from by decide] at t0 t1
    refine bodyPost_ret (v := .agg #[.iface 191 (.pointer (some ⟨W6.heap.size, 0, none⟩)), .int .i32 l]) (by simp [results, Tryd.results19, go_sem, t0, t1]) rfl ?_
    exact ⟨W6.heap.size, g, c, n, _, _, _, rfl, hK7.step (b8.mono (by omega)) (fun b cur t fr hb _ _ _ _ _ => b8.block b (by omega)), hW6, rI, rfl, rfl, hQ8.p, a1.out, hc1, hQ8.g, hn10, by simp [hG1.out]⟩
end Go.Proofs.YtacekiapcipidaaDoor.Sym
