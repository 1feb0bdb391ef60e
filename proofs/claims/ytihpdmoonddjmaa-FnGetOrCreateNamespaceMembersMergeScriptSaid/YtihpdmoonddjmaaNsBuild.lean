/-
  The parser state that zzBuildNamespaceParser builds: the two places to look are as the law's two numbers say. No condition beyond the ones stated.
-/
import Derived.Test.YtihpdmoonddjmaaNs
import Derived.WalkSpells
namespace Go.Proofs.Ytihpdmoonddjmaa.Ns
open Go.RowKit Go.Proofs.Ytihpdmoonddjmaa.Ints Go.Proofs.Ytihpdmoonddjmaa.MapX

theorem parser_cells (C R : Nat) : ∃ A : Array Value, Try.prog.built 240 [(7, .pointer (some ⟨C, 0, none⟩)), (29, .map (some R))] = some A ∧ A.size = 353 ∧ A[104]? = some (.pointer (some ⟨C, 0, none⟩)) ∧ A[158]? = some (.map (some R)) := by
  have h1 : (Try.prog.built 240 [(7, .pointer (some ⟨C, 0, none⟩)), (29, .map (some R))]).isSome = true := by kernel_rfl
  obtain ⟨A, hA⟩ := Option.isSome_iff_exists.1 h1
  have h2 : (Try.prog.built 240 [(7, .pointer (some ⟨C, 0, none⟩)), (29, .map (some R))]).map (·.size) = some 353 := by kernel_rfl
  have h3 : (Try.prog.built 240 [(7, .pointer (some ⟨C, 0, none⟩)), (29, .map (some R))]).bind (·[104]?) = some (.pointer (some ⟨C, 0, none⟩)) := by kernel_rfl
  have h4 : (Try.prog.built 240 [(7, .pointer (some ⟨C, 0, none⟩)), (29, .map (some R))]).bind (·[158]?) = some (.map (some R)) := by kernel_rfl
  rw [hA] at h2 h3 h4
  exact ⟨A, hA, by simpa using h2, h3, h4⟩
def Parser (C R : Nat) (w : World) (e : Ending) (w' : World) : Prop :=
  ∃ P, e = .returned (.pointer (some ⟨P, 0, none⟩)) ∧ w'.cell? ⟨P, 104, none⟩ = some (.pointer (some ⟨C, 0, none⟩)) ∧ w'.cell? ⟨P, 158, none⟩ = some (.map (some R)) ∧ Below w.heap.size w w'
set_option maxRecDepth 100000 in
set_option maxHeartbeats 1000000 in
theorem newParser (C R : Nat) (w : World) : Calls Try.prog 36 #[.pointer (some ⟨C, 0, none⟩), .map (some R)] w (Parser C R w) := by
  obtain ⟨A, hA, hsz, h1, h2⟩ := parser_cells C R
  replace hA := Lib.hid hA
  go_enter Try.func36, Try.ntmps36
  go_wp2_with (refine Using.wpList_buildTo2 rfl 240 _ rfl _ rfl [(7, .pointer (some ⟨C, 0, none⟩)), (29, .map (some R))] (by kernel_rfl) A hA.out ?_)
  go_ret
  exact ⟨_, rfl, by go_simp; exact Array.getElem_eq_iff.2 h1, by go_simp; exact Array.getElem_eq_iff.2 h2, (Below.refl _ _).alloc (Nat.le_refl _) _⟩

/-- Facts of the first part: the ref's variable and the scope's members. -/
structure Bd (w0 : World) (r M : Nat) (key : ByteArray) (w : World) : Prop where
  below : Below w0.heap.size w0 w
  r0 : w.cell? ⟨r, 0, none⟩ = some (.int .u32 0)
  r1 : w.cell? ⟨r, 1, none⟩ = some (.int .u32 7)
  m : w.heap[M]? = some (one (.string key) memb)
  le : w0.heap.size ≤ M
theorem Bd.step {w0 w w' : World} {r M : Nat} {key : ByteArray} (h : Bd w0 r M key w) (hb : Below w.heap.size w w') : Bd w0 r M key w' :=
  ⟨h.below.trans (hb.mono h.below.size), bC hb h.r0, bC hb h.r1, bH hb h.m, h.le⟩
theorem Bd.put {w0 w : World} {r M x c : Nat} {key : ByteArray} {es : Array MapEntry} (h : Bd w0 r M key w) (hx : w.heap[x]? = some (.map es c)) (hM : M < x) (es' : Array MapEntry) (c' : Nat) : Bd w0 r M key (putMap w x es' c') :=
  ⟨putMap_below h.below (by have := h.le; omega), (putMap_cell hx _).trans h.r0, (putMap_cell hx _).trans h.r1, (putMap_other (by omega)).trans h.m, h.le⟩
theorem Bd.set {w0 w : World} {r M C : Nat} {key : ByteArray} (h : Bd w0 r M key w) (hC : M < C) (hr : r < C) (v : Value) : Bd w0 r M key (w.setCell ⟨C, 0, none⟩ v) := by
  have hle := h.le
  refine ⟨h.below.setCell (by show w0.heap.size ≤ C; omega) _, ?_, ?_, ?_, h.le⟩
  · rw [World.cell?_setCell_other _ _ _ _ (fun e => by have := congrArg Addr.block e; simp at this; omega)]; exact h.r0
  · rw [World.cell?_setCell_other _ _ _ _ (fun e => by have := congrArg Addr.block e; simp at this; omega)]; exact h.r1
  · exact (Below.heap_setCell w ⟨C, 0, none⟩ v M (by show M ≠ C; omega)).trans h.m
/-- What the map of the refs' data holds, by the law's number. -/
def RS (w : World) (R sib : Nat) (rk : Int) : Prop :=
  (rk = 1 ∧ ∃ N, N ≠ R ∧ w.heap[R]? = some (one ref7 (.iface 129 (.pointer (some ⟨N, 0, none⟩)))) ∧ w.cell? ⟨N, 0, none⟩ = some (.map (some sib))) ∨
  (rk = 2 ∧ ∃ N, w.heap[R]? = some (one ref7 (.iface 132 (.pointer (some ⟨N, 0, none⟩))))) ∨
  (rk ≠ 1 ∧ rk ≠ 2 ∧ w.heap[R]? = some (.map #[] 0))
theorem RS.keep {w w' : World} {R sib : Nat} {rk : Int} (h : RS w R sib rk) (hh : ∀ o, w.heap[R]? = some o → w'.heap[R]? = some o) (hc : ∀ N v, w.cell? ⟨N, 0, none⟩ = some v → (∃ s, v = .map s) → w'.cell? ⟨N, 0, none⟩ = some v) : RS w' R sib rk := by
  rcases h with ⟨e, N, hn, h1, h2⟩ | ⟨e, N, h1⟩ | ⟨e, e', h1⟩
  · exact .inl ⟨e, N, hn, hh _ h1, hc _ _ h2 ⟨_, rfl⟩⟩
  · exact .inr (.inl ⟨e, N, hh _ h1⟩)
  · exact .inr (.inr ⟨e, e', hh _ h1⟩)
/-- Before the second test: the first way alone has written. -/
def RS1 (w : World) (R sib : Nat) (rk : Int) : Prop :=
  (rk = 1 ∧ ∃ N, N ≠ R ∧ w.heap[R]? = some (one ref7 (.iface 129 (.pointer (some ⟨N, 0, none⟩)))) ∧ w.cell? ⟨N, 0, none⟩ = some (.map (some sib))) ∨ (rk ≠ 1 ∧ w.heap[R]? = some (.map #[] 0))

theorem upM {w : World} {M : Nat} (key : ByteArray) (h : w.heap[M]? = some (.map #[] 0)) : (Instr.mapUpdate 125 (.map (some M)) (.string key) (.agg #[.int .u32 0, .int .u32 7, .int .i32 0])).run Try.prog w = .ok () (putMap w M #[{ key := .string key, val := memb, born := 0 }] 1) :=
  update_new (val := memb) Try.underlying125 h (check_string _ _ Try.underlying9) (find_string Try.underlying9 rfl)
theorem upR {w : World} {R : Nat} (v : Value) (h : w.heap[R]? = some (.map #[] 0)) : (Instr.mapUpdate 128 (.map (some R)) (.agg #[.int .u32 0, .int .u32 7]) v).run Try.prog w = .ok () (putMap w R #[{ key := ref7, val := v, born := 0 }] 1) :=
  update_new (key := ref7) Try.underlying128 h (by kernel_rfl) (by kernel_rfl)
theorem upE {w : World} {E : Nat} (key : ByteArray) (v : Value) (h : w.heap[E]? = some (.map #[] 0)) : (Instr.mapUpdate 24 (.map (some E)) (.string key) v).run Try.prog w = .ok () (putMap w E #[{ key := .string key, val := v, born := 0 }] 1) :=
  update_new Try.underlying24 h (check_string _ _ Try.underlying9) (find_string Try.underlying9 rfl)
theorem heapA1 (V : World) (o1 o2 : Obj) : ((V.alloc o1).alloc o2).heap[V.heap.size]? = some o1 := (Below.heap_alloc (V.alloc o1) o2 V.heap.size (by simp)).trans (Go.MapKept.heap_alloc V o1).1
theorem heapA2 (V : World) (o1 o2 o3 : Obj) : (((V.alloc o1).alloc o2).alloc o3).heap[V.heap.size]? = some o1 := (Below.heap_alloc ((V.alloc o1).alloc o2) o3 V.heap.size (by simp; omega)).trans (heapA1 V o1 o2)
theorem cellN1 (V : World) (o1 : Obj) (v : Value) (T : TypeId) : ((V.alloc o1).alloc (.cells #[v] T)).cell? ⟨V.heap.size + 1, 0, none⟩ = some v := by
  have h := (Go.MapKept.heap_alloc (V.alloc o1) (.cells #[v] T)).1
  have e : (V.alloc o1).heap.size = V.heap.size + 1 := by simp
  rw [e] at h
  show (match ((V.alloc o1).alloc (.cells #[v] T)).heap[V.heap.size + 1]? with | some (.cells c _ _) => c[0]? | _ => none) = some v
  rw [h]
  rfl
theorem set_alloc {X : World} {C : Nat} {v : Value} {o : Obj} (h : C < X.heap.size) : (X.alloc o).setCell ⟨C, 0, none⟩ v = (X.setCell ⟨C, 0, none⟩ v).alloc o := by
  exact World.setCell_alloc_past (w := X) o C 0 v h
structure Sc (w0 : World) (r M R C : Nat) (key : ByteArray) (sib : Nat) (rk : Int) (w : World) : Prop where
  bd : Bd w0 r M key w
  rs : RS w R sib rk
  c3 : w.cell? ⟨C, 3, none⟩ = some (.map (some M))
  fz : w.frozen? ⟨C, 0, none⟩ = false
  o1 : r < R
  o2 : M < R
  o3 : R < C
  o4 : C < w.heap.size
def pkOpt (pk : Int) (par : Nat) : Option Nat := if pk = 2 then some par else none
def TS (w : World) (B0 C par : Nat) (nm : ByteArray) (pk : Int) (done : Prop) : Prop :=
  (done ∧ ∃ tv, w.cell? ⟨C, 0, none⟩ = some tv ∧ St2 w B0 tv nm (pkOpt pk par)) ∨ (¬ done ∧ w.cell? ⟨C, 0, none⟩ = some (.pointer none))
/-- The world behind a taken test: the map E was written, a scope record made, and stored in the scope. -/
theorem finish {w0 V V' : World} {r M R C sib E : Nat} {key : ByteArray} {rk : Int} {es : Array MapEntry} {o : Obj} {v : Value} (h : Sc w0 r M R C key sib rk V) (hb : Below V.heap.size V V') (hE : V'.heap[E]? = some (.map #[] 0)) (hle : V.heap.size ≤ E) (hc : V.cell? ⟨C, 0, none⟩ = some (.pointer none)) :
    Sc w0 r M R C key sib rk (((putMap V' E es 1).alloc o).setCell ⟨C, 0, none⟩ v) ∧ (((putMap V' E es 1).alloc o).setCell ⟨C, 0, none⟩ v).heap[E]? = some (.map es 1) ∧ (((putMap V' E es 1).alloc o).setCell ⟨C, 0, none⟩ v).cell? ⟨C, 0, none⟩ = some v ∧
    (∀ p x, p.block ≠ C → ((putMap V' E es 1).alloc o).cell? p = some x → (((putMap V' E es 1).alloc o).setCell ⟨C, 0, none⟩ v).cell? p = some x) ∧ (∀ p x, V'.cell? p = some x → ((putMap V' E es 1).alloc o).cell? p = some x) := by
  have o1 := h.o1
  have o2 := h.o2
  have o3 := h.o3
  have o4 := h.o4
  have hs := hb.size
  have hEl : E < V'.heap.size := lt_of_heap hE
  have g1 := (h.bd.step hb).put hE (by omega) es 1
  have bA : Below (putMap V' E es 1).heap.size (putMap V' E es 1) ((putMap V' E es 1).alloc o) := (Below.refl _ _).alloc (Nat.le_refl _) _
  have g2 := (g1.step bA).set (C := C) (by omega) (by omega) v
  have kc : ∀ p x, V'.cell? p = some x → ((putMap V' E es 1).alloc o).cell? p = some x := fun p x hx => bC bA ((putMap_cell hE p).trans hx)
  have ks : ∀ p x, p.block ≠ C → ((putMap V' E es 1).alloc o).cell? p = some x → (((putMap V' E es 1).alloc o).setCell ⟨C, 0, none⟩ v).cell? p = some x := fun p x hp hx => by
    rw [World.cell?_setCell_other _ _ _ _ (fun e => hp (congrArg Addr.block e.symm))]; exact hx
  have kh : ∀ b ob, b ≠ C → b ≠ E → V'.heap[b]? = some ob → (((putMap V' E es 1).alloc o).setCell ⟨C, 0, none⟩ v).heap[b]? = some ob := fun b ob h1 h2 hx =>
    (Below.heap_setCell _ ⟨C, 0, none⟩ v b (by exact h1)).trans (bH bA ((putMap_other h2).trans hx))
  refine ⟨⟨g2, ?_, ?_, ?_, o1, o2, o3, ?_⟩, ?_, ?_, ks, kc⟩
  · refine h.rs.keep (fun ob hx => kh R ob (by omega) (by omega) (bH hb hx)) (fun N x hx ⟨q, hq⟩ => ?_)
    by_cases e : N = C
    · subst e; subst hq; rw [hc] at hx; cases hx
    · exact ks _ _ e (kc _ _ (bC hb hx))
  · rw [World.cell?_setCell_other _ _ _ _ (fun e => by have := congrArg Addr.off e; simp at this)]; exact kc _ _ (bC hb h.c3)
  · rw [World.frozen?_setCell]
    refine (bA.frozen (p := ⟨C, 0, none⟩) (by rw [putMap_size]; show C < _; omega)).trans ((putMap_frozen hE _).trans ((hb.frozen (p := ⟨C, 0, none⟩) (by exact o4)).trans h.fz))
  · simp [World.setCell, putMap_size]; omega
  · exact (Below.heap_setCell _ ⟨C, 0, none⟩ v E (by show E ≠ C; omega)).trans (bH bA (putMap_same hE))
  · exact World.cell?_setCell_same _ _ _ (kc _ _ (bC hb hc))
def s1Of (mb : Bool) (rk : Int) (sib : Nat) : Option Nat := if mb = true ∧ rk = 1 then some sib else none
def Built (w0 : World) (nm : ByteArray) (mb : Bool) (rk pk : Int) (sib par : Nat) (e : Ending) (w : World) : Prop :=
  ∃ P C M R tv, e = .returned (.pointer (some ⟨P, 0, none⟩)) ∧ Below w0.heap.size w0 w ∧ w.cell? ⟨P, 104, none⟩ = some (.pointer (some ⟨C, 0, none⟩)) ∧ w.cell? ⟨P, 158, none⟩ = some (.map (some R)) ∧ w.cell? ⟨C, 3, none⟩ = some (.map (some M)) ∧ w.cell? ⟨C, 0, none⟩ = some tv ∧
    w0.heap.size ≤ M ∧ w0.heap.size ≤ R ∧ R < w.heap.size ∧ St1 w M R nm (s1Of mb rk sib) ∧ St2 w w0.heap.size tv nm (pkOpt pk par)
theorem St2.below {w w' : World} {B0 : Nat} {tv : Value} {nm : ByteArray} {s : Option Nat} (h : St2 w B0 tv nm s) (hb : Below w.heap.size w w') : St2 w' B0 tv nm s := by
  cases s with
  | some par =>
    obtain ⟨T, E, N, h0, rfl, h1, h2, h3⟩ := h
    exact ⟨T, E, N, h0, rfl, bC hb h1, bH hb h2, bC hb h3⟩
  | none =>
    rcases h with rfl | ⟨T, E, h0, rfl, h1, ⟨ot, v, hne, h2⟩ | ⟨N, h2⟩⟩
    · exact .inl rfl
    · exact .inr ⟨T, E, h0, rfl, bC hb h1, .inl ⟨ot, v, hne, bH hb h2⟩⟩
    · exact .inr ⟨T, E, h0, rfl, bC hb h1, .inr ⟨N, bH hb h2⟩⟩
theorem built_of {w0 V w : World} {r M R C P sib par : Nat} {nm ot : ByteArray} {mb : Bool} {rk pk : Int} (hne : ot ≠ nm) (sc : Sc w0 r M R C (cond mb nm ot) sib rk V) (ts : TS V w0.heap.size C par nm pk (pk = 1 ∨ pk = 2 ∨ pk = 3)) (hb : Below V.heap.size V w)
    (p1 : w.cell? ⟨P, 104, none⟩ = some (.pointer (some ⟨C, 0, none⟩))) (p2 : w.cell? ⟨P, 158, none⟩ = some (.map (some R))) : Built w0 nm mb rk pk sib par (.returned (.pointer (some ⟨P, 0, none⟩))) w := by
  have hle := sc.bd.le
  have ho := sc.o2
  have q : ∃ tv, V.cell? ⟨C, 0, none⟩ = some tv ∧ St2 V w0.heap.size tv nm (pkOpt pk par) := by
    rcases ts with ⟨_, h⟩ | ⟨h, hc⟩
    · exact h
    · refine ⟨_, hc, ?_⟩
      have : pkOpt pk par = none := by unfold pkOpt; rw [if_neg (by omega)]
      rw [this]
      exact .inl rfl
  obtain ⟨tv, c0, h2⟩ := q
  refine ⟨P, C, M, R, tv, rfl, sc.bd.below.trans (hb.mono sc.bd.below.size), p1, p2, bC hb sc.c3, bC hb c0, hle, by omega, by have := sc.o3; have := sc.o4; have := hb.size; omega, ?_, h2.below hb⟩
  have hm := bH hb sc.bd.m
  cases mb with
  | false => exact .inl ⟨ot, hne, hm⟩
  | true =>
    rcases sc.rs with ⟨e, N, _, h1, h3⟩ | ⟨e, N, h1⟩ | ⟨e, e', h1⟩
    · have : s1Of true rk sib = some sib := by unfold s1Of; rw [if_pos ⟨rfl, e⟩]
      rw [this]
      exact ⟨hm, N, bH hb h1, bC hb h3⟩
    · have : s1Of true rk sib = none := by unfold s1Of; rw [if_neg (by omega)]
      rw [this]
      exact .inr ⟨hm, .inr ⟨N, bH hb h1⟩⟩
    · have : s1Of true rk sib = none := by unfold s1Of; rw [if_neg (by omega)]
      rw [this]
      exact .inr ⟨hm, .inl (bH hb h1)⟩
set_option maxRecDepth 100000 in
set_option maxHeartbeats 4000000 in
theorem build (nm ot : ByteArray) (hne : ot ≠ nm) (mb : Bool) (rk pk : Int) (sib par : Nat) (w : World) :
    Calls Try.prog 9 #[.string nm, .string ot, .bool mb, .int .i64 rk, .int .i64 pk, .map (some sib), .map (some par)] w (Built w nm mb rk pk sib par) := by
  have hmm := @run_makeMap Try.prog
  replace hne := Lib.hid hne
  go_enter Try.func9, Try.ntmps9
  go_upto_if 24 with fail
  generalize hW : (w.alloc (.cells #[.int .u32 0, .int .u32 7] 45)).alloc (.map #[] 0) = W
  have B1 : Below w.heap.size w W := by subst hW; exact ((Below.refl _ _).alloc (Nat.le_refl _) _).alloc (by simp) _
  have k0 : W.cell? ⟨w.heap.size, 0, none⟩ = some (.int .u32 0) := by subst hW; go_simp
  have k1 : W.cell? ⟨w.heap.size, 1, none⟩ = some (.int .u32 7) := by subst hW; go_simp
  have kM : W.heap[w.heap.size + 1]? = some (.map #[] 0) := by subst hW; exact new_after w _ _
  clear hW
  go_cut [] (fun wx => Bd w w.heap.size (w.heap.size + 1) (cond mb nm ot) wx)
  case first =>
    have fin : ∀ key, Bd w w.heap.size (w.heap.size + 1) key (putMap W (w.heap.size + 1) #[{ key := .string key, val := memb, born := 0 }] 1) := fun key =>
      ⟨putMap_below B1 (by omega), (putMap_cell kM _).trans k0, (putMap_cell kM _).trans k1, putMap_same kM, by omega⟩
    replace fin := Lib.hid fin
    cases mb
    · have u := upM ot kM
      go_wp2_with fail
      go_meet
      exact fin.out _
    · have u := upM nm kM
      go_wp2_with fail
      go_meet
      exact fin.out _
  case rest =>
    clear B1 k0 k1 kM
    obtain ⟨W1, rfl⟩ : ∃ W1 : World, W1 = wc := ⟨_, rfl⟩
    go_upto_if 35 with fail
    have b1 : Below W1.heap.size W1 (W1.alloc (.map #[] 0)) := (Below.refl _ _).alloc (Nat.le_refl _) _
    have kR : (W1.alloc (.map #[] 0)).heap[W1.heap.size]? = some (.map #[] 0) := (Go.MapKept.heap_alloc W1 _).1
    have hB := hcut.step b1
    have hM := lt_of_heap hcut.m
    have hr : w.heap.size < W1.heap.size := lt_of_cell hcut.r0
    have hsz : W1.heap.size < (W1.alloc (.map #[] 0)).heap.size := by simp
    clear hcut b1
    generalize W1.alloc (.map #[] 0) = V at *
    go_cut [] (fun wx => Bd w w.heap.size (w.heap.size + 1) (cond mb nm ot) wx ∧ RS1 wx W1.heap.size sib rk)
    case first =>
      by_cases e1 : rk = 1
      · have t1 : (rk == 1) = true := by simp [e1]
        have r0 := hB.r0
        have r1 := hB.r1
        have hr1 : w.heap.size < V.heap.size := by omega
        have bA : Below V.heap.size V (V.alloc (.cells #[.map (some sib)] 131)) := (Below.refl _ _).alloc (Nat.le_refl _) _
        have u := upR (.iface 129 (.pointer (some ⟨V.heap.size, 0, none⟩))) (bH bA kR)
        have kN : (V.alloc (.cells #[.map (some sib)] 131)).cell? ⟨V.heap.size, 0, none⟩ = some (.map (some sib)) := by go_simp
        have fin := And.intro ((hB.step bA).put (bH bA kR) (by omega) #[{ key := ref7, val := .iface 129 (.pointer (some ⟨V.heap.size, 0, none⟩)), born := 0 }] 1)
          (show RS1 _ W1.heap.size sib rk from .inl ⟨e1, V.heap.size, by omega, putMap_same (bH bA kR), (putMap_cell (bH bA kR) _).trans kN⟩)
        replace fin := Lib.hid fin
        replace e1 := Lib.hid e1
        clear bA kN hB kR
        go_wp2_with fail
        go_meet
        exact fin.out
      · have t1 : (rk == 1) = false := by simp [e1]
        have fin := Lib.hid (And.intro hB (show RS1 V W1.heap.size sib rk from .inr ⟨e1, kR⟩))
        clear hB kR
        go_wp2_with fail
        go_meet
        exact fin.out
    case rest =>
      clear hB kR hsz
      obtain ⟨W2, rfl⟩ : ∃ W2 : World, W2 = wc := ⟨_, rfl⟩
      obtain ⟨hB, hS⟩ := hcut
      go_upto_if 43 with fail
      go_cut [] (fun wx => Bd w w.heap.size (w.heap.size + 1) (cond mb nm ot) wx ∧ RS wx W1.heap.size sib rk)
      case first =>
        by_cases e2 : rk = 2
        · have t1 : (rk == 2) = true := by simp [e2]
          have r0 := hB.r0
          have r1 := hB.r1
          have kR : W2.heap[W1.heap.size]? = some (.map #[] 0) := by
            rcases hS with ⟨h, _⟩ | ⟨_, h⟩
            · omega
            · exact h
          have hr1 : w.heap.size < W2.heap.size := lt_of_cell r0
          have bA : Below W2.heap.size W2 (W2.alloc (.cells #[] 134)) := (Below.refl _ _).alloc (Nat.le_refl _) _
          have u := upR (.iface 132 (.pointer (some ⟨W2.heap.size, 0, none⟩))) (bH bA kR)
          have fin := And.intro ((hB.step bA).put (bH bA kR) (by omega) #[{ key := ref7, val := .iface 132 (.pointer (some ⟨W2.heap.size, 0, none⟩)), born := 0 }] 1)
            (show RS _ W1.heap.size sib rk from .inr (.inl ⟨e2, W2.heap.size, putMap_same (bH bA kR)⟩))
          replace fin := Lib.hid fin
          replace e2 := Lib.hid e2
          clear bA hB kR hS
          go_wp2_with fail
          go_meet
          exact fin.out
        · have t1 : (rk == 2) = false := by simp [e2]
          have fin := Lib.hid (And.intro hB (show RS W2 W1.heap.size sib rk from by
            rcases hS with ⟨h, hh⟩ | ⟨h, hh⟩
            · exact .inl ⟨h, hh⟩
            · exact .inr (.inr ⟨h, e2, hh⟩)))
          clear hB hS
          go_wp2_with fail
          go_meet
          exact fin.out
      case rest =>
        clear hB hS
        obtain ⟨W3, rfl⟩ : ∃ W3 : World, W3 = wc := ⟨_, rfl⟩
        go_upto_if 53 with fail
        generalize hV : W3.alloc (.cells #[.pointer none, .pointer none, .slice none 0 0, .map (some (w.heap.size + 1)), .slice none 0 0, .slice none 0 0, .int .i32 0, .int .i32 0, .int .u32 0, .int .u32 0, .bool false, .bool false, .bool false, .bool false, .int .u8 0, .int .u8 0] 145) = V4
        have b3 : Below W3.heap.size W3 V4 := by subst hV; exact (Below.refl _ _).alloc (Nat.le_refl _) _
        have c0 : V4.cell? ⟨W3.heap.size, 0, none⟩ = some (.pointer none) := by subst hV; go_simp
        have c3 : V4.cell? ⟨W3.heap.size, 3, none⟩ = some (.map (some (w.heap.size + 1))) := by subst hV; go_simp
        have cf : V4.frozen? ⟨W3.heap.size, 0, none⟩ = false := by subst hV; go_simp
        clear hV
        have hRl : W1.heap.size < W3.heap.size := by
          rcases hcut.2 with ⟨_, N, _, h, _⟩ | ⟨_, N, h⟩ | ⟨_, _, h⟩ <;> exact lt_of_heap h
        have sc : Sc w w.heap.size (w.heap.size + 1) W1.heap.size W3.heap.size (cond mb nm ot) sib rk V4 :=
          ⟨hcut.1.step b3, hcut.2.keep (fun o h => bH b3 h) (fun N v h _ => bC b3 h), c3, cf, hr, hM, hRl, lt_of_cell c0⟩
        clear hcut b3 c3 cf hRl hM hr
        have ts : TS V4 w.heap.size W3.heap.size par nm pk False := .inr ⟨fun h => h, c0⟩
        clear c0
        go_cut [] (fun wx => Sc w w.heap.size (w.heap.size + 1) W1.heap.size W3.heap.size (cond mb nm ot) sib rk wx ∧ TS wx w.heap.size W3.heap.size par nm pk (pk = 1))
        case first =>
          by_cases e1 : pk = 1
          · have t1 : (pk == 1) = true := by simp [e1]
            have hc0 : V4.cell? ⟨W3.heap.size, 0, none⟩ = some (.pointer none) := by
              rcases ts with ⟨h, _⟩ | ⟨_, h⟩
              · first | exact h.elim | omega
              · exact h
            have hCl := sc.o4
            have hw : w.heap.size ≤ V4.heap.size := sc.bd.below.size
            obtain ⟨V', hV'⟩ : ∃ V', V' = ((V4.alloc (.map #[] 0)).alloc (.map #[] 0)).alloc (.cells #[.map (some (V4.heap.size + 1))] 131) := ⟨_, rfl⟩
            have bA : Below V4.heap.size V4 V' := by rw [hV']; exact (((Below.refl V4.heap.size V4).alloc (Nat.le_refl _) _).alloc (by simp) _).alloc (by simp; omega) _
            have kE : V'.heap[V4.heap.size]? = some (.map #[] 0) := by rw [hV']; exact heapA2 V4 _ _ _

            have u := upE ot (.agg #[.iface 129 (.pointer (some ⟨V4.heap.size + 1 + 1, 0, none⟩)), .int .i32 0, .bool false]) kE
            obtain ⟨X, hX⟩ : ∃ X, X = putMap V' V4.heap.size #[{ key := .string ot, val := .agg #[.iface 129 (.pointer (some ⟨V4.heap.size + 1 + 1, 0, none⟩)), .int .i32 0, .bool false], born := 0 }] 1 := ⟨_, rfl⟩
            have xc : X.cell? ⟨W3.heap.size, 0, none⟩ = some (.pointer none) := by rw [hX]; exact (putMap_cell kE _).trans (bC bA hc0)
            have xf : X.frozen? ⟨W3.heap.size, 0, none⟩ = false := by rw [hX]; exact (putMap_frozen kE _).trans ((bA.frozen (p := ⟨W3.heap.size, 0, none⟩) (by exact hCl)).trans sc.fz)
            have xl : W3.heap.size < X.heap.size := lt_of_cell xc
            have fin : Sc w w.heap.size (w.heap.size + 1) W1.heap.size W3.heap.size (cond mb nm ot) sib rk ((X.alloc (.cells #[.map (some V4.heap.size), .map none, .int .u32 0, .int .u32 0, .bool false] 148)).setCell ⟨W3.heap.size, 0, none⟩ (.pointer (some ⟨X.heap.size, 0, none⟩))) ∧
                TS ((X.alloc (.cells #[.map (some V4.heap.size), .map none, .int .u32 0, .int .u32 0, .bool false] 148)).setCell ⟨W3.heap.size, 0, none⟩ (.pointer (some ⟨X.heap.size, 0, none⟩))) w.heap.size W3.heap.size par nm pk (pk = 1) := by
              have hXl : ¬ X.heap.size = W3.heap.size := by omega
              have hT0 : (X.alloc (.cells #[.map (some V4.heap.size), .map none, .int .u32 0, .int .u32 0, .bool false] 148)).cell? ⟨X.heap.size, 0, none⟩ = some (.map (some V4.heap.size)) := by go_simp
              rw [hX] at *
              obtain ⟨q1, hEx, q3, hkeep, hold⟩ := finish (v := .pointer (some ⟨(putMap V' V4.heap.size #[{ key := .string ot, val := .agg #[.iface 129 (.pointer (some ⟨V4.heap.size + 1 + 1, 0, none⟩)), .int .i32 0, .bool false], born := 0 }] 1).heap.size, 0, none⟩)) (o := (.cells #[.map (some V4.heap.size), .map none, .int .u32 0, .int .u32 0, .bool false] 148)) (es := #[{ key := .string ot, val := .agg #[.iface 129 (.pointer (some ⟨V4.heap.size + 1 + 1, 0, none⟩)), .int .i32 0, .bool false], born := 0 }]) sc bA kE (Nat.le_refl _) hc0
              have hT := hkeep _ _ (by exact hXl) hT0
              refine ⟨q1, .inl ⟨by omega, _, q3, ?_⟩⟩
              have eo : pkOpt pk par = none := by unfold pkOpt; rw [e1]; rfl
              rw [eo]
              exact .inr ⟨_, V4.heap.size, hw, rfl, hT, .inl ⟨ot, _, hne.out, hEx⟩⟩
            rw [set_alloc xl] at fin
            replace fin := Lib.hid fin
            rw [← hX] at u
            clear hX
            rw [hV'] at u
            clear hV' bA kE sc ts hc0
            replace e1 := Lib.hid e1
            go_wp2_with fail
            go_meet
            exact fin.out
          · have t1 : (pk == 1) = false := by simp [e1]
            have fin := Lib.hid (And.intro sc (show TS V4 w.heap.size W3.heap.size par nm pk (pk = 1) from by
              rcases ts with ⟨h, hh⟩ | ⟨h, hh⟩
              · exact .inl ⟨by first | exact h.elim | omega, hh⟩
              · exact .inr ⟨by omega, hh⟩))
            clear sc ts
            go_wp2_with fail
            go_meet
            exact fin.out
        case rest =>
          clear sc ts
          obtain ⟨W5, rfl⟩ : ∃ W5 : World, W5 = wc := ⟨_, rfl⟩
          obtain ⟨sc, ts⟩ := hcut
          go_upto_if 69 with fail
          go_cut [] (fun wx => Sc w w.heap.size (w.heap.size + 1) W1.heap.size W3.heap.size (cond mb nm ot) sib rk wx ∧ TS wx w.heap.size W3.heap.size par nm pk (pk = 1 ∨ pk = 2))
          case first =>
            by_cases e1 : pk = 2
            · have t1 : (pk == 2) = true := by simp [e1]
              have hc0 : W5.cell? ⟨W3.heap.size, 0, none⟩ = some (.pointer none) := by
                rcases ts with ⟨h, _⟩ | ⟨_, h⟩
                · first | exact h.elim | omega
                · exact h
              have hCl := sc.o4
              have hw : w.heap.size ≤ W5.heap.size := sc.bd.below.size
              obtain ⟨V', hV'⟩ : ∃ V', V' = (W5.alloc (.map #[] 0)).alloc (.cells #[.map (some par)] 131) := ⟨_, rfl⟩
              have bA : Below W5.heap.size W5 V' := by rw [hV']; exact ((Below.refl W5.heap.size W5).alloc (Nat.le_refl _) _).alloc (by simp) _
              have kE : V'.heap[W5.heap.size]? = some (.map #[] 0) := by rw [hV']; exact heapA1 W5 _ _
              have kN : V'.cell? ⟨W5.heap.size + 1, 0, none⟩ = some (.map (some par)) := by rw [hV']; exact cellN1 W5 _ _ _
              have u := upE nm (.agg #[.iface 129 (.pointer (some ⟨W5.heap.size + 1, 0, none⟩)), .int .i32 0, .bool false]) kE
              obtain ⟨X, hX⟩ : ∃ X, X = putMap V' W5.heap.size #[{ key := .string nm, val := .agg #[.iface 129 (.pointer (some ⟨W5.heap.size + 1, 0, none⟩)), .int .i32 0, .bool false], born := 0 }] 1 := ⟨_, rfl⟩
              have xc : X.cell? ⟨W3.heap.size, 0, none⟩ = some (.pointer none) := by rw [hX]; exact (putMap_cell kE _).trans (bC bA hc0)
              have xf : X.frozen? ⟨W3.heap.size, 0, none⟩ = false := by rw [hX]; exact (putMap_frozen kE _).trans ((bA.frozen (p := ⟨W3.heap.size, 0, none⟩) (by exact hCl)).trans sc.fz)
              have xl : W3.heap.size < X.heap.size := lt_of_cell xc
              have fin : Sc w w.heap.size (w.heap.size + 1) W1.heap.size W3.heap.size (cond mb nm ot) sib rk ((X.alloc (.cells #[.map (some W5.heap.size), .map none, .int .u32 0, .int .u32 0, .bool false] 148)).setCell ⟨W3.heap.size, 0, none⟩ (.pointer (some ⟨X.heap.size, 0, none⟩))) ∧
                  TS ((X.alloc (.cells #[.map (some W5.heap.size), .map none, .int .u32 0, .int .u32 0, .bool false] 148)).setCell ⟨W3.heap.size, 0, none⟩ (.pointer (some ⟨X.heap.size, 0, none⟩))) w.heap.size W3.heap.size par nm pk (pk = 1 ∨ pk = 2) := by
                have hXl : ¬ X.heap.size = W3.heap.size := by omega
                have hT0 : (X.alloc (.cells #[.map (some W5.heap.size), .map none, .int .u32 0, .int .u32 0, .bool false] 148)).cell? ⟨X.heap.size, 0, none⟩ = some (.map (some W5.heap.size)) := by go_simp
                rw [hX] at *
                obtain ⟨q1, hEx, q3, hkeep, hold⟩ := finish (v := .pointer (some ⟨(putMap V' W5.heap.size #[{ key := .string nm, val := .agg #[.iface 129 (.pointer (some ⟨W5.heap.size + 1, 0, none⟩)), .int .i32 0, .bool false], born := 0 }] 1).heap.size, 0, none⟩)) (o := (.cells #[.map (some W5.heap.size), .map none, .int .u32 0, .int .u32 0, .bool false] 148)) (es := #[{ key := .string nm, val := .agg #[.iface 129 (.pointer (some ⟨W5.heap.size + 1, 0, none⟩)), .int .i32 0, .bool false], born := 0 }]) sc bA kE (Nat.le_refl _) hc0
                have hT := hkeep _ _ (by exact hXl) hT0
                refine ⟨q1, .inl ⟨by omega, _, q3, ?_⟩⟩
                have eo : pkOpt pk par = some par := by unfold pkOpt; rw [e1]; rfl
                rw [eo]
                exact ⟨_, W5.heap.size, W5.heap.size + 1, hw, rfl, hT, hEx, hkeep _ _ (by show W5.heap.size + 1 ≠ W3.heap.size; omega) (hold _ _ kN)⟩
              rw [set_alloc xl] at fin
              replace fin := Lib.hid fin
              rw [← hX] at u
              clear hX
              rw [hV'] at u
              clear hV' bA kE sc ts hc0 kN
              replace e1 := Lib.hid e1
              go_wp2_with fail
              go_meet
              exact fin.out
            · have t1 : (pk == 2) = false := by simp [e1]
              have fin := Lib.hid (And.intro sc (show TS W5 w.heap.size W3.heap.size par nm pk (pk = 1 ∨ pk = 2) from by
                rcases ts with ⟨h, hh⟩ | ⟨h, hh⟩
                · exact .inl ⟨by first | exact h.elim | omega, hh⟩
                · exact .inr ⟨by omega, hh⟩))
              clear sc ts
              go_wp2_with fail
              go_meet
              exact fin.out
          case rest =>
            clear sc ts
            obtain ⟨W6, rfl⟩ : ∃ W6 : World, W6 = wc := ⟨_, rfl⟩
            obtain ⟨sc, ts⟩ := hcut
            go_upto_if 85 with fail
            go_cut [] (fun wx => Sc w w.heap.size (w.heap.size + 1) W1.heap.size W3.heap.size (cond mb nm ot) sib rk wx ∧ TS wx w.heap.size W3.heap.size par nm pk (pk = 1 ∨ pk = 2 ∨ pk = 3))
            case first =>
              by_cases e1 : pk = 3
              · have t1 : (pk == 3) = true := by simp [e1]
                have hc0 : W6.cell? ⟨W3.heap.size, 0, none⟩ = some (.pointer none) := by
                  rcases ts with ⟨h, _⟩ | ⟨_, h⟩
                  · first | exact h.elim | omega
                  · exact h
                have hCl := sc.o4
                have hw : w.heap.size ≤ W6.heap.size := sc.bd.below.size
                obtain ⟨V', hV'⟩ : ∃ V', V' = (W6.alloc (.map #[] 0)).alloc (.cells #[] 134) := ⟨_, rfl⟩
                have bA : Below W6.heap.size W6 V' := by rw [hV']; exact ((Below.refl W6.heap.size W6).alloc (Nat.le_refl _) _).alloc (by simp) _
                have kE : V'.heap[W6.heap.size]? = some (.map #[] 0) := by rw [hV']; exact heapA1 W6 _ _

                have u := upE nm (.agg #[.iface 132 (.pointer (some ⟨W6.heap.size + 1, 0, none⟩)), .int .i32 0, .bool false]) kE
                obtain ⟨X, hX⟩ : ∃ X, X = putMap V' W6.heap.size #[{ key := .string nm, val := .agg #[.iface 132 (.pointer (some ⟨W6.heap.size + 1, 0, none⟩)), .int .i32 0, .bool false], born := 0 }] 1 := ⟨_, rfl⟩
                have xc : X.cell? ⟨W3.heap.size, 0, none⟩ = some (.pointer none) := by rw [hX]; exact (putMap_cell kE _).trans (bC bA hc0)
                have xf : X.frozen? ⟨W3.heap.size, 0, none⟩ = false := by rw [hX]; exact (putMap_frozen kE _).trans ((bA.frozen (p := ⟨W3.heap.size, 0, none⟩) (by exact hCl)).trans sc.fz)
                have xl : W3.heap.size < X.heap.size := lt_of_cell xc
                have fin : Sc w w.heap.size (w.heap.size + 1) W1.heap.size W3.heap.size (cond mb nm ot) sib rk ((X.alloc (.cells #[.map (some W6.heap.size), .map none, .int .u32 0, .int .u32 0, .bool false] 148)).setCell ⟨W3.heap.size, 0, none⟩ (.pointer (some ⟨X.heap.size, 0, none⟩))) ∧
                    TS ((X.alloc (.cells #[.map (some W6.heap.size), .map none, .int .u32 0, .int .u32 0, .bool false] 148)).setCell ⟨W3.heap.size, 0, none⟩ (.pointer (some ⟨X.heap.size, 0, none⟩))) w.heap.size W3.heap.size par nm pk (pk = 1 ∨ pk = 2 ∨ pk = 3) := by
                  have hXl : ¬ X.heap.size = W3.heap.size := by omega
                  have hT0 : (X.alloc (.cells #[.map (some W6.heap.size), .map none, .int .u32 0, .int .u32 0, .bool false] 148)).cell? ⟨X.heap.size, 0, none⟩ = some (.map (some W6.heap.size)) := by go_simp
                  rw [hX] at *
                  obtain ⟨q1, hEx, q3, hkeep, hold⟩ := finish (v := .pointer (some ⟨(putMap V' W6.heap.size #[{ key := .string nm, val := .agg #[.iface 132 (.pointer (some ⟨W6.heap.size + 1, 0, none⟩)), .int .i32 0, .bool false], born := 0 }] 1).heap.size, 0, none⟩)) (o := (.cells #[.map (some W6.heap.size), .map none, .int .u32 0, .int .u32 0, .bool false] 148)) (es := #[{ key := .string nm, val := .agg #[.iface 132 (.pointer (some ⟨W6.heap.size + 1, 0, none⟩)), .int .i32 0, .bool false], born := 0 }]) sc bA kE (Nat.le_refl _) hc0
                  have hT := hkeep _ _ (by exact hXl) hT0
                  refine ⟨q1, .inl ⟨by omega, _, q3, ?_⟩⟩
                  have eo : pkOpt pk par = none := by unfold pkOpt; rw [e1]; rfl
                  rw [eo]
                  exact .inr ⟨_, W6.heap.size, hw, rfl, hT, .inr ⟨W6.heap.size + 1, hEx⟩⟩
                rw [set_alloc xl] at fin
                replace fin := Lib.hid fin
                rw [← hX] at u
                clear hX
                rw [hV'] at u
                clear hV' bA kE sc ts hc0
                replace e1 := Lib.hid e1
                go_wp2_with fail
                go_meet
                exact fin.out
              · have t1 : (pk == 3) = false := by simp [e1]
                have fin := Lib.hid (And.intro sc (show TS W6 w.heap.size W3.heap.size par nm pk (pk = 1 ∨ pk = 2 ∨ pk = 3) from by
                  rcases ts with ⟨h, hh⟩ | ⟨h, hh⟩
                  · exact .inl ⟨by first | exact h.elim | omega, hh⟩
                  · exact .inr ⟨by omega, hh⟩))
                clear sc ts
                go_wp2_with fail
                go_meet
                exact fin.out
            case rest =>
              clear sc ts
              obtain ⟨W7, rfl⟩ : ∃ W7 : World, W7 = wc := ⟨_, rfl⟩
              obtain ⟨sc, ts⟩ := hcut
              go_wp2_with fail
              go_at_call 36
              refine (newParser _ _ _).mono ?_
              rintro e w9 ⟨P, rfl, p1, p2, B9⟩
              have fin := Lib.hid (built_of hne.out sc ts B9 p1 p2)
              clear sc ts B9 p1 p2
              go_wp2_with fail
              go_ret
              exact fin.out
end Go.Proofs.Ytihpdmoonddjmaa.Ns
