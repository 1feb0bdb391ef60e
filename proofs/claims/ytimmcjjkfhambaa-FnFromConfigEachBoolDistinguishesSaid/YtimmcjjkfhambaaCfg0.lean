/-
  The zero regexp; a config with its two pointers set. No condition.
-/
import Derived.Test.YtimmcjjkfhambaaCfg3
namespace Go.Proofs.Ytimmcjjkfhambaa.Cfg
open Go.RowKit Go.ChangeShapes Go.WideShapes Go.ChangeAt Go.Proofs.Ytimmcjjkfhambaa.Ints

def Rx (w : World) (e : Ending) (w' : World) : Prop := ∃ R : Array Value, e = .returned (.pointer (some ⟨w.heap.size, 0, none⟩)) ∧ w' = w.alloc (.cells R 103 (0, 0)) ∧ R[0]? = some (.string ⟨#[]⟩)
set_option maxRecDepth 20000 in
theorem zeroRx (w : World) : Calls Try.prog 11 #[] w (Rx w) := by
  go_enter Try.func11, Try.ntmps11
  go_wp2_with fail
  go_ret
  exact ⟨_, rfl, rfl, rfl⟩
theorem setCell_row {w : World} {C k : Nat} {cs ds : Array Value} {t : TypeId} {v : Value} (h : w.heap[C]? = some (.cells cs t (0, 0))) (hd : cs.setIfInBounds k v = ds) : (w.setCell ⟨C, k, none⟩ v).heap[C]? = some (.cells ds t (0, 0)) := by
  subst hd
  exact heap_setCell_same w C k cs t v h
theorem setM {w : World} {C : Nat} {x : Nat → Bool} {env : ByteArray} {fe ov ms : Int} {m r : Option Addr} {o : Option Addr} {n : Nat} {t : TypeId} (m' : Option Addr) (h : w.heap[C]? = some (.cells (cfgV x env fe ov ms m r o n) t (0, 0))) :
    (w.setCell ⟨C, 6, none⟩ (.pointer m')).heap[C]? = some (.cells (cfgV x env fe ov ms m' r o n) t (0, 0)) := setCell_row h rfl
theorem setR {w : World} {C : Nat} {x : Nat → Bool} {env : ByteArray} {fe ov ms : Int} {m r : Option Addr} {o : Option Addr} {n : Nat} {t : TypeId} (r' : Option Addr) (h : w.heap[C]? = some (.cells (cfgV x env fe ov ms m r o n) t (0, 0))) :
    (w.setCell ⟨C, 7, none⟩ (.pointer r')).heap[C]? = some (.cells (cfgV x env fe ov ms m r' o n) t (0, 0)) := setCell_row h rfl
def Rgx (B : Nat) (w : World) (b : Bool) (m : Option Addr) : Prop := (b = true ∧ m = none) ∨ (b = false ∧ ∃ M, m = some ⟨M, 0, none⟩ ∧ B ≤ M ∧ w.cell? ⟨M, 0, none⟩ = some (.string ⟨#[]⟩))
theorem Rgx.of {B : Nat} {w w' : World} {b : Bool} {m : Option Addr} (h : Rgx B w b m) (hk : ∀ M, B ≤ M → M < w.heap.size → m = some ⟨M, 0, none⟩ → w'.heap[M]? = w.heap[M]?) : Rgx B w' b m := by
  rcases h with h | ⟨h1, M, h2, h3, h4⟩
  · exact .inl h
  · exact .inr ⟨h1, M, h2, h3, (World.cell?_of_block (a := ⟨M, 0, none⟩) (w := w) (hk M h3 (Ints.lt_of_cell h4) h2)).trans h4⟩
theorem Rgx.next {B : Nat} {w w' : World} {b : Bool} {m : Option Addr} (h : Rgx B w b m) (hb : Below w.heap.size w w') : Rgx B w' b m := h.of (fun M _ h2 _ => hb.block M h2)
def Built (x : Nat → Bool) (env : ByteArray) (fe ov ms : Int) (mn rn : Bool) (n : Nat) (f : Nat → ByteArray) (w : World) (e : Ending) (w' : World) : Prop :=
  ∃ m r o, e = .returned (.agg (optV x env fe ov ms m r o n)) ∧ Rgx w.heap.size w' mn m ∧ Rgx w.heap.size w' rn r ∧ Lab w.heap.size w' o n f ∧ Below w.heap.size w w'
theorem setRow_ne {w : World} {N k : Nat} (h : k ≠ N) (ds : Array Value) : (w.setRow N ds).heap[k]? = w.heap[k]? := by
  simp only [World.setRow, Array.getElem?_modify]
  rw [if_neg (fun hh => h hh.symm)]
theorem setRow_size (w : World) (N : Nat) (ds : Array Value) : (w.setRow N ds).heap.size = w.heap.size := by simp [World.setRow]
theorem frz {w : World} {C k : Nat} {cs : Array Value} {t : TypeId} (h : w.heap[C]? = some (.cells cs t (0, 0))) : w.frozen? ⟨C, k, none⟩ = false := by
  simp [World.frozen?, h]
/-- The config at C in a world behind W1. -/
structure St (W1 : World) (C : Nat) (x : Nat → Bool) (env : ByteArray) (fe ov ms : Int) (mn rn : Bool) (o : Option Addr) (n : Nat) (f : Nat → ByteArray) (m r : Option Addr) (w : World) : Prop where
  ge : W1.heap.size ≤ C
  below : Below W1.heap.size W1 w
  cfg : w.heap[C]? = some (.cells (cfgV x env fe ov ms m r o n) 92 (0, 0))
  lab : Lab W1.heap.size w o n f
  rm : m ≠ none → Rgx W1.heap.size w mn m
  rr : r ≠ none → Rgx W1.heap.size w rn r
  apart : (∀ M, m = some ⟨M, 0, none⟩ → M ≠ C) ∧ (∀ M, r = some ⟨M, 0, none⟩ → M ≠ C) ∧ (n ≠ 0 → ∀ b off, o = some ⟨b, off, none⟩ → b ≠ C)
section
variable {W1 : World} {C : Nat} {x : Nat → Bool} {env : ByteArray} {fe ov ms : Int} {mn rn : Bool} {o : Option Addr} {n : Nat} {f : Nat → ByteArray} {m r : Option Addr} {w : World}
theorem Lab.but {B C n : Nat} {w w' : World} {o : Option Addr} {f : Nat → ByteArray} (h : Lab B w o n f) (ha : n ≠ 0 → ∀ b off, o = some ⟨b, off, none⟩ → b ≠ C) (hs : w.heap.size ≤ w'.heap.size) (hk : ∀ b, b < w.heap.size → b ≠ C → w'.heap[b]? = w.heap[b]?) : Lab B w' o n f := by
  refine ⟨?_, h.nil, h.ge⟩
  rcases h.at_ with h0 | ⟨b, off, e, hb, hc⟩
  · exact .inl h0
  · exact .inr ⟨b, off, e, by omega, fun i hi => (World.cell?_of_block (a := ⟨b, off + i, none⟩) (w := w) (hk b hb (ha (by omega) b off e))).trans (hc i hi)⟩
theorem lab_lt {B n : Nat} {w : World} {o : Option Addr} {f : Nat → ByteArray} (h : Lab B w o n f) (hn : n ≠ 0) {b off : Nat} (e : o = some ⟨b, off, none⟩) : b < w.heap.size := by
  rcases h.at_ with h0 | ⟨b', off', e', hb, _⟩
  · exact absurd h0 hn
  · rw [e'] at e
    injection e with e
    injection e with e
    omega
theorem St.alloc (h : St W1 C x env fe ov ms mn rn o n f m r w) (ob : Obj) : St W1 C x env fe ov ms mn rn o n f m r (w.alloc ob) := by
  have hb : Below w.heap.size w (w.alloc ob) := (Below.refl _ _).alloc (Nat.le_refl _) _
  exact ⟨h.ge, h.below.trans (hb.mono h.below.size), (hb.block _ (lt_row h.cfg)).trans h.cfg, h.lab.next hb, fun hh => (h.rm hh).next hb, fun hh => (h.rr hh).next hb, h.apart⟩
theorem set_other (w : World) (C k : Nat) (v : Value) (b : Nat) (h : b ≠ C) : (w.setCell ⟨C, k, none⟩ v).heap[b]? = w.heap[b]? := heap_setCell_other w ⟨C, k, none⟩ b v h
theorem size_set (w : World) (a : Addr) (v : Value) : (w.setCell a v).heap.size = w.heap.size := by simp
theorem St.setM (h : St W1 C x env fe ov ms mn rn o n f m r w) (M : Nat) (hM : M ≠ C) (hR : Rgx W1.heap.size w mn (some ⟨M, 0, none⟩)) : St W1 C x env fe ov ms mn rn o n f (some ⟨M, 0, none⟩) r (w.setCell ⟨C, 6, none⟩ (.pointer (some ⟨M, 0, none⟩))) :=
  ⟨h.ge, h.below.setCell (by exact h.ge) _, Cfg.setM _ h.cfg, h.lab.but h.apart.2.2 (by rw [size_set]; exact Nat.le_refl _) (fun b _ hb => set_other _ _ _ _ b hb),
   fun _ => hR.of (fun M' _ _ e => set_other _ _ _ _ M' (by injection e with e; injection e with e; omega)), fun hh => (h.rr hh).of (fun M' _ _ e => set_other _ _ _ _ M' (h.apart.2.1 M' e)),
   (fun M' e => by injection e with e; injection e with e; omega), h.apart.2.1, h.apart.2.2⟩
theorem St.setR (h : St W1 C x env fe ov ms mn rn o n f m r w) (M : Nat) (hM : M ≠ C) (hR : Rgx W1.heap.size w rn (some ⟨M, 0, none⟩)) : St W1 C x env fe ov ms mn rn o n f m (some ⟨M, 0, none⟩) (w.setCell ⟨C, 7, none⟩ (.pointer (some ⟨M, 0, none⟩))) :=
  ⟨h.ge, h.below.setCell (by exact h.ge) _, Cfg.setR _ h.cfg, h.lab.but h.apart.2.2 (by rw [size_set]; exact Nat.le_refl _) (fun b _ hb => set_other _ _ _ _ b hb),
   fun hh => (h.rm hh).of (fun M' _ _ e => set_other _ _ _ _ M' (h.apart.1 M' e)), fun _ => hR.of (fun M' _ _ e => set_other _ _ _ _ M' (by injection e with e; injection e with e; omega)),
   h.apart.1, (fun M' e => by injection e with e; injection e with e; omega), h.apart.2.2⟩
/-- A new zero regexp. -/
theorem rgx_new {w : World} {R : Array Value} {B : Nat} (hB : B ≤ w.heap.size) (hR : R[0]? = some (.string ⟨#[]⟩)) : Rgx B (w.alloc (.cells R 103 (0, 0))) false (some ⟨w.heap.size, 0, none⟩) :=
  .inr ⟨rfl, _, rfl, hB, cell_at (heap_alloc_new _ _) hR⟩
/-- The end: the result's block is written. -/
theorem fin_all {Z : Nat} {w0 w9 w10 : World} (h : St W1 C x env fe ov ms mn rn o n f m r w) (hm : Rgx W1.heap.size w mn m) (hr : Rgx W1.heap.size w rn r) (hZ : W1.heap.size = Z + 2) (b9 : Below w.heap.size w w9) (hs : w10.heap.size = w9.heap.size) (hk : ∀ k, k ≠ Z + 1 → w10.heap[k]? = w9.heap[k]?) (hB : Below Z w0 w10) :
    Rgx Z w10 mn m ∧ Rgx Z w10 rn r ∧ Lab Z w10 o n f ∧ Below Z w0 w10 := by
  have low : ∀ {b m}, Rgx W1.heap.size w b m → Rgx Z w10 b m := fun h => by
    have := (h.next b9).of (w' := w10) (fun M h1 _ _ => hk M (by omega))
    rcases this with h | ⟨h1, M, h2, h3, h4⟩
    · exact .inl h
    · exact .inr ⟨h1, M, h2, by omega, h4⟩
  have hl := (h.lab.next b9).but (C := Z + 1) (fun _ b off e => by have := h.lab.ge b off e; omega) (by omega) (fun b _ hb => hk b hb)
  exact ⟨low hm, low hr, ⟨hl.at_, hl.nil, fun b off e => by have := hl.ge b off e; omega⟩, hB⟩
end
end Go.Proofs.Ytimmcjjkfhambaa.Cfg
