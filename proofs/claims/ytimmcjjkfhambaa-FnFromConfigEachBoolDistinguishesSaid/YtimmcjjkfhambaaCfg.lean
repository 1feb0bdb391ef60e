/-
  zzBit, zzCloneLabels, zzCloneCfg, zzBytes of the config laws: what they answer. Condition: at most 65536 labels where a list is copied.
-/
import Derived.Test.YtimmcjjkfhambaaStrs
import Derived.Test.YtimmcjjkfhambaaBut
import Derived.Lib.Hide
import Derived.Laws.Cover3
import Derived.RegionTactic
import Derived.ChangeAlike
import Derived.Deep.QuietTactic
import Derived.BigQuiet
import Derived.BigRegion
import Derived.Deep.RegionHeld3
import Derived.StillTailTactics
import Derived.Laws.MakeOwn
namespace Go.Proofs.Ytimmcjjkfhambaa.Cfg
open Go.RowKit Go.ChangeShapes Go.WideShapes Go.ChangeAt Go.Proofs.Ytimmcjjkfhambaa.Ints

def bt (m : Int) (i : Nat) : Bool := bits BinOp.and IntKind.u16 (m / 2 ^ i) 1 == 1
theorem bit (m : Int) (i : Nat) (w : World) (h0 : 0 ≤ m) (h1 : m < 65536) (hi : i < 11) : Calls Try.prog 10 #[.int .u16 m, .int .u64 i] w fun e w' => e = .returned (.bool (bt m i)) ∧ w = w' := by
  go_enter Try.func10, Try.ntmps10
  go_wp2_with fail
  go_ret
  exact ⟨rfl, rfl⟩
theorem infoS : (Try.prog.info? 9).map (fun i => (i.zero, i.size, i.bytes)) = some (some (.string ByteArray.empty), 1, 16) := by kernel_rfl
theorem eql_nil (t e : TypeId) (a : Option Addr) (l c : Nat) (h : Try.prog.underlying t = some (.slice e)) (w : World) : (binOp .eql t (.slice a l c) (.slice none 0 0)).run Try.prog w = .ok (.bool a.isNone) w := by
  simp [binOp, run_equal_slice_nil w t e a l c h]
theorem clone_some (a : Addr) (n cap : Nat) (f : Nat → ByteArray) (w : World) (hn : n ≤ 65536) (hI : StrsAt w (some a) n f) :
    Calls Try.prog 9 #[.slice (some a) n cap] w fun e w' => e = .returned (.slice (some ⟨w.heap.size, 0, none⟩) n n) ∧ FillingS w w' 9 n n f := by
  have hmk := run_make_row' (P := Try.prog) 24 9 (.string ByteArray.empty) 16 Try.underlying24 infoS rfl .i64 .i64 n (by omega) (by omega)
  have hnil := eql_nil 24 9 (some a) n cap Try.underlying24
  go_enter Try.func9, Try.ntmps9
  go_wp2
  clear hmk
  go_loopg [4] n (fun g i wr => ∃ r : Nat, r ≤ n ∧ g = n - r ∧ i = .int .i64 r ∧ FillingS w wr 9 n r f)
  case atStart => exact ⟨0, Nat.zero_le _, rfl, rfl, fillingS_start _ _ _ _⟩
  case round =>
    obtain ⟨r, hr, rfl, rfl, hF⟩ := hrel
    rcases Nat.lt_or_ge r n with hlt | hge
    · rcases hI with h0 | ⟨b, off, he, hb, hc⟩
      · omega
      · cases he
        have g2 : wr.cell? ⟨b, off + r, none⟩ = some (.string (f r)) := (hF.below.cell (by exact hb)).trans (hc r hlt)
        have g4 : wr.cell? ⟨w.heap.size, r, none⟩ = some (.string ByteArray.empty) := by simpa [fillS] using hF.row.cell hlt
        have g5 := hF.row.frozen r
        clear hc
        go_wp2
        go_roundg (n - (r + 1))
        case measure => omega
        case rel => exact ⟨r + 1, by omega, rfl, rfl, fillingS_step hF⟩
    · have hrn : r = n := by omega
      subst hrn
      clear hI
      go_wp2
      go_ret
      exact ⟨rfl, hF⟩
theorem clone_nil (w : World) : Calls Try.prog 9 #[.slice none 0 0] w fun e w' => e = .returned (.slice none 0 0) ∧ w = w' := by
  have hnil := eql_nil 24 9 none 0 0 Try.underlying24
  go_enter Try.func9, Try.ntmps9
  go_wp2
  go_ret
  exact ⟨rfl, rfl⟩
/-- A list of labels that was made at or above block B, or none. -/
structure Lab (B : Nat) (w : World) (o : Option Addr) (n : Nat) (f : Nat → ByteArray) : Prop where
  at_ : StrsAt w o n f
  nil : o = none → n = 0 ∧ n = 0
  ge : ∀ b off, o = some ⟨b, off, none⟩ → B ≤ b
theorem Lab.keep {B n : Nat} {w w' : World} {o : Option Addr} {f : Nat → ByteArray} (h : Lab B w o n f) (hs : w.heap.size ≤ w'.heap.size) (hk : ∀ b, B ≤ b → b < w.heap.size → w'.heap[b]? = w.heap[b]?) : Lab B w' o n f := by
  refine ⟨?_, h.nil, h.ge⟩
  rcases h.at_ with h0 | ⟨b, off, e, hb, hc⟩
  · exact .inl h0
  · have hkb := hk b (h.ge b off e) hb
    exact .inr ⟨b, off, e, by omega, fun i hi => (World.cell?_of_block (a := ⟨b, off + i, none⟩) (w := w) hkb).trans (hc i hi)⟩
theorem Lab.next {B n : Nat} {w w' : World} {o : Option Addr} {f : Nat → ByteArray} (h : Lab B w o n f) (hb : Below w.heap.size w w') : Lab B w' o n f := h.keep hb.size (fun b _ h2 => hb.block b h2)
def Cloned (n : Nat) (f : Nat → ByteArray) (w : World) (e : Ending) (w' : World) : Prop := ∃ o, e = .returned (.slice o n n) ∧ Lab w.heap.size w' o n f ∧ Below w.heap.size w w'
theorem clone (o : Option Addr) (n cap : Nat) (f : Nat → ByteArray) (w : World) (hn : n ≤ 65536) (hI : StrsAt w o n f) (h0 : o = none → n = 0 ∧ cap = 0) :
    Calls Try.prog 9 #[.slice o n cap] w (Cloned n f w) := by
  cases o with
  | none =>
    obtain ⟨rfl, rfl⟩ := h0 rfl
    refine (clone_nil w).mono ?_
    rintro e w' ⟨rfl, rfl⟩
    exact ⟨none, rfl, ⟨.inl rfl, fun _ => ⟨rfl, rfl⟩, fun b off h => by cases h⟩, Below.refl _ _⟩
  | some a =>
    refine (clone_some a n cap f w hn hI).mono ?_
    rintro e w' ⟨rfl, hF⟩
    exact ⟨_, rfl, ⟨strs_of_row (hF.row.congr fun i hi => by simp [fillS, hi]), (fun h => by cases h), (fun b off h => by cases h; exact Nat.le_refl _)⟩, hF.below⟩
def cfgC (b : Int) (env : ByteArray) (fe ov ms : Int) (mn rn : Bool) (v : Value) : Nat → Value := fun j => (#[.int .u16 b, .string env, .int .u64 fe, .int .u64 ov, .int .u64 ms, .bool mn, .bool rn, v] : Array Value).getD j undef
theorem cfg_row {w : World} {N : Nat} {t : TypeId} {b : Int} {env : ByteArray} {fe ov ms : Int} {mn rn : Bool} {v : Value} (h : w.heap[N]? = some (.cells #[.int .u16 b, .string env, .int .u64 fe, .int .u64 ov, .int .u64 ms, .bool mn, .bool rn, v] t (0, 0))) : w.rowIs N t 8 (cfgC b env fe ov ms mn rn v) :=
  ⟨_, h, rfl, fun i hi => by
    match i, hi with
    | 0, _ | 1, _ | 2, _ | 3, _ | 4, _ | 5, _ | 6, _ | 7, _ => rfl⟩
theorem but_sets {w : World} {b N M : Nat} {u v0 v1 v2 v3 v4 v5 v6 v7 : Value} (h : b ≠ N) (h' : b ≠ M) : (((((((((w.setCell ⟨N, 7, none⟩ u).setCell ⟨M, 0, none⟩ v0).setCell ⟨M, 1, none⟩ v1).setCell ⟨M, 2, none⟩ v2).setCell ⟨M, 3, none⟩ v3).setCell ⟨M, 4, none⟩ v4).setCell ⟨M, 5, none⟩ v5).setCell ⟨M, 6, none⟩ v6).setCell ⟨M, 7, none⟩ v7).heap[b]? = w.heap[b]? := by
  simp only [Below.heap_setCell _ _ _ _ (show b ≠ (⟨M, 0, none⟩ : Addr).block from h'), Below.heap_setCell _ ⟨M, 1, none⟩ _ _ h', Below.heap_setCell _ ⟨M, 2, none⟩ _ _ h', Below.heap_setCell _ ⟨M, 3, none⟩ _ _ h', Below.heap_setCell _ ⟨M, 4, none⟩ _ _ h', Below.heap_setCell _ ⟨M, 5, none⟩ _ _ h', Below.heap_setCell _ ⟨M, 6, none⟩ _ _ h', Below.heap_setCell _ ⟨M, 7, none⟩ _ _ h', Below.heap_setCell _ ⟨N, 7, none⟩ _ _ h]
def ClonedC (b : Int) (env : ByteArray) (fe ov ms : Int) (mn rn : Bool) (n : Nat) (f : Nat → ByteArray) (w : World) (e : Ending) (w' : World) : Prop :=
  ∃ o, e = .returned (.agg #[.int .u16 b, .string env, .int .u64 fe, .int .u64 ov, .int .u64 ms, .bool mn, .bool rn, .slice o n n]) ∧ Lab w.heap.size w' o n f ∧ Below w.heap.size w w'
set_option maxHeartbeats 1000000 in
theorem cloneC (b : Int) (env : ByteArray) (fe ov ms : Int) (mn rn : Bool) (o : Option Addr) (n cap : Nat) (f : Nat → ByteArray) (w : World) (hn : n ≤ 65536) (hI : StrsAt w o n f) (h0 : o = none → n = 0 ∧ cap = 0) :
    Calls Try.prog 6 #[.agg #[.int .u16 b, .string env, .int .u64 fe, .int .u64 ov, .int .u64 ms, .bool mn, .bool rn, .slice o n cap]] w (ClonedC b env fe ov ms mn rn n f w) := by
  replace h0 := Lib.hid h0
  go_enter Try.func6, Try.ntmps6
  go_wp2_with fail
  have hb0 : Below w.heap.size w ((w.alloc (.cells #[.int .u16 b, .string env, .int .u64 fe, .int .u64 ov, .int .u64 ms, .bool mn, .bool rn, .slice o n cap] 26)).alloc (.cells #[.int .u16 0, .string ⟨#[]⟩, .int .u64 0, .int .u64 0, .int .u64 0, .bool false, .bool false, .slice none 0 0] 26)) := ((Below.refl _ _).alloc (Nat.le_refl _) _).alloc (by simp) _
  have hr0 : ((w.alloc (.cells #[.int .u16 b, .string env, .int .u64 fe, .int .u64 ov, .int .u64 ms, .bool mn, .bool rn, .slice o n cap] 26)).alloc (.cells #[.int .u16 0, .string ⟨#[]⟩, .int .u64 0, .int .u64 0, .int .u64 0, .bool false, .bool false, .slice none 0 0] 26)).rowIs w.heap.size 26 8 (cfgC b env fe ov ms mn rn (.slice o n cap)) := cfg_row (by rw [Go.Deep.blk_alloc_lt _ _ _ (by simp)]; exact heap_alloc_new _ _)
  have hr1 : ((w.alloc (.cells #[.int .u16 b, .string env, .int .u64 fe, .int .u64 ov, .int .u64 ms, .bool mn, .bool rn, .slice o n cap] 26)).alloc (.cells #[.int .u16 0, .string ⟨#[]⟩, .int .u64 0, .int .u64 0, .int .u64 0, .bool false, .bool false, .slice none 0 0] 26)).rowIs (w.heap.size + 1) 26 8 (cfgC 0 ⟨#[]⟩ 0 0 0 false false (.slice none 0 0)) := cfg_row (by rw [← World.size_alloc (w := w) (o := .cells #[.int .u16 b, .string env, .int .u64 fe, .int .u64 ov, .int .u64 ms, .bool mn, .bool rn, .slice o n cap] 26)]; exact heap_alloc_new _ _)
  have hz : ((w.alloc (.cells #[.int .u16 b, .string env, .int .u64 fe, .int .u64 ov, .int .u64 ms, .bool mn, .bool rn, .slice o n cap] 26)).alloc (.cells #[.int .u16 0, .string ⟨#[]⟩, .int .u64 0, .int .u64 0, .int .u64 0, .bool false, .bool false, .slice none 0 0] 26)).heap.size = w.heap.size + 2 := by simp
  generalize ((w.alloc (.cells #[.int .u16 b, .string env, .int .u64 fe, .int .u64 ov, .int .u64 ms, .bool mn, .bool rn, .slice o n cap] 26)).alloc (.cells #[.int .u16 0, .string ⟨#[]⟩, .int .u64 0, .int .u64 0, .int .u64 0, .bool false, .bool false, .slice none 0 0] 26)) = w0 at hb0 hr0 hr1 hz ⊢
  go_at_call 9
  refine (clone o n cap f w0 hn (hI.below hb0) h0.out).mono ?_
  rintro e w1 ⟨o2, rfl, L1, B1⟩
  replace hr0 := hr0.of_block (B1.block _ hr0.lt)
  replace hr1 := hr1.of_block (B1.block _ hr1.lt)
  have c0 : w1.cell? ⟨w.heap.size, 0, none⟩ = some (.int .u16 b) := hr0.cell (i := 0) (by omega)
  have c1 : w1.cell? ⟨w.heap.size, 1, none⟩ = some (.string env) := hr0.cell (i := 1) (by omega)
  have c2 : w1.cell? ⟨w.heap.size, 2, none⟩ = some (.int .u64 fe) := hr0.cell (i := 2) (by omega)
  have c3 : w1.cell? ⟨w.heap.size, 3, none⟩ = some (.int .u64 ov) := hr0.cell (i := 3) (by omega)
  have c4 : w1.cell? ⟨w.heap.size, 4, none⟩ = some (.int .u64 ms) := hr0.cell (i := 4) (by omega)
  have c5 : w1.cell? ⟨w.heap.size, 5, none⟩ = some (.bool mn) := hr0.cell (i := 5) (by omega)
  have c6 : w1.cell? ⟨w.heap.size, 6, none⟩ = some (.bool rn) := hr0.cell (i := 6) (by omega)
  have c7 : w1.cell? ⟨w.heap.size, 7, none⟩ = some (.slice o n cap) := hr0.cell (i := 7) (by omega)
  have q7 := hr0.frozen 7
  have y0 : w1.cell? ⟨w.heap.size + 1, 0, none⟩ = some (.int .u16 0) := hr1.cell (i := 0) (by omega)
  have z0 := hr1.frozen 0
  have y1 : w1.cell? ⟨w.heap.size + 1, 1, none⟩ = some (.string ⟨#[]⟩) := hr1.cell (i := 1) (by omega)
  have z1 := hr1.frozen 1
  have y2 : w1.cell? ⟨w.heap.size + 1, 2, none⟩ = some (.int .u64 0) := hr1.cell (i := 2) (by omega)
  have z2 := hr1.frozen 2
  have y3 : w1.cell? ⟨w.heap.size + 1, 3, none⟩ = some (.int .u64 0) := hr1.cell (i := 3) (by omega)
  have z3 := hr1.frozen 3
  have y4 : w1.cell? ⟨w.heap.size + 1, 4, none⟩ = some (.int .u64 0) := hr1.cell (i := 4) (by omega)
  have z4 := hr1.frozen 4
  have y5 : w1.cell? ⟨w.heap.size + 1, 5, none⟩ = some (.bool false) := hr1.cell (i := 5) (by omega)
  have z5 := hr1.frozen 5
  have y6 : w1.cell? ⟨w.heap.size + 1, 6, none⟩ = some (.bool false) := hr1.cell (i := 6) (by omega)
  have z6 := hr1.frozen 6
  have y7 : w1.cell? ⟨w.heap.size + 1, 7, none⟩ = some (.slice none 0 0) := hr1.cell (i := 7) (by omega)
  have z7 := hr1.frozen 7
  go_wp2_with fail
  have hs1 := B1.size
  have bb0 : Below w.heap.size w1 w1 := Below.refl _ _
  have hbb := (((((((((bb0.setCell (p := ⟨w.heap.size, 7, none⟩) (Nat.le_refl _) (.slice o2 n n)).setCell (p := ⟨w.heap.size + 1, 0, none⟩) (Nat.le_succ _) (.int .u16 b)).setCell (p := ⟨w.heap.size + 1, 1, none⟩) (Nat.le_succ _) (.string env)).setCell (p := ⟨w.heap.size + 1, 2, none⟩) (Nat.le_succ _) (.int .u64 fe)).setCell (p := ⟨w.heap.size + 1, 3, none⟩) (Nat.le_succ _) (.int .u64 ov)).setCell (p := ⟨w.heap.size + 1, 4, none⟩) (Nat.le_succ _) (.int .u64 ms)).setCell (p := ⟨w.heap.size + 1, 5, none⟩) (Nat.le_succ _) (.bool mn)).setCell (p := ⟨w.heap.size + 1, 6, none⟩) (Nat.le_succ _) (.bool rn)).setCell (p := ⟨w.heap.size + 1, 7, none⟩) (Nat.le_succ _) (.slice o2 n n))
  have hR := (((((((((hr1.setOther (a := ⟨w.heap.size, 7, none⟩) (by simp) (.slice o2 n n)).set 0 (.int .u16 b)).set 1 (.string env)).set 2 (.int .u64 fe)).set 3 (.int .u64 ov)).set 4 (.int .u64 ms)).set 5 (.bool mn)).set 6 (.bool rn)).set 7 (.slice o2 n n))
  have k0 : (((((((((w1.setCell ⟨w.heap.size, 7, none⟩ (.slice o2 n n)).setCell ⟨w.heap.size + 1, 0, none⟩ (.int .u16 b)).setCell ⟨w.heap.size + 1, 1, none⟩ (.string env)).setCell ⟨w.heap.size + 1, 2, none⟩ (.int .u64 fe)).setCell ⟨w.heap.size + 1, 3, none⟩ (.int .u64 ov)).setCell ⟨w.heap.size + 1, 4, none⟩ (.int .u64 ms)).setCell ⟨w.heap.size + 1, 5, none⟩ (.bool mn)).setCell ⟨w.heap.size + 1, 6, none⟩ (.bool rn)).setCell ⟨w.heap.size + 1, 7, none⟩ (.slice o2 n n)).cell? ⟨w.heap.size + 1, 0, none⟩ = some (.int .u16 b) := hR.cell (i := 0) (by omega)
  have k1 : (((((((((w1.setCell ⟨w.heap.size, 7, none⟩ (.slice o2 n n)).setCell ⟨w.heap.size + 1, 0, none⟩ (.int .u16 b)).setCell ⟨w.heap.size + 1, 1, none⟩ (.string env)).setCell ⟨w.heap.size + 1, 2, none⟩ (.int .u64 fe)).setCell ⟨w.heap.size + 1, 3, none⟩ (.int .u64 ov)).setCell ⟨w.heap.size + 1, 4, none⟩ (.int .u64 ms)).setCell ⟨w.heap.size + 1, 5, none⟩ (.bool mn)).setCell ⟨w.heap.size + 1, 6, none⟩ (.bool rn)).setCell ⟨w.heap.size + 1, 7, none⟩ (.slice o2 n n)).cell? ⟨w.heap.size + 1, 1, none⟩ = some (.string env) := hR.cell (i := 1) (by omega)
  have k2 : (((((((((w1.setCell ⟨w.heap.size, 7, none⟩ (.slice o2 n n)).setCell ⟨w.heap.size + 1, 0, none⟩ (.int .u16 b)).setCell ⟨w.heap.size + 1, 1, none⟩ (.string env)).setCell ⟨w.heap.size + 1, 2, none⟩ (.int .u64 fe)).setCell ⟨w.heap.size + 1, 3, none⟩ (.int .u64 ov)).setCell ⟨w.heap.size + 1, 4, none⟩ (.int .u64 ms)).setCell ⟨w.heap.size + 1, 5, none⟩ (.bool mn)).setCell ⟨w.heap.size + 1, 6, none⟩ (.bool rn)).setCell ⟨w.heap.size + 1, 7, none⟩ (.slice o2 n n)).cell? ⟨w.heap.size + 1, 2, none⟩ = some (.int .u64 fe) := hR.cell (i := 2) (by omega)
  have k3 : (((((((((w1.setCell ⟨w.heap.size, 7, none⟩ (.slice o2 n n)).setCell ⟨w.heap.size + 1, 0, none⟩ (.int .u16 b)).setCell ⟨w.heap.size + 1, 1, none⟩ (.string env)).setCell ⟨w.heap.size + 1, 2, none⟩ (.int .u64 fe)).setCell ⟨w.heap.size + 1, 3, none⟩ (.int .u64 ov)).setCell ⟨w.heap.size + 1, 4, none⟩ (.int .u64 ms)).setCell ⟨w.heap.size + 1, 5, none⟩ (.bool mn)).setCell ⟨w.heap.size + 1, 6, none⟩ (.bool rn)).setCell ⟨w.heap.size + 1, 7, none⟩ (.slice o2 n n)).cell? ⟨w.heap.size + 1, 3, none⟩ = some (.int .u64 ov) := hR.cell (i := 3) (by omega)
  have k4 : (((((((((w1.setCell ⟨w.heap.size, 7, none⟩ (.slice o2 n n)).setCell ⟨w.heap.size + 1, 0, none⟩ (.int .u16 b)).setCell ⟨w.heap.size + 1, 1, none⟩ (.string env)).setCell ⟨w.heap.size + 1, 2, none⟩ (.int .u64 fe)).setCell ⟨w.heap.size + 1, 3, none⟩ (.int .u64 ov)).setCell ⟨w.heap.size + 1, 4, none⟩ (.int .u64 ms)).setCell ⟨w.heap.size + 1, 5, none⟩ (.bool mn)).setCell ⟨w.heap.size + 1, 6, none⟩ (.bool rn)).setCell ⟨w.heap.size + 1, 7, none⟩ (.slice o2 n n)).cell? ⟨w.heap.size + 1, 4, none⟩ = some (.int .u64 ms) := hR.cell (i := 4) (by omega)
  have k5 : (((((((((w1.setCell ⟨w.heap.size, 7, none⟩ (.slice o2 n n)).setCell ⟨w.heap.size + 1, 0, none⟩ (.int .u16 b)).setCell ⟨w.heap.size + 1, 1, none⟩ (.string env)).setCell ⟨w.heap.size + 1, 2, none⟩ (.int .u64 fe)).setCell ⟨w.heap.size + 1, 3, none⟩ (.int .u64 ov)).setCell ⟨w.heap.size + 1, 4, none⟩ (.int .u64 ms)).setCell ⟨w.heap.size + 1, 5, none⟩ (.bool mn)).setCell ⟨w.heap.size + 1, 6, none⟩ (.bool rn)).setCell ⟨w.heap.size + 1, 7, none⟩ (.slice o2 n n)).cell? ⟨w.heap.size + 1, 5, none⟩ = some (.bool mn) := hR.cell (i := 5) (by omega)
  have k6 : (((((((((w1.setCell ⟨w.heap.size, 7, none⟩ (.slice o2 n n)).setCell ⟨w.heap.size + 1, 0, none⟩ (.int .u16 b)).setCell ⟨w.heap.size + 1, 1, none⟩ (.string env)).setCell ⟨w.heap.size + 1, 2, none⟩ (.int .u64 fe)).setCell ⟨w.heap.size + 1, 3, none⟩ (.int .u64 ov)).setCell ⟨w.heap.size + 1, 4, none⟩ (.int .u64 ms)).setCell ⟨w.heap.size + 1, 5, none⟩ (.bool mn)).setCell ⟨w.heap.size + 1, 6, none⟩ (.bool rn)).setCell ⟨w.heap.size + 1, 7, none⟩ (.slice o2 n n)).cell? ⟨w.heap.size + 1, 6, none⟩ = some (.bool rn) := hR.cell (i := 6) (by omega)
  have k7 : (((((((((w1.setCell ⟨w.heap.size, 7, none⟩ (.slice o2 n n)).setCell ⟨w.heap.size + 1, 0, none⟩ (.int .u16 b)).setCell ⟨w.heap.size + 1, 1, none⟩ (.string env)).setCell ⟨w.heap.size + 1, 2, none⟩ (.int .u64 fe)).setCell ⟨w.heap.size + 1, 3, none⟩ (.int .u64 ov)).setCell ⟨w.heap.size + 1, 4, none⟩ (.int .u64 ms)).setCell ⟨w.heap.size + 1, 5, none⟩ (.bool mn)).setCell ⟨w.heap.size + 1, 6, none⟩ (.bool rn)).setCell ⟨w.heap.size + 1, 7, none⟩ (.slice o2 n n)).cell? ⟨w.heap.size + 1, 7, none⟩ = some (.slice o2 n n) := hR.cell (i := 7) (by omega)
  have hLL := L1.keep (w' := (((((((((w1.setCell ⟨w.heap.size, 7, none⟩ (.slice o2 n n)).setCell ⟨w.heap.size + 1, 0, none⟩ (.int .u16 b)).setCell ⟨w.heap.size + 1, 1, none⟩ (.string env)).setCell ⟨w.heap.size + 1, 2, none⟩ (.int .u64 fe)).setCell ⟨w.heap.size + 1, 3, none⟩ (.int .u64 ov)).setCell ⟨w.heap.size + 1, 4, none⟩ (.int .u64 ms)).setCell ⟨w.heap.size + 1, 5, none⟩ (.bool mn)).setCell ⟨w.heap.size + 1, 6, none⟩ (.bool rn)).setCell ⟨w.heap.size + 1, 7, none⟩ (.slice o2 n n))) hbb.size (fun b h1 h2 => but_sets (by omega) (by omega))
  clear hR hr0 hr1 c0 c1 c2 c3 c4 c5 c6 c7 q7 y0 y1 y2 y3 y4 y5 y6 y7 z0 z1 z2 z3 z4 z5 z6 z7
  generalize (((((((((w1.setCell ⟨w.heap.size, 7, none⟩ (.slice o2 n n)).setCell ⟨w.heap.size + 1, 0, none⟩ (.int .u16 b)).setCell ⟨w.heap.size + 1, 1, none⟩ (.string env)).setCell ⟨w.heap.size + 1, 2, none⟩ (.int .u64 fe)).setCell ⟨w.heap.size + 1, 3, none⟩ (.int .u64 ov)).setCell ⟨w.heap.size + 1, 4, none⟩ (.int .u64 ms)).setCell ⟨w.heap.size + 1, 5, none⟩ (.bool mn)).setCell ⟨w.heap.size + 1, 6, none⟩ (.bool rn)).setCell ⟨w.heap.size + 1, 7, none⟩ (.slice o2 n n)) = wf at k0 k1 k2 k3 k4 k5 k6 k7 hbb hLL ⊢
  exact bodyPost_ret (v := .agg #[.int .u16 b, .string env, .int .u64 fe, .int .u64 ov, .int .u64 ms, .bool mn, .bool rn, .slice o2 n n]) (by simp [results, Try.results6, go_sem, k0, k1, k2, k3, k4, k5, k6, k7]) rfl ⟨o2, rfl, ⟨hLL.at_, hLL.nil, fun b off e => by have := hLL.ge b off e; omega⟩, hb0.trans ((B1.mono (by omega)).trans hbb)⟩
/-- Its answer is some number; one above 2^20 where the list is longer than 65536. -/
def SomeInt (n : Nat) (w : World) (e : Ending) (w' : World) : Prop := ∃ x : Int, e = .returned (.int .i64 x) ∧ (65536 < n → 1048576 < x) ∧ Below w.heap.size w w'
set_option maxHeartbeats 1000000 in
theorem bytes (b : Int) (env : ByteArray) (fe ov ms : Int) (mn rn : Bool) (o : Option Addr) (n cap : Nat) (f : Nat → ByteArray) (w : World) (hn : n ≤ maxLen) (hI : StrsAt w o n f) (hs : ∀ i, i < n → (f i).size ≤ maxLen) :
    Calls Try.prog 5 #[.agg #[.int .u16 b, .string env, .int .u64 fe, .int .u64 ov, .int .u64 ms, .bool mn, .bool rn, .slice o n cap]] w (SomeInt n w) := by
  unfold maxLen at hn
  rcases Nat.lt_or_ge 65536 n with hbig | hsm
  · go_enter Try.func5, Try.ntmps5
    go_wp2_with fail
    go_ret
    exact ⟨_, rfl, fun _ => by decide, (Below.refl _ _).alloc (Nat.le_refl _) _⟩
  · go_enter Try.func5, Try.ntmps5
    go_wp2_with fail
    have hb0 : Below w.heap.size w (w.alloc (.cells #[.int .u16 b, .string env, .int .u64 fe, .int .u64 ov, .int .u64 ms, .bool mn, .bool rn, .slice o n cap] 26)) := (Below.refl _ _).alloc (Nat.le_refl _) _
    have hr0 : (w.alloc (.cells #[.int .u16 b, .string env, .int .u64 fe, .int .u64 ov, .int .u64 ms, .bool mn, .bool rn, .slice o n cap] 26)).rowIs w.heap.size 26 8 (cfgC b env fe ov ms mn rn (.slice o n cap)) := cfg_row (heap_alloc_new _ _)
    generalize (w.alloc (.cells #[.int .u16 b, .string env, .int .u64 fe, .int .u64 ov, .int .u64 ms, .bool mn, .bool rn, .slice o n cap] 26)) = w0 at hb0 hr0 ⊢
    go_loopg [3, 4] n (fun gk t i wr => ∃ r : Nat, r ≤ n ∧ gk = n - r ∧ i = .int .i64 r ∧ (∃ x : Int, t = .int .i64 x) ∧ wr = w0)
    case atStart => exact ⟨0, Nat.zero_le _, rfl, rfl, ⟨_, rfl⟩, rfl⟩
    case round =>
      obtain ⟨r, hr, rfl, rfl, ⟨x, rfl⟩, rfl⟩ := hrel
      have c7 : wr.cell? ⟨w.heap.size, 7, none⟩ = some (.slice o n cap) := hr0.cell (i := 7) (by omega)
      replace hr0 := Lib.hid hr0
      rcases Nat.lt_or_ge r n with hlt | hge
      · have hIw := hI.below hb0
        rcases hIw with h0 | ⟨bb, off, he, hbb, hc⟩
        · omega
        · subst he
          have g2 := hc r hlt
          have hsz := hs r hlt
          unfold maxLen at hsz
          replace hI := Lib.hid hI
          replace hs := Lib.hid hs
          clear hc
          go_wp2_with fail
          all_goals first
            | (go_ret; exact ⟨_, rfl, fun h => by omega, hb0⟩)
            | (go_roundg (n - (r + 1))
               case measure => omega
               case rel => exact ⟨r + 1, by omega, rfl, rfl, ⟨_, rfl⟩, rfl⟩)
      · have hrn : n = r := by omega
        subst hrn
        replace hI := Lib.hid hI
        replace hs := Lib.hid hs
        go_wp2_with fail
        go_ret
        exact ⟨_, rfl, fun h => by omega, hb0⟩
end Go.Proofs.Ytimmcjjkfhambaa.Cfg
