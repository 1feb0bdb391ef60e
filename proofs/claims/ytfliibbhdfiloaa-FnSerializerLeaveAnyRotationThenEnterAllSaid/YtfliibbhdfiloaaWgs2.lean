/-
  sync.WaitGroup's Done and Wait in one goroutine, MakeSerializer, Enter, Leave. Condition: at most 65536 groups.
-/
import Derived.Test.YtfliibbhdfiloaaWgs
import Derived.Laws.Cover3
import Derived.Laws.MakeOwn
import Derived.RegionTactic
import Derived.ChangeAlike
import Derived.Deep.QuietTactic
import Derived.BigQuiet
import Derived.StillTailTactics
import Derived.IntWalk
namespace Go.Proofs.Ytfliibbhdfiloaa.Wgs
open Go.RowKit Go.Proofs.Ytfliibbhdfiloaa.Ints

theorem done (b i n : Nat) (w : World) (h : Wgr w b i n 4294967296) : Calls Try.prog 18 #[.pointer (some ⟨b, i * 2, none⟩)] w fun e w' => e = .returned (.tuple #[]) ∧ Put w b i n 0 w' := by
  go_enter Try.func18, Try.ntmps18
  go_wp2_with fail
  go_at_call 16
  refine (addNeg b i n w h).mono ?_
  rintro e w1 ⟨rfl, g⟩
  go_wp2_with fail
  go_end0
  exact ⟨rfl, g⟩
theorem load (b i n : Nat) (w : World) (x : Int) (h : Wgr w b i n x) : Calls Try.prog 29 #[.pointer (some ⟨b, i * 2, none⟩)] w fun e w' => e = .returned (.int .u64 x) ∧ w = w' := by
  have hload := run_call_load (P := Try.prog) (f := 40) Try.func40 (by kernel_rfl) (by kernel_rfl) (by kernel_rfl) .u64 (by kernel_rfl) h.state
  go_enter Try.func29, Try.ntmps29
  go_wp2_with fail
  go_ret
  exact ⟨rfl, rfl⟩
theorem acquire (a : Addr) (w : World) : (callFunc 33 #[.pointer (some a)]).run Try.prog w = .ok (.value (.tuple #[])) w := run_call_marked Try.func33 (by kernel_rfl) (by kernel_rfl) (by kernel_rfl) .acquire (by kernel_rfl) a w
set_option maxHeartbeats 2000000 in
theorem wait (b i n : Nat) (w : World) (h : Wgr w b i n 0) : Calls Try.prog 17 #[.pointer (some ⟨b, i * 2, none⟩)] w fun e w' => e = .returned (.tuple #[]) ∧ w = w' := by
  have c0 := h.state
  have hdis := disable
  have hen := enable
  have hacq := acquire
  have hcv0 := run_convert_to_unsafe (P := Try.prog) (w := w) Try.underlying52 Try.underlying54 (by kernel_rfl) c0
  go_enter Try.func17, Try.ntmps17
  go_wp2_with fail
  refine wp_loop_rounds 1 ?_
  rw [rounds_succ]
  go_wp2_with fail
  go_at_call 29
  refine (load b i n w 0 h).mono ?_
  rintro e w' ⟨rfl, rfl⟩
  go_wp2_with fail
  exact bodyPost_ret (results_none rfl _ _ _) rfl ⟨rfl, rfl⟩
/-- A row of n groups: group j reads x j. -/
def wrow (x : Nat → Int) : Nat → Value := fun k => if k % 2 = 0 then .int .u64 (x (k / 2)) else .int .u32 0
def upd (f : Nat → Int) (k : Nat) (x : Int) : Nat → Int := fun i => if i = k then x else f i
theorem wgr_of {w : World} {b n i : Nat} {x : Nat → Int} (h : w.rowIs b 45 (n * 2) (wrow x)) (hi : i < n) {y : Int} (e : x i = y) : Wgr w b i n y :=
  ⟨⟨_, h, by simp [wrow, e], by unfold wrow; rw [if_neg (by omega)]⟩, hi⟩
theorem row_put {w w' : World} {b n i : Nat} {x : Nat → Int} {y : Int} (h : w.rowIs b 45 (n * 2) (wrow x)) (g : Put w b i n y w') : w'.rowIs b 45 (n * 2) (wrow (upd x i y)) := by
  rw [g.1]
  refine (h.set (i * 2) _).congr fun k _ => ?_
  show (if k = i * 2 then Value.int .u64 y else wrow x k) = wrow (upd x i y) k
  unfold wrow upd
  by_cases e : k = i * 2
  · subst e
    rw [if_pos rfl, if_pos (by omega), if_pos (by omega)]
  · rw [if_neg e]
    by_cases h2 : k % 2 = 0
    · rw [if_pos h2, if_pos h2, if_neg (by omega)]
    · rw [if_neg h2, if_neg h2]
theorem Put.below {w w' : World} {B b i n : Nat} {y : Int} (g : Put w b i n y w') (hB : B ≤ b) : Below B w w' := by
  rw [g.1]; exact (Below.refl _ _).setCell (p := ⟨b, i * 2, none⟩) hB _
theorem Put.other {w w' : World} {b i n : Nat} {y : Int} (g : Put w b i n y w') : ∀ k, k ≠ b → w'.heap[k]? = w.heap[k]? := fun k hk => by
  rw [g.1]; exact Go.Deep.blk_setCell_other _ _ _ _ hk
theorem infoW : (Try.prog.info? 45).map (fun i => (i.zero, i.size, i.bytes)) = some (some (.agg #[.int .u64 0, .int .u32 0]), 2, 16) := by kernel_rfl
theorem run_make_rowN {P : Program} (t e : TypeId) (i : TypeInfo) (z : Value) (ht : P.underlying t = some (.slice e)) (hi : P.info? e = some i) (hz : i.zero = some z)
    (kl kc : IntKind) (n c : Nat) (hnc : n ≤ c) (hbytes : i.bytes * c ≤ 281474976710656) (h63 : c ≤ 9223372036854775807) (w : World) :
    (Instr.makeSlice t (.int kl (n : Int)) (.int kc (c : Int))).run P w = .ok (.slice (some ⟨w.heap.size, 0, none⟩) n c) (w.alloc (.cells (madeCells z.cells (c * i.size)) e)) := by
  have hb : (i.bytes : Int) * (c : Int) ≤ 281474976710656 := by
    have h : ((i.bytes * c : Nat) : Int) ≤ 281474976710656 := by omega
    rwa [Int.natCast_mul] at h
  have hr := run_make (P := P) w t e i z ht hi hz kl kc n c (by omega) (by omega) hb (by omega)
  simp only [Int.toNat_natCast] at hr
  exact hr
theorem makeW (n : Nat) (hn : n ≤ 65536) (w : World) : (Instr.makeSlice 22 (.int .i64 (n : Int)) (.int .i64 (n : Int))).run Try.prog w =
    .ok (.slice (some ⟨w.heap.size, 0, none⟩) n n) (w.alloc (.cells (madeCells #[.int .u64 0, .int .u32 0] (n * 2)) 45)) := by
  obtain ⟨i, hi, hz, hs, hb⟩ := info_parts infoW
  have := run_make_rowN (P := Try.prog) 22 45 i _ Try.underlying22 hi hz .i64 .i64 n n (Nat.le_refl _) (by rw [hb]; omega) (by omega) w
  rw [hs] at this
  exact this
theorem made_row (w : World) (n : Nat) : (w.alloc (.cells (madeCells #[.int .u64 0, .int .u32 0] (n * 2)) 45)).rowIs w.heap.size 45 (n * 2) (wrow fun _ => 0) := by
  have h := World.rowIs_alloc w (madeCells #[.int .u64 0, .int .u32 0] (n * 2)) 45 (wrow fun _ => 0) (fun i hi => by
    rw [size_madeCells] at hi
    have h3 : i % 2 = 0 ∨ i % 2 = 1 := by omega
    rcases h3 with h | h <;> simp [madeCells, hi, h, wrow])
  rw [size_madeCells] at h
  exact h
def ones (r : Nat) : Nat → Int := fun j => if j < r then 4294967296 else 0
theorem ones_succ (r : Nat) : upd (ones r) r 4294967296 = ones (r + 1) := by
  funext j
  unfold upd ones
  by_cases h : j = r
  · rw [if_pos h, if_pos (by omega)]
  · rw [if_neg h]
    by_cases h2 : j < r
    · rw [if_pos h2, if_pos (by omega)]
    · rw [if_neg h2, if_neg (by omega)]
def Made (n : Nat) (w : World) (e : Ending) (w' : World) : Prop := ∃ b, e = .returned (.agg #[.slice (some ⟨b, 0, none⟩) n n]) ∧ w.heap.size ≤ b ∧ Below w.heap.size w w' ∧ w'.rowIs b 45 (n * 2) (wrow (ones n))
set_option maxHeartbeats 1000000 in
theorem makeS (n : Nat) (hn : n ≤ 65536) (w : World) : Calls Try.prog 5 #[.int .i64 n] w (Made n w) := by
  have hmk := makeW n hn
  go_enter Try.func5, Try.ntmps5
  go_wp2_with fail
  clear hmk
  have hz : (w.alloc (.cells #[.slice none 0 0] 24)).heap.size = w.heap.size + 1 := by simp
  go_loopg [4] n (fun gk i wr => ∃ r : Nat, r ≤ n ∧ gk = n - r ∧ i = .int .i64 r ∧ Below (w.heap.size + 1) (w.alloc (.cells #[.slice none 0 0] 24)) wr ∧ wr.rowIs (w.heap.size + 1) 45 (n * 2) (wrow (ones r)))
  case atStart => exact ⟨0, Nat.zero_le _, rfl, rfl, (Below.refl _ _).alloc (by simp) _, by
    have := made_row (w.alloc (.cells #[.slice none 0 0] 24)) n
    rw [hz] at this
    exact this.congr fun k _ => by simp [wrow, ones]⟩
  case round =>
    obtain ⟨r, hr, rfl, rfl, hB, hR⟩ := hrel
    rcases Nat.lt_or_ge r n with hlt | hge
    · have hw := wgr_of hR hlt (y := 0) (by simp [ones])
      go_wp2_with fail
      go_at_call 16
      refine (addPos (w.heap.size + 1) r n wr hw).mono ?_
      rintro e w1 ⟨rfl, g⟩
      have hR2 := row_put hR g
      rw [ones_succ] at hR2
      have hB2 := hB.trans (g.below (Nat.le_refl _))
      clear hR hB hw g
      go_wp2_with fail
      go_roundg (n - (r + 1))
      case measure => omega
      case rel => exact ⟨r + 1, by omega, rfl, rfl, hB2, hR2⟩
    · have hrn : n = r := by omega
      subst hrn
      have hres : wr.rowIs w.heap.size 24 1 (fun _ => .slice none 0 0) := by
        refine World.rowIs.of_block (w := w.alloc (.cells #[.slice none 0 0] 24)) ⟨#[.slice none 0 0], heap_alloc_new _ _, rfl, fun i hi => ?_⟩ (hB.block _ (by omega))
        match i, hi with
        | 0, _ => rfl
      have g0 : wr.cell? ⟨w.heap.size, 0, none⟩ = some (.slice none 0 0) := hres.cell (i := 0) (by omega)
      have g1 := hres.frozen 0
      go_wp2_with fail
      have k0 : (wr.setCell ⟨w.heap.size, 0, none⟩ (.slice (some ⟨w.heap.size + 1, 0, none⟩) n n)).cell? ⟨w.heap.size, 0, none⟩ = some (.slice (some ⟨w.heap.size + 1, 0, none⟩) n n) := (hres.set 0 _).cell (i := 0) (by omega)
      have hB2 := hB.mono (B' := w.heap.size) (by omega)
      refine bodyPost_ret (v := .agg #[.slice (some ⟨w.heap.size + 1, 0, none⟩) n n]) (by simp [results, Try.results5, go_sem, k0]) rfl ⟨_, rfl, Nat.le_succ _, ((Below.refl _ _).alloc (Nat.le_refl _) _).trans (hB2.setCell (p := ⟨w.heap.size, 0, none⟩) (Nat.le_refl _) _), hR.setOther (a := ⟨w.heap.size, 0, none⟩) (by simp) _⟩
theorem enter0 (s : Addr) (x : Int) (hx : x ≤ 0) (w : World) : Calls Try.prog 6 #[.pointer (some s), .int .i64 x] w fun e w' => e = .returned (.tuple #[]) ∧ w = w' := by
  have hx2 : ¬ 0 < x := by omega
  go_enter Try.func6, Try.ntmps6
  go_wp2_with fail
  go_end0
  exact ⟨rfl, rfl⟩
theorem enter (S b i n : Nat) (w : World) (hn : n ≤ 65536) (hs : w.cell? ⟨S, 0, none⟩ = some (.slice (some ⟨b, 0, none⟩) n n)) (h : Wgr w b i n 0) :
    Calls Try.prog 6 #[.pointer (some ⟨S, 0, none⟩), .int .i64 ((i : Int) + 1)] w fun e w' => e = .returned (.tuple #[]) ∧ w = w' := by
  have hlt := h.lt
  have h1 : (0 : Int) < (i : Int) + 1 := by omega
  go_enter Try.func6, Try.ntmps6
  go_wp2_with fail
  go_at_call 17
  refine (wait b i n w h).mono ?_
  rintro e w' ⟨rfl, rfl⟩
  go_wp2_with fail
  go_end0
  exact ⟨rfl, rfl⟩
theorem leave (S b i n : Nat) (w : World) (hn : n ≤ 65536) (hs : w.cell? ⟨S, 0, none⟩ = some (.slice (some ⟨b, 0, none⟩) n n)) (h : Wgr w b i n 4294967296) :
    Calls Try.prog 7 #[.pointer (some ⟨S, 0, none⟩), .int .i64 i] w fun e w' => e = .returned (.tuple #[]) ∧ Put w b i n 0 w' := by
  have hlt := h.lt
  go_enter Try.func7, Try.ntmps7
  go_wp2_with fail
  go_at_call 18
  refine (done b i n w h).mono ?_
  rintro e w' ⟨rfl, g⟩
  go_wp2_with fail
  go_end0
  exact ⟨rfl, g⟩
end Go.Proofs.Ytfliibbhdfiloaa.Wgs
