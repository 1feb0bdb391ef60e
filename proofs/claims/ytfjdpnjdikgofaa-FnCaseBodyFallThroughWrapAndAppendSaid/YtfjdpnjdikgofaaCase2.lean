/-
  The list of statements that zzStmts builds out of codes, and the copy of the codes. Condition: at most 65536 codes.
-/
import Derived.Test.YtfjdpnjdikgofaaCase
namespace Go.Proofs.Ytfjdpnjdikgofaa.Case
open Go.RowKit Go.ChangeShapes Go.WideShapes Go.ChangeAt Go.Proofs.Ytfjdpnjdikgofaa.Ints

theorem copy_info : (Try.prog.info? 5).map (fun i => (i.zero, i.size, i.bytes)) = some (some (.int .u8 0), 1, 1) := by kernel_rfl
theorem copy_nilq (a : Option Addr) (l c : Nat) (w : World) : (binOp .eql 60 (.slice a l c) (.slice none 0 0)).run Try.prog w = .ok (.bool a.isNone) w := by
  simp [binOp, run_equal_slice_nil w 60 5 a l c Try.underlying60]
set_option maxHeartbeats 1000000 in
theorem copy_some (a : Addr) (n cap : Nat) (f : Nat → Int) (w : World) (hn : n ≤ 1048576) (hI : IntsAt .u8 w (some a) n f) :
    Calls Try.prog 37 #[.slice (some a) n cap] w fun e w' => e = .returned (.slice (some ⟨w.heap.size, 0, none⟩) n n) ∧ Filling w w' 5 .u8 n n f := by
  have hmk := run_make_row' (P := Try.prog) 60 5 (.int .u8 0) 1 Try.underlying60 copy_info rfl .i64 .i64 n (by omega) (by omega)
  have hnil := copy_nilq (some a) n cap
  go_enter Try.func37, Try.ntmps37
  go_wp2
  clear hmk
  go_loopg [4] n (fun g i wr => ∃ r : Nat, r ≤ n ∧ g = n - r ∧ i = .int .i64 r ∧ Filling w wr 5 .u8 n r f)
  case atStart => exact ⟨0, Nat.zero_le _, rfl, rfl, filling_start _ _ _ _ _⟩
  case round =>
    obtain ⟨r, hr, rfl, rfl, hF⟩ := hrel
    rcases Nat.lt_or_ge r n with hlt | hge
    · rcases hI with h0 | ⟨b, off, he, hb, hc⟩
      · omega
      · cases he
        have g2 : wr.cell? ⟨b, off + r, none⟩ = some (.int .u8 (f r)) := (hF.below.cell (by exact hb)).trans (hc r hlt)
        have g4 : wr.cell? ⟨w.heap.size, r, none⟩ = some (.int .u8 0) := by simpa [fillTo] using hF.row.cell hlt
        have g5 := hF.row.frozen r
        clear hc
        go_wp2
        go_roundg (n - (r + 1))
        case measure => omega
        case rel => exact ⟨r + 1, by omega, rfl, rfl, filling_step hF⟩
    · have hrn : r = n := by omega
      subst hrn
      clear hI
      go_wp2
      go_ret
      exact ⟨rfl, hF⟩
theorem copy_none (w : World) : Calls Try.prog 37 #[.slice none 0 0] w fun e w' => e = .returned (.slice none 0 0) ∧ w = w' := by
  have hnil := copy_nilq none 0 0
  go_enter Try.func37, Try.ntmps37
  go_wp2
  go_ret
  exact ⟨rfl, rfl⟩
def copy_Post (n : Nat) (f : Nat → Int) (w : World) (e : Ending) (w' : World) : Prop := ∃ o, e = .returned (.slice o n n) ∧ IntsAt .u8 w' o n f ∧ Below w.heap.size w w'
theorem copy (o : Option Addr) (n cap : Nat) (f : Nat → Int) (w : World) (hn : n ≤ 1048576) (hI : IntsAt .u8 w o n f) (h0 : o = none → n = 0 ∧ cap = 0) :
    Calls Try.prog 37 #[.slice o n cap] w (copy_Post n f w) := by
  cases o with
  | none =>
    obtain ⟨rfl, rfl⟩ := h0 rfl
    refine (copy_none w).mono ?_
    rintro e w' ⟨rfl, rfl⟩
    exact ⟨none, rfl, .inl rfl, Below.refl _ _⟩
  | some a =>
    refine (copy_some a n cap f w hn hI).mono ?_
    rintro e w' ⟨rfl, hF⟩
    exact ⟨_, rfl, ints_of_row (hF.row.congr fun i hi => by simp [fillTo, hi]), hF.below⟩


def Lf (t : TypeId) (w : World) (e : Ending) (w' : World) : Prop := ∃ B, e = .returned (.agg #[.iface t (.pointer (some ⟨B, 0, none⟩)), .int .i32 0]) ∧ w.heap.size ≤ B ∧ Below w.heap.size w w'
theorem sBreak (w : World) : Calls Try.prog 65 #[] w (Lf 324 w) := by
  go_enter Try.func65, Try.ntmps65
  go_wp2
  exact bodyPost_ret (v := .agg #[.iface 324 (.pointer (some ⟨w.heap.size + 1, 0, none⟩)), .int .i32 0]) (by simp [results, Try.results65, go_sem]) rfl ⟨_, rfl, by omega, ((Below.refl _ _).alloc (Nat.le_refl _) _).alloc (by simp) _⟩
theorem sContinue (w : World) : Calls Try.prog 66 #[] w (Lf 328 w) := by
  go_enter Try.func66, Try.ntmps66
  go_wp2
  exact bodyPost_ret (v := .agg #[.iface 328 (.pointer (some ⟨w.heap.size + 1, 0, none⟩)), .int .i32 0]) (by simp [results, Try.results66, go_sem]) rfl ⟨_, rfl, by omega, ((Below.refl _ _).alloc (Nat.le_refl _) _).alloc (by simp) _⟩
theorem sReturn (w : World) : Calls Try.prog 41 #[] w (Lf 273 w) := by
  go_enter Try.func41, Try.ntmps41
  go_wp2
  exact bodyPost_ret (v := .agg #[.iface 273 (.pointer (some ⟨w.heap.size + 1, 0, none⟩)), .int .i32 0]) (by simp [results, Try.results41, go_sem]) rfl ⟨_, rfl, by omega, ((Below.refl _ _).alloc (Nat.le_refl _) _).alloc (by simp) _⟩
theorem sThrow (w : World) : Calls Try.prog 67 #[] w (Lf 321 w) := by
  go_enter Try.func67, Try.ntmps67
  go_wp2
  exact bodyPost_ret (v := .agg #[.iface 321 (.pointer (some ⟨w.heap.size + 1, 0, none⟩)), .int .i32 0]) (by simp [results, Try.results67, go_sem]) rfl ⟨_, rfl, by omega, ((Below.refl _ _).alloc (Nat.le_refl _) _).alloc (by simp) _⟩
theorem sDebugger (w : World) : Calls Try.prog 68 #[] w (Lf 289 w) := by
  go_enter Try.func68, Try.ntmps68
  go_wp2
  exact bodyPost_ret (v := .agg #[.iface 289 (.pointer (some ⟨w.heap.size + 1, 0, none⟩)), .int .i32 0]) (by simp [results, Try.results68, go_sem]) rfl ⟨_, rfl, by omega, ((Below.refl _ _).alloc (Nat.le_refl _) _).alloc (by simp) _⟩
theorem sEmpty (w : World) : Calls Try.prog 42 #[] w (Lf 276 w) := by
  go_enter Try.func42, Try.ntmps42
  go_wp2
  exact bodyPost_ret (v := .agg #[.iface 276 (.pointer (some ⟨w.heap.size + 1, 0, none⟩)), .int .i32 0]) (by simp [results, Try.results42, go_sem]) rfl ⟨_, rfl, by omega, ((Below.refl _ _).alloc (Nat.le_refl _) _).alloc (by simp) _⟩
def Bk (s : Value) (w : World) (e : Ending) (w' : World) : Prop := ∃ B, w.heap.size ≤ B ∧ e = .returned (.agg #[.iface 270 (.pointer (some ⟨B, 0, none⟩)), .int .i32 0]) ∧ w'.cell? ⟨B, 0, none⟩ = some s ∧ Below w.heap.size w w'
theorem sBlock (o : Option Addr) (n c : Nat) (w : World) : Calls Try.prog 39 #[.slice o n c] w (Bk (.slice o n c) w) := by
  go_enter Try.func39, Try.ntmps39
  go_wp2
  exact bodyPost_ret (v := .agg #[.iface 270 (.pointer (some ⟨w.heap.size + 1, 0, none⟩)), .int .i32 0]) (by simp [results, Try.results39, go_sem]) rfl ⟨_, by omega, rfl, by go_simp, ((Below.refl _ _).alloc (Nat.le_refl _) _).alloc (by simp) _⟩
/-- A statement's value: what a list that ends with it answers; its blocks lie from lo on. -/
def Ends (w : World) (lo : Nat) (v : Value) (r : Bool) : Prop :=
  (∃ t B, v = .iface t (.pointer (some ⟨B, 0, none⟩)) ∧ Leaf t r) ∨ (∃ B, lo ≤ B ∧ v = .iface 270 (.pointer (some ⟨B, 0, none⟩)) ∧ w.cell? ⟨B, 0, none⟩ = some (.slice none 0 0) ∧ r = true) ∨
  (∃ B b B', lo ≤ B ∧ lo ≤ b ∧ v = .iface 270 (.pointer (some ⟨B, 0, none⟩)) ∧ w.cell? ⟨B, 0, none⟩ = some (.slice (some ⟨b, 0, none⟩) 1 1) ∧ w.cell? ⟨b, 0, none⟩ = some (.iface 324 (.pointer (some ⟨B', 0, none⟩))) ∧ r = false)
theorem Ends.shape {w : World} {lo : Nat} {v : Value} {r : Bool} (h : Ends w lo v r) : ∃ t B, v = .iface t (.pointer (some ⟨B, 0, none⟩)) := by
  rcases h with ⟨t, B, h, _⟩ | ⟨B, _, h, _⟩ | ⟨B, _, _, _, _, h, _⟩
  · exact ⟨_, _, h⟩
  · exact ⟨_, _, h⟩
  · exact ⟨_, _, h⟩
theorem Ends.keep {w w' : World} {lo : Nat} {v : Value} {r : Bool} (h : Ends w lo v r) (hk : ∀ b u, lo ≤ b → w.cell? ⟨b, 0, none⟩ = some u → w'.cell? ⟨b, 0, none⟩ = some u) : Ends w' lo v r := by
  rcases h with h | ⟨B, h1, h2, h3, h4⟩ | ⟨B, b, B', h1, h2, h3, h4, h5, h6⟩
  · exact .inl h
  · exact .inr (.inl ⟨B, h1, h2, hk _ _ h1 h3, h4⟩)
  · exact .inr (.inr ⟨B, b, B', h1, h2, h3, hk _ _ h1 h4, hk _ _ h2 h5, h6⟩)
theorem Ends.fall {w : World} {lo b n c : Nat} {v : Value} {r : Bool} (h : Ends w lo v r) (hn : n ≤ 65537) (hc : w.cell? ⟨b, n * 2, none⟩ = some v) : Fall 1 w (.slice (some ⟨b, 0, none⟩) (n + 1) c) r := by
  rcases h with ⟨t, B, rfl, hL⟩ | ⟨B, _, rfl, h3, rfl⟩ | ⟨B, b', B', _, _, rfl, h4, h5, rfl⟩
  · exact .inl (.inr ⟨b, n, c, t, B, rfl, hn, hc, hL⟩)
  · exact .inr ⟨b, n, c, B, _, rfl, hn, hc, h3, .inl ⟨_, _, rfl, rfl⟩⟩
  · exact .inr ⟨b, n, c, B, _, rfl, hn, hc, h4, .inr ⟨b', 0, 1, _, B', rfl, by omega, h5, .inl ⟨.inl rfl, rfl⟩⟩⟩
def codeB (c : Int) : Bool := decide (c % 8 = 0 ∨ c % 8 = 5 ∨ c % 8 = 7)
def Sm (c : Int) (w : World) (e : Ending) (w' : World) : Prop := ∃ v, e = .returned (.agg #[v, .int .i32 0]) ∧ Ends w' w.heap.size v (codeB c) ∧ Below w.heap.size w w'
set_option maxRecDepth 100000 in
set_option maxHeartbeats 2000000 in
theorem stmt (c : Int) (h0 : 0 ≤ c) (h1 : c < 256) (w : World) : Calls Try.prog 54 #[.int .u8 c] w (Sm c w) := by
  have hm : c % 8 = 0 ∨ c % 8 = 1 ∨ c % 8 = 2 ∨ c % 8 = 3 ∨ c % 8 = 4 ∨ c % 8 = 5 ∨ c % 8 = 6 ∨ c % 8 = 7 := by omega
  rcases hm with hm | hm | hm | hm | hm | hm | hm | hm
  · have hcb : codeB c = true := by unfold codeB; rw [hm]; rfl
    replace hcb := Lib.hid hcb
    go_enter Try.func54, Try.ntmps54
    go_wp2_with fail
    go_at_call 42
    refine (sEmpty _).mono ?_
    rintro e w1 ⟨B, rfl, hB, B1⟩
    have z0 := B1.size
    simp at z0
    have j0 : w1.cell? ⟨w.heap.size, 0, none⟩ = some .nilIface ∧ w1.frozen? ⟨w.heap.size, 0, none⟩ = false := ⟨(B1.cell (by simp)).trans (by go_simp), (B1.frozen (p := ⟨w.heap.size, 0, none⟩) (by simp)).trans (by go_simp)⟩
    have j1 : w1.cell? ⟨w.heap.size, 1, none⟩ = some (.int .i32 0) ∧ w1.frozen? ⟨w.heap.size, 1, none⟩ = false := ⟨(B1.cell (by simp)).trans (by go_simp), (B1.frozen (p := ⟨w.heap.size, 1, none⟩) (by simp)).trans (by go_simp)⟩
    have B2 : Below w.heap.size w w1 := ((Below.refl w.heap.size w).alloc (Nat.le_refl _) _).trans (B1.mono (by simp))
    obtain ⟨j00, j01⟩ := j0
    obtain ⟨j10, j11⟩ := j1
    clear B1
    go_wp2_with fail
    refine bodyPost_ret (v := .agg #[.iface 276 (.pointer (some ⟨B, 0, none⟩)), .int .i32 0]) (by simp [results, Try.results54, go_sem, j00, j10]) rfl ⟨_, rfl, ?_, (B2.setCell (Nat.le_refl _) _).setCell (Nat.le_refl _) _⟩
    rw [hcb.out]
    exact .inl ⟨_, B, rfl, .inr ⟨.inr rfl, rfl⟩⟩
  · have hcb : codeB c = false := by unfold codeB; rw [hm]; rfl
    replace hcb := Lib.hid hcb
    go_enter Try.func54, Try.ntmps54
    go_wp2_with fail
    go_at_call 65
    refine (sBreak _).mono ?_
    rintro e w1 ⟨B, rfl, hB, B1⟩
    have z0 := B1.size
    simp at z0
    have j0 : w1.cell? ⟨w.heap.size, 0, none⟩ = some .nilIface ∧ w1.frozen? ⟨w.heap.size, 0, none⟩ = false := ⟨(B1.cell (by simp)).trans (by go_simp), (B1.frozen (p := ⟨w.heap.size, 0, none⟩) (by simp)).trans (by go_simp)⟩
    have j1 : w1.cell? ⟨w.heap.size, 1, none⟩ = some (.int .i32 0) ∧ w1.frozen? ⟨w.heap.size, 1, none⟩ = false := ⟨(B1.cell (by simp)).trans (by go_simp), (B1.frozen (p := ⟨w.heap.size, 1, none⟩) (by simp)).trans (by go_simp)⟩
    have B2 : Below w.heap.size w w1 := ((Below.refl w.heap.size w).alloc (Nat.le_refl _) _).trans (B1.mono (by simp))
    obtain ⟨j00, j01⟩ := j0
    obtain ⟨j10, j11⟩ := j1
    clear B1
    go_wp2_with fail
    refine bodyPost_ret (v := .agg #[.iface 324 (.pointer (some ⟨B, 0, none⟩)), .int .i32 0]) (by simp [results, Try.results54, go_sem, j00, j10]) rfl ⟨_, rfl, ?_, (B2.setCell (Nat.le_refl _) _).setCell (Nat.le_refl _) _⟩
    rw [hcb.out]
    exact .inl ⟨_, B, rfl, .inl ⟨.inl rfl, rfl⟩⟩
  · have hcb : codeB c = false := by unfold codeB; rw [hm]; rfl
    replace hcb := Lib.hid hcb
    go_enter Try.func54, Try.ntmps54
    go_wp2_with fail
    go_at_call 66
    refine (sContinue _).mono ?_
    rintro e w1 ⟨B, rfl, hB, B1⟩
    have z0 := B1.size
    simp at z0
    have j0 : w1.cell? ⟨w.heap.size, 0, none⟩ = some .nilIface ∧ w1.frozen? ⟨w.heap.size, 0, none⟩ = false := ⟨(B1.cell (by simp)).trans (by go_simp), (B1.frozen (p := ⟨w.heap.size, 0, none⟩) (by simp)).trans (by go_simp)⟩
    have j1 : w1.cell? ⟨w.heap.size, 1, none⟩ = some (.int .i32 0) ∧ w1.frozen? ⟨w.heap.size, 1, none⟩ = false := ⟨(B1.cell (by simp)).trans (by go_simp), (B1.frozen (p := ⟨w.heap.size, 1, none⟩) (by simp)).trans (by go_simp)⟩
    have B2 : Below w.heap.size w w1 := ((Below.refl w.heap.size w).alloc (Nat.le_refl _) _).trans (B1.mono (by simp))
    obtain ⟨j00, j01⟩ := j0
    obtain ⟨j10, j11⟩ := j1
    clear B1
    go_wp2_with fail
    refine bodyPost_ret (v := .agg #[.iface 328 (.pointer (some ⟨B, 0, none⟩)), .int .i32 0]) (by simp [results, Try.results54, go_sem, j00, j10]) rfl ⟨_, rfl, ?_, (B2.setCell (Nat.le_refl _) _).setCell (Nat.le_refl _) _⟩
    rw [hcb.out]
    exact .inl ⟨_, B, rfl, .inl ⟨.inr (.inl rfl), rfl⟩⟩
  · have hcb : codeB c = false := by unfold codeB; rw [hm]; rfl
    replace hcb := Lib.hid hcb
    go_enter Try.func54, Try.ntmps54
    go_wp2_with fail
    go_at_call 41
    refine (sReturn _).mono ?_
    rintro e w1 ⟨B, rfl, hB, B1⟩
    have z0 := B1.size
    simp at z0
    have j0 : w1.cell? ⟨w.heap.size, 0, none⟩ = some .nilIface ∧ w1.frozen? ⟨w.heap.size, 0, none⟩ = false := ⟨(B1.cell (by simp)).trans (by go_simp), (B1.frozen (p := ⟨w.heap.size, 0, none⟩) (by simp)).trans (by go_simp)⟩
    have j1 : w1.cell? ⟨w.heap.size, 1, none⟩ = some (.int .i32 0) ∧ w1.frozen? ⟨w.heap.size, 1, none⟩ = false := ⟨(B1.cell (by simp)).trans (by go_simp), (B1.frozen (p := ⟨w.heap.size, 1, none⟩) (by simp)).trans (by go_simp)⟩
    have B2 : Below w.heap.size w w1 := ((Below.refl w.heap.size w).alloc (Nat.le_refl _) _).trans (B1.mono (by simp))
    obtain ⟨j00, j01⟩ := j0
    obtain ⟨j10, j11⟩ := j1
    clear B1
    go_wp2_with fail
    refine bodyPost_ret (v := .agg #[.iface 273 (.pointer (some ⟨B, 0, none⟩)), .int .i32 0]) (by simp [results, Try.results54, go_sem, j00, j10]) rfl ⟨_, rfl, ?_, (B2.setCell (Nat.le_refl _) _).setCell (Nat.le_refl _) _⟩
    rw [hcb.out]
    exact .inl ⟨_, B, rfl, .inl ⟨.inr (.inr (.inl rfl)), rfl⟩⟩
  · have hcb : codeB c = false := by unfold codeB; rw [hm]; rfl
    replace hcb := Lib.hid hcb
    go_enter Try.func54, Try.ntmps54
    go_wp2_with fail
    go_at_call 67
    refine (sThrow _).mono ?_
    rintro e w1 ⟨B, rfl, hB, B1⟩
    have z0 := B1.size
    simp at z0
    have j0 : w1.cell? ⟨w.heap.size, 0, none⟩ = some .nilIface ∧ w1.frozen? ⟨w.heap.size, 0, none⟩ = false := ⟨(B1.cell (by simp)).trans (by go_simp), (B1.frozen (p := ⟨w.heap.size, 0, none⟩) (by simp)).trans (by go_simp)⟩
    have j1 : w1.cell? ⟨w.heap.size, 1, none⟩ = some (.int .i32 0) ∧ w1.frozen? ⟨w.heap.size, 1, none⟩ = false := ⟨(B1.cell (by simp)).trans (by go_simp), (B1.frozen (p := ⟨w.heap.size, 1, none⟩) (by simp)).trans (by go_simp)⟩
    have B2 : Below w.heap.size w w1 := ((Below.refl w.heap.size w).alloc (Nat.le_refl _) _).trans (B1.mono (by simp))
    obtain ⟨j00, j01⟩ := j0
    obtain ⟨j10, j11⟩ := j1
    clear B1
    go_wp2_with fail
    refine bodyPost_ret (v := .agg #[.iface 321 (.pointer (some ⟨B, 0, none⟩)), .int .i32 0]) (by simp [results, Try.results54, go_sem, j00, j10]) rfl ⟨_, rfl, ?_, (B2.setCell (Nat.le_refl _) _).setCell (Nat.le_refl _) _⟩
    rw [hcb.out]
    exact .inl ⟨_, B, rfl, .inl ⟨.inr (.inr (.inr rfl)), rfl⟩⟩
  · have hcb : codeB c = true := by unfold codeB; rw [hm]; rfl
    replace hcb := Lib.hid hcb
    go_enter Try.func54, Try.ntmps54
    go_wp2_with fail
    go_at_call 68
    refine (sDebugger _).mono ?_
    rintro e w1 ⟨B, rfl, hB, B1⟩
    have z0 := B1.size
    simp at z0
    have j0 : w1.cell? ⟨w.heap.size, 0, none⟩ = some .nilIface ∧ w1.frozen? ⟨w.heap.size, 0, none⟩ = false := ⟨(B1.cell (by simp)).trans (by go_simp), (B1.frozen (p := ⟨w.heap.size, 0, none⟩) (by simp)).trans (by go_simp)⟩
    have j1 : w1.cell? ⟨w.heap.size, 1, none⟩ = some (.int .i32 0) ∧ w1.frozen? ⟨w.heap.size, 1, none⟩ = false := ⟨(B1.cell (by simp)).trans (by go_simp), (B1.frozen (p := ⟨w.heap.size, 1, none⟩) (by simp)).trans (by go_simp)⟩
    have B2 : Below w.heap.size w w1 := ((Below.refl w.heap.size w).alloc (Nat.le_refl _) _).trans (B1.mono (by simp))
    obtain ⟨j00, j01⟩ := j0
    obtain ⟨j10, j11⟩ := j1
    clear B1
    go_wp2_with fail
    refine bodyPost_ret (v := .agg #[.iface 289 (.pointer (some ⟨B, 0, none⟩)), .int .i32 0]) (by simp [results, Try.results54, go_sem, j00, j10]) rfl ⟨_, rfl, ?_, (B2.setCell (Nat.le_refl _) _).setCell (Nat.le_refl _) _⟩
    rw [hcb.out]
    exact .inl ⟨_, B, rfl, .inr ⟨.inl rfl, rfl⟩⟩
  · have hcb : codeB c = false := by unfold codeB; rw [hm]; rfl
    replace hcb := Lib.hid hcb
    go_enter Try.func54, Try.ntmps54
    go_wp2_with fail
    go_at_call 65
    refine (sBreak _).mono ?_
    rintro e w0 ⟨B', rfl, hB', B0⟩
    go_wp2_with fail
    go_at_call 39
    refine (sBlock _ _ _ _).mono ?_
    rintro e w1 ⟨B, hB, rfl, kB, B1⟩
    have zz := B0.size
    simp at zz
    have kb : w1.cell? ⟨w0.heap.size, 0, none⟩ = some (.iface 324 (.pointer (some ⟨B', 0, none⟩))) := (B1.cell (by simp)).trans (by go_simp)
    replace B1 := B0.trans ((((Below.refl w0.heap.size w0).alloc (Nat.le_refl _) _).trans (B1.mono (by simp))).mono B0.size)
    simp at hB
    have hBl : w.heap.size < B := by omega
    have hbl : w.heap.size < w0.heap.size := by omega
    clear B0
    have z0 := B1.size
    simp at z0
    have j0 : w1.cell? ⟨w.heap.size, 0, none⟩ = some .nilIface ∧ w1.frozen? ⟨w.heap.size, 0, none⟩ = false := ⟨(B1.cell (by simp)).trans (by go_simp), (B1.frozen (p := ⟨w.heap.size, 0, none⟩) (by simp)).trans (by go_simp)⟩
    have j1 : w1.cell? ⟨w.heap.size, 1, none⟩ = some (.int .i32 0) ∧ w1.frozen? ⟨w.heap.size, 1, none⟩ = false := ⟨(B1.cell (by simp)).trans (by go_simp), (B1.frozen (p := ⟨w.heap.size, 1, none⟩) (by simp)).trans (by go_simp)⟩
    have B2 : Below w.heap.size w w1 := ((Below.refl w.heap.size w).alloc (Nat.le_refl _) _).trans (B1.mono (by simp))
    obtain ⟨j00, j01⟩ := j0
    obtain ⟨j10, j11⟩ := j1
    clear B1
    have kp : ∀ b u v v', w.heap.size < b → w1.cell? ⟨b, 0, none⟩ = some u → ((w1.setCell ⟨w.heap.size, 0, none⟩ v).setCell ⟨w.heap.size, 1, none⟩ v').cell? ⟨b, 0, none⟩ = some u := fun b u v v' hb hu => by
      rw [World.cell?_setCell_other _ _ _ _ (fun e => by have := congrArg Addr.block e; simp at this; omega), World.cell?_setCell_other _ _ _ _ (fun e => by have := congrArg Addr.block e; simp at this; omega)]
      exact hu
    replace kp := Lib.hid kp
    go_wp2_with fail
    refine bodyPost_ret (v := .agg #[.iface 270 (.pointer (some ⟨B, 0, none⟩)), .int .i32 0]) (by simp [results, Try.results54, go_sem, j00, j10]) rfl ⟨_, rfl, ?_, (B2.setCell (Nat.le_refl _) _).setCell (Nat.le_refl _) _⟩
    rw [hcb.out]
    exact .inr (.inr ⟨B, w0.heap.size, _, by omega, by omega, rfl, kp.out _ _ _ _ hBl kB, kp.out _ _ _ _ hbl kb, rfl⟩)
  · have hcb : codeB c = true := by unfold codeB; rw [hm]; rfl
    replace hcb := Lib.hid hcb
    go_enter Try.func54, Try.ntmps54
    go_wp2_with fail
    go_at_call 39
    refine (sBlock _ _ _ _).mono ?_
    rintro e w1 ⟨B, hB, rfl, kB, B1⟩
    simp at hB
    have hBl : w.heap.size < B := by omega
    have z0 := B1.size
    simp at z0
    have j0 : w1.cell? ⟨w.heap.size, 0, none⟩ = some .nilIface ∧ w1.frozen? ⟨w.heap.size, 0, none⟩ = false := ⟨(B1.cell (by simp)).trans (by go_simp), (B1.frozen (p := ⟨w.heap.size, 0, none⟩) (by simp)).trans (by go_simp)⟩
    have j1 : w1.cell? ⟨w.heap.size, 1, none⟩ = some (.int .i32 0) ∧ w1.frozen? ⟨w.heap.size, 1, none⟩ = false := ⟨(B1.cell (by simp)).trans (by go_simp), (B1.frozen (p := ⟨w.heap.size, 1, none⟩) (by simp)).trans (by go_simp)⟩
    have B2 : Below w.heap.size w w1 := ((Below.refl w.heap.size w).alloc (Nat.le_refl _) _).trans (B1.mono (by simp))
    obtain ⟨j00, j01⟩ := j0
    obtain ⟨j10, j11⟩ := j1
    clear B1
    have kp : ∀ b u v v', w.heap.size < b → w1.cell? ⟨b, 0, none⟩ = some u → ((w1.setCell ⟨w.heap.size, 0, none⟩ v).setCell ⟨w.heap.size, 1, none⟩ v').cell? ⟨b, 0, none⟩ = some u := fun b u v v' hb hu => by
      rw [World.cell?_setCell_other _ _ _ _ (fun e => by have := congrArg Addr.block e; simp at this; omega), World.cell?_setCell_other _ _ _ _ (fun e => by have := congrArg Addr.block e; simp at this; omega)]
      exact hu
    replace kp := Lib.hid kp
    go_wp2_with fail
    refine bodyPost_ret (v := .agg #[.iface 270 (.pointer (some ⟨B, 0, none⟩)), .int .i32 0]) (by simp [results, Try.results54, go_sem, j00, j10]) rfl ⟨_, rfl, ?_, (B2.setCell (Nat.le_refl _) _).setCell (Nat.le_refl _) _⟩
    rw [hcb.out]
    exact .inr (.inl ⟨B, by omega, rfl, kp.out _ _ _ _ hBl kB, rfl⟩)
theorem infoS : (Try.prog.info? 35).map (fun i => (i.zero, i.size, i.bytes)) = some (some (.agg #[.nilIface, .int .i32 0]), 2, 24) := by kernel_rfl
theorem run_make_rowN {P : Program} (t e : TypeId) (i : TypeInfo) (z : Value) (ht : P.underlying t = some (.slice e)) (hi : P.info? e = some i) (hz : i.zero = some z)
    (kl kc : IntKind) (n c : Nat) (hnc : n ≤ c) (hbytes : i.bytes * c ≤ 281474976710656) (h63 : c ≤ 9223372036854775807) (w : World) :
    (Instr.makeSlice t (.int kl (n : Int)) (.int kc (c : Int))).run P w = .ok (.slice (some ⟨w.heap.size, 0, none⟩) n c) (w.alloc (.cells (madeCells z.cells (c * i.size)) e)) := by
  have hb : (i.bytes : Int) * (c : Int) ≤ 281474976710656 := by
    have h : ((i.bytes * c : Nat) : Int) ≤ 281474976710656 := by omega
    rwa [Int.natCast_mul] at h
  have hr := run_make (P := P) w t e i z ht hi hz kl kc n c (by omega) (by omega) hb (by omega)
  simp only [Int.toNat_natCast] at hr
  exact hr
def lastB (f : Nat → Int) (n : Nat) : Bool := if n = 0 then true else codeB (f (n - 1))
/-- A list that is being built: r statements are there; the last one answers as its code says. -/
structure Ls (w wr : World) (v : Value) (r : Nat) (f : Nat → Int) : Prop where
  below : Below w.heap.size w wr
  some_ : v ≠ .slice none 0 0
  own : ∃ xs, wr.ownsRow w.heap.size 35 2 v r xs ∧ (0 < r → ∃ ys x l lo, xs = ys ++ [x, .int .i32 l] ∧ Ends wr lo x (codeB (f (r - 1))))
theorem grown_of_below {a w : World} (h : Below a.heap.size a w) (row : Option Nat) : a.grownBy w row := ⟨h.os, h.tape, h.output, h.size, fun i hi _ => h.block i hi⟩
theorem Ls.append {w wr w1 w2 : World} {v v' x : Value} {r : Nat} {f : Nat → Int} {xs : List Value} (h : Ls w wr v r f) (B1 : Below wr.heap.size wr w1) (hE : Ends w1 wr.heap.size x (codeB (f r))) {o : Obj}
    (ho : w2.ownsRow w.heap.size 35 2 v' (r + 1) (xs ++ [x, .int .i32 0])) (hg : (w1.alloc o).grownBy w2 v.ownBlock) (hn : v' = .slice none 0 0 ↔ v = .slice none 0 0 ∧ 1 = 0) : Ls w w2 v' (r + 1) f := by
  obtain ⟨xs0, own, _⟩ := h.own
  have hB := h.below.trans (B1.mono h.below.size)
  have lt : ∀ k, v.ownBlock = some k → w.heap.size ≤ k ∧ k < wr.heap.size := own.lt
  refine ⟨(hB.alloc hB.size o).grown hg (hB.alloc hB.size o).size (fun k hk => (lt k hk).1), fun e => absurd (hn.1 e).2 (by decide), _, ho, fun _ => ⟨xs, x, 0, wr.heap.size, rfl, ?_⟩⟩
  refine hE.keep fun b u hb hu => ?_
  have hbl : b < w1.heap.size := lt_of_cell hu
  have h2 : (w1.alloc o).cell? ⟨b, 0, none⟩ = some u := (World.cell?_alloc_lt w1 o _ (by exact hbl)).trans hu
  rw [← h2]
  exact World.cell?_of_block (hg.block b (by simp; omega) (fun e => by have := (lt b e.symm).2; omega))
theorem Ls.fall {w wr : World} {v : Value} {r : Nat} {f : Nat → Int} (h : Ls w wr v r f) (hr : r ≤ 65537) : Fall 1 wr v (lastB f r) ∧ ∃ a c, v = .slice (some a) r c := by
  obtain ⟨xs, own, hl⟩ := h.own
  rcases own.2 with ⟨e, _⟩ | ⟨g, cap, cur, rfl, hb, hh, hle, _, hsz, htk⟩
  · exact absurd e h.some_
  · refine ⟨?_, _, _, rfl⟩
    cases r with
    | zero => exact .inl (.inl ⟨_, _, rfl, rfl⟩)
    | succ r =>
      obtain ⟨ys, x, l, lo, rfl, hE⟩ := hl (by omega)
      have hlen := own.1
      simp at hlen
      have hy : ys.length = r * 2 := by omega
      have hc := own.cells (g := g) rfl (r * 2) x (by rw [← hy]; simp)
      rw [add_plain, Nat.zero_add] at hc
      exact hE.fall (by omega) hc
def Lst (n : Nat) (f : Nat → Int) (w : World) (e : Ending) (w' : World) : Prop := ∃ v, e = .returned v ∧ Ls w w' v n f
theorem two_new (wr : World) (x y : Value) (T : TypeId) : ∀ j u, ([x, y] : List Value)[j]? = some u → (wr.alloc (.cells #[x, y] T)).cell? ((⟨wr.heap.size, 0, none⟩ : Addr).add j) = some u := fun j u hu => by
  have hj : j = 0 ∨ j = 1 := by
    rcases Nat.lt_or_ge j 2 with h | h
    · omega
    · rw [List.getElem?_eq_none (by simp; omega)] at hu; cases hu
  rcases hj with rfl | rfl
  · cases hu; rw [add_plain]; go_simp
  · cases hu; rw [add_plain]; go_simp
theorem two_cell (t : TypeId) (a : Option Addr) (l : Int) : ∀ u ∈ ([.iface t (.pointer a), .int .i32 l] : List Value), u.oneCell' = true := fun u hu => by
  simp at hu
  rcases hu with rfl | rfl <;> rfl
set_option maxRecDepth 100000 in
set_option maxHeartbeats 2000000 in
theorem stmts (o : Option Addr) (n c x : Nat) (f : Nat → Int) (w : World) (hn : n ≤ 65536) (hx : x ≤ 1) (hI : IntsAt .u8 w o n f) (hf : ∀ i, i < n → 0 ≤ f i ∧ f i < 256) :
    Calls Try.prog 38 #[.slice o n c, .int .i64 x] w (Lst n f w) := by
  obtain ⟨i0, hi, hz0, hz1, hz2⟩ := info_parts infoS
  have hmk : ∀ w : World, (Instr.makeSlice 109 (.int .i64 0) (.int .i64 ((n : Int) + x))).run Try.prog w = .ok (.slice (some ⟨w.heap.size, 0, none⟩) 0 (n + x)) (w.alloc (.cells (madeCells #[.nilIface, .int .i32 0] ((n + x) * 2)) 35)) := fun w => by
    have := run_make_rowN (P := Try.prog) 109 35 i0 _ Try.underlying109 hi hz0 .i64 .i64 0 (n + x) (Nat.zero_le _) (by rw [hz2]; omega) (by omega) w
    rw [hz1] at this
    rw [← Int.natCast_add]
    exact this
  replace hf := Lib.hid hf
  go_enter Try.func38, Try.ntmps38
  go_wp2_with fail
  clear hmk
  go_loopg [5, 6] n (fun gk u i wr => ∃ r : Nat, r ≤ n ∧ gk = n - r ∧ i = .int .i64 r ∧ Ls w wr u r f)
  case atStart => exact ⟨0, Nat.zero_le _, rfl, rfl, ⟨(Below.refl _ _).alloc (Nat.le_refl _) _, (fun h => by cases h), [], World.ownsRow_made w _ _ (Nat.le_refl _) (by simp only [maxLen]; omega) (by simp [size_madeCells]), fun h => absurd h (by omega)⟩⟩
  case round =>
    obtain ⟨r, hr, rfl, rfl, hC⟩ := hrel
    rcases Nat.lt_or_ge r n with hlt | hge
    · rcases hI with h0 | ⟨bb, off, he, hbb, hc⟩
      · omega
      · cases he
        obtain ⟨f0, f1⟩ := hf.out r hlt
        have g2 : wr.cell? ⟨bb, off + r, none⟩ = some (.int .u8 (f r)) := (hC.below.cell (by exact hbb)).trans (hc r hlt)
        clear hc
        go_wp2_with fail
        go_at_call 54
        refine (stmt _ f0 f1 _).mono ?_
        rintro e w1 ⟨v, rfl, hE, B1⟩
        obtain ⟨t, B, rfl⟩ := hE.shape
        obtain ⟨xs, own, _⟩ := hC.own
        have own1 := own.kept (grown_of_below B1 none) (by cases u5.ownBlock <;> simp)
        have hk1 : r + 1 ≤ maxLen := by simp only [maxLen]; omega
        have hk2 : (r + 1) * 24 ≤ 140737488355328 := by omega
        have hk3 : w.heap.size ≤ (w1.alloc (.cells #[.iface t (.pointer (some ⟨B, 0, none⟩)), .int .i32 0] 35)).heap.size := by have := hC.below.size; have := B1.size; simp; omega
        clear own g2
        go_wp2_with (at_builtin; refine wpList_append_own _ rfl (.tmp 18) (.tmp 24) _ rfl w.heap.size 35 i0 (.agg #[.nilIface, .int .i32 0]) 2 24 Try.underlying109 hi hz0 hz1 hz2 rfl (by omega) u5 r xs rfl (own1.alloc _) ⟨w1.heap.size, 0, none⟩ 1 1 [.iface t (.pointer (some ⟨B, 0, none⟩)), .int .i32 0] rfl rfl (two_new _ _ _ _) (two_cell _ _ _) hk1 hk2 hk3 ?_; intro v' w2 ho hg hn)
        have hC2 := hC.append B1 hE ho hg hn
        clear ho hg hn hk1 hk2 hk3 hC own1 hE B1
        go_wp2_with fail
        go_roundg (n - (r + 1))
        case measure => omega
        case rel => exact ⟨r + 1, by omega, rfl, rfl, hC2⟩
    · have hrn : r = n := by omega
      subst hrn
      clear hI
      go_wp2_with fail
      go_ret
      exact ⟨_, rfl, hC⟩
end Go.Proofs.Ytfjdpnjdikgofaa.Case
