/-
  The symbols, the parser and the small helpers of FnMaybeMarkPureIdempotentMonotone. No condition.
-/
import Derived.Test.YtihpdmoonddjmaaPure7
namespace Go.Proofs.Ytihpdmoonddjmaa.Pure
open Go.RowKit Go.Proofs.Ytihpdmoonddjmaa.Ints

structure Sym (w : World) (S : Nat) (nm : ByteArray) (k : Int) : Prop where
  s0 : w.cell? ⟨S, 0, none⟩ = some (.pointer none)
  s1 : w.cell? ⟨S, 1, none⟩ = some (.string nm)
  s2 : w.cell? ⟨S, 2, none⟩ = some (.int .u32 0)
  s3 : w.cell? ⟨S, 3, none⟩ = some (.int .u32 0)
  s4 : w.cell? ⟨S, 4, none⟩ = some (.int .u32 0)
  s5 : w.cell? ⟨S, 5, none⟩ = some (.int .u32 0)
  s6 : w.cell? ⟨S, 6, none⟩ = some (.int .u32 0)
  s7 : w.cell? ⟨S, 7, none⟩ = some (.int .u16 0)
  s8 : w.cell? ⟨S, 8, none⟩ = some (.int .u8 k)
  s9 : w.cell? ⟨S, 9, none⟩ = some (.int .u8 0)
theorem Sym.below {w w' : World} {S : Nat} {nm : ByteArray} {k : Int} (h : Sym w S nm k) (hB : Below w.heap.size w w') : Sym w' S nm k :=
  ⟨bC hB h.s0, bC hB h.s1, bC hB h.s2, bC hB h.s3, bC hB h.s4, bC hB h.s5, bC hB h.s6, bC hB h.s7, bC hB h.s8, bC hB h.s9⟩
def Ctor (nm : ByteArray) (k : Int) (w : World) (e : Ending) (w' : World) : Prop := ∃ S, e = .returned (.slice (some ⟨S, 0, none⟩) 1 1) ∧ w.heap.size ≤ S ∧ Sym w' S nm k ∧ Below w.heap.size w w'
set_option maxRecDepth 100000 in
set_option maxHeartbeats 1000000 in
theorem ctor (u : Bool) (nm : ByteArray) (w : World) : Calls Try.prog 27 #[.bool u, .string nm] w (Ctor nm (cond u 0 27) w) := by
  cases u
  all_goals
    go_enter Try.func27, Try.ntmps27
    go_wp2
    go_ret
    exact ⟨_, rfl, Nat.le_refl _, ⟨by go_simp, by go_simp, by go_simp, by go_simp, by go_simp, by go_simp, by go_simp, by go_simp, by go_simp, by go_simp⟩, (Below.refl _ _).alloc (Nat.le_refl _) _⟩
def Pars (s : Value) (w : World) (e : Ending) (w' : World) : Prop := ∃ P, e = .returned (.pointer (some ⟨P, 0, none⟩)) ∧ w.heap.size ≤ P ∧ w'.cell? ⟨P, 106, none⟩ = some s ∧ Below w.heap.size w w'
theorem parser_cells (S : Nat) : ∃ C : Array Value, Try.prog.built 240 [(9, .slice (some ⟨S, 0, none⟩) 1 1)] = some C ∧ C.size = 353 ∧ C[106]? = some (.slice (some ⟨S, 0, none⟩) 1 1) := by
  have h1 : (Try.prog.built 240 [(9, .slice (some ⟨S, 0, none⟩) 1 1)]).isSome = true := by kernel_rfl
  obtain ⟨C, hC⟩ := Option.isSome_iff_exists.1 h1
  have h2 : (Try.prog.built 240 [(9, .slice (some ⟨S, 0, none⟩) 1 1)]).map (·.size) = some 353 := by kernel_rfl
  have h3 : (Try.prog.built 240 [(9, .slice (some ⟨S, 0, none⟩) 1 1)]).bind (·[106]?) = some (.slice (some ⟨S, 0, none⟩) 1 1) := by kernel_rfl
  rw [hC] at h2 h3
  exact ⟨C, hC, by simpa using h2, by simpa using h3⟩
set_option maxRecDepth 100000 in
set_option maxHeartbeats 1000000 in
theorem pars (S : Nat) (w : World) : Calls Try.prog 26 #[.slice (some ⟨S, 0, none⟩) 1 1] w (Pars (.slice (some ⟨S, 0, none⟩) 1 1) w) := by
  obtain ⟨C, hC, hsz, h106⟩ := parser_cells S
  replace hC := Lib.hid hC
  replace hsz := Lib.hid hsz
  replace h106 := Lib.hid h106
  go_enter Try.func26, Try.ntmps26
  go_wp2_with (refine Using.wpList_buildTo2 rfl 240 _ rfl _ rfl [(9, .slice (some ⟨S, 0, none⟩) 1 1)] (by kernel_rfl) C hC.out ?_)
  go_ret
  have e := h106.out
  exact ⟨_, rfl, Nat.le_refl _, by go_simp, (Below.refl _ _).alloc (Nat.le_refl _) _⟩
theorem asId (T : Nat) (w : World) : Calls Try.prog 29 #[.agg #[.iface 64 (.pointer (some ⟨T, 0, none⟩)), .int .i32 0]] w fun e w' => e = .returned (.pointer (some ⟨T, 0, none⟩)) ∧ Below w.heap.size w w' := by
  have h64 := ta_EIdentifier
  go_enter Try.func29, Try.ntmps29
  go_wp2
  go_ret
  exact ⟨rfl, (Below.refl _ _).alloc (Nat.le_refl _) _⟩
theorem syms (P : Nat) (s : Value) (w : World) (h : w.cell? ⟨P, 106, none⟩ = some s) : Calls Try.prog 30 #[.pointer (some ⟨P, 0, none⟩)] w fun e w' => e = .returned s ∧ w = w' := by
  go_enter Try.func30, Try.ntmps30
  go_wp2
  go_ret
  exact ⟨rfl, rfl⟩
theorem zzMark (x : Fix) (q : Bool) (h : ∀ (f : Bool) (w : World), Nw x f w → Calls Try.prog 47 #[.pointer (some ⟨x.P, 0, none⟩), .pointer (some ⟨x.E, 0, none⟩)] w (Mk x q w)) (f : Bool) (w : World) (hN : Nw x f w) :
    Calls Try.prog 28 #[.pointer (some ⟨x.P, 0, none⟩), .pointer (some ⟨x.E, 0, none⟩)] w (Mk x q w) := by
  have hq := h f w hN
  clear hN h
  go_enter Try.func28, Try.ntmps28
  go_wp2_with fail
  go_at_call 47
  refine hq.mono ?_
  rintro e w' ⟨rfl, W, hB, hw⟩
  replace hw := Lib.hid hw
  go_wp2_with fail
  go_end0
  exact ⟨rfl, W, hB, hw.out⟩
def SomeBool (w : World) (e : Ending) (w' : World) : Prop := ∃ r : Bool, e = .returned (.bool r) ∧ w = w'
theorem bytes (x y : Value) (nm : ByteArray) (o1 o2 : Option Addr) (n1 n2 c1 c2 : Nat) (w : World) (m0 : nm.size ≤ maxLen) (m1 : n1 ≤ maxLen) (m2 : n2 ≤ maxLen) :
    Calls Try.prog 24 #[x, y, .string nm, .slice o1 n1 c1, .slice o2 n2 c2] w (SomeBool w) := by
  unfold maxLen at m0 m1 m2
  go_enter Try.func24, Try.ntmps24
  go_wp2
  all_goals
    go_ret
    exact ⟨_, rfl, rfl⟩
end Go.Proofs.Ytihpdmoonddjmaa.Pure
