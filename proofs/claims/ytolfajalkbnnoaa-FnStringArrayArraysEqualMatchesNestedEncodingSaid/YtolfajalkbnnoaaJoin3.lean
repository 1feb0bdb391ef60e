/-
  helpers.Joiner: AddString and AddBytes of anything, Length, LastByte, EnsureNewlineAtEnd. Condition: at most 2^20 items and 2^21 bytes.
-/
import Derived.Test.YtolfajalkbnnoaaJoin2
import Derived.Deep.AppendLies
import Derived.Laws.OwnMore
namespace Go.Proofs.Ytolfajalkbnnoaa.Join
open Go.RowKit Go.ChangeShapes Go.WideShapes Go.ChangeAt Go.Proofs.Ytolfajalkbnnoaa.Ints

theorem list_nil {s : ByteArray} (h : s.size = 0) : s.data.toList = [] := List.eq_nil_of_length_eq_zero (by rw [Array.length_toList]; exact h)
theorem addSk (B J : Nat) (ss : List (ByteArray × Nat)) (bs : List Bt) (L : Nat) (c : Int) (w : World) (s : ByteArray) (h : Jn B w J ss bs L c) (hL : L + s.size ≤ 2097152) (hl : ss.length + 1 ≤ 1048576) :
    Calls Try.prog 10 #[.pointer (some ⟨J, 0, none⟩), .string s] w fun e w' => e = .returned (.tuple #[]) ∧ Jn B w' J (ss ++ [(s, L)]) bs (L + s.size) (lastV s.data.toList c) ∧ BK B J 53 w w' ∧ Hid (w'.cell? ⟨J, 1, none⟩ = w.cell? ⟨J, 1, none⟩) := by
  rcases Nat.eq_zero_or_pos s.size with h0 | h0
  · refine (addS0 B J ss bs L c w s h h0 hL hl).mono ?_
    rintro e w' ⟨rfl, g, b⟩
    refine ⟨rfl, ?_, b⟩
    rw [list_nil h0]
    exact g
  · exact addS1 B J ss bs L c w s h h0 hL hl
theorem addBk (B J : Nat) (ss : List (ByteArray × Nat)) (bs : List Bt) (L : Nat) (c : Int) (w : World) (o : Option Addr) (n cap : Nat) (l : List UInt8) (hd : BytesAt w o n l) (h : Jn B w J ss bs L c) (hL : L + n ≤ 2097152) (hl : bs.length + 1 ≤ 1048576) :
    Calls Try.prog 9 #[.pointer (some ⟨J, 0, none⟩), .slice o n cap] w fun e w' => e = .returned (.tuple #[]) ∧ Jn B w' J ss (bs ++ [⟨o, n, cap, L, l⟩]) (L + n) (lastV l c) ∧ BK B J 51 w w' ∧ Hid (w'.cell? ⟨J, 0, none⟩ = w.cell? ⟨J, 0, none⟩) := by
  rcases Nat.eq_zero_or_pos n with h0 | h0
  · subst h0
    refine (addB0 B J ss bs L c w o cap l hd h hL hl).mono ?_
    rintro e w' ⟨rfl, g, b⟩
    refine ⟨rfl, ?_, b⟩
    rw [List.eq_nil_of_length_eq_zero hd.1] at g ⊢
    exact g
  · have hd' := hd
    obtain ⟨_, h1 | ⟨bb, off, rfl, _⟩⟩ := hd'
    · omega
    · exact addB1 B J ss bs L c w bb off n cap l hd h h0 hL hl
theorem addS (B J : Nat) (ss : List (ByteArray × Nat)) (bs : List Bt) (L : Nat) (c : Int) (w : World) (s : ByteArray) (h : Jn B w J ss bs L c) (hL : L + s.size ≤ 2097152) (hl : ss.length + 1 ≤ 1048576) :
    Calls Try.prog 10 #[.pointer (some ⟨J, 0, none⟩), .string s] w fun e w' => e = .returned (.tuple #[]) ∧ Jn B w' J (ss ++ [(s, L)]) bs (L + s.size) (lastV s.data.toList c) ∧ Below B w w' := by
  refine (addSk B J ss bs L c w s h hL hl).mono ?_
  rintro e w' ⟨rfl, g, b, _⟩
  exact ⟨rfl, g, b.bel⟩
theorem addB (B J : Nat) (ss : List (ByteArray × Nat)) (bs : List Bt) (L : Nat) (c : Int) (w : World) (o : Option Addr) (n cap : Nat) (l : List UInt8) (hd : BytesAt w o n l) (h : Jn B w J ss bs L c) (hL : L + n ≤ 2097152) (hl : bs.length + 1 ≤ 1048576) :
    Calls Try.prog 9 #[.pointer (some ⟨J, 0, none⟩), .slice o n cap] w fun e w' => e = .returned (.tuple #[]) ∧ Jn B w' J ss (bs ++ [⟨o, n, cap, L, l⟩]) (L + n) (lastV l c) ∧ Below B w w' := by
  refine (addBk B J ss bs L c w o n cap l hd h hL hl).mono ?_
  rintro e w' ⟨rfl, g, b, _⟩
  exact ⟨rfl, g, b.bel⟩
theorem length (B J : Nat) (ss : List (ByteArray × Nat)) (bs : List Bt) (L : Nat) (c : Int) (w : World) (h : Jn B w J ss bs L c) : Calls Try.prog 11 #[.pointer (some ⟨J, 0, none⟩)] w fun e w' => e = .returned (.int .u32 L) ∧ w = w' := by
  obtain ⟨sl, bl, hC⟩ := h.ex
  have c2 : w.cell? ⟨J, 2, none⟩ = some (.int .u32 L) := hC.row.cell (i := 2) (by omega)
  go_enter Try.func11, Try.ntmps11
  go_wp2_with fail
  go_ret
  exact ⟨rfl, rfl⟩
theorem lastByte (B J : Nat) (ss : List (ByteArray × Nat)) (bs : List Bt) (L : Nat) (c : Int) (w : World) (h : Jn B w J ss bs L c) : Calls Try.prog 12 #[.pointer (some ⟨J, 0, none⟩)] w fun e w' => e = .returned (.int .u8 c) ∧ w = w' := by
  obtain ⟨sl, bl, hC⟩ := h.ex
  have c3 : w.cell? ⟨J, 3, none⟩ = some (.int .u8 c) := hC.row.cell (i := 3) (by omega)
  go_enter Try.func12, Try.ntmps12
  go_wp2_with fail
  go_ret
  exact ⟨rfl, rfl⟩
def nl : ByteArray := ⟨#[10]⟩
set_option maxHeartbeats 1000000 in
theorem ensureNo (B J : Nat) (ss : List (ByteArray × Nat)) (bs : List Bt) (L : Nat) (c : Int) (w : World) (h : Jn B w J ss bs L c) (hc : L = 0 ∨ c = 10) : Calls Try.prog 18 #[.pointer (some ⟨J, 0, none⟩)] w fun e w' => e = .returned (.tuple #[]) ∧ w = w' := by
  obtain ⟨sl, bl, hC⟩ := h.ex
  have c2 : w.cell? ⟨J, 2, none⟩ = some (.int .u32 L) := hC.row.cell (i := 2) (by omega)
  have c3 : w.cell? ⟨J, 3, none⟩ = some (.int .u8 c) := hC.row.cell (i := 3) (by omega)
  rcases Nat.eq_zero_or_pos L with h0 | h0
  · subst h0
    clear hc
    go_enter Try.func18, Try.ntmps18
    go_wp2_with fail
    go_end0
    exact ⟨rfl, rfl⟩
  · obtain rfl : c = 10 := by omega
    clear hc
    have hL2 := h.lL
    go_enter Try.func18, Try.ntmps18
    go_wp2_with fail
    go_end0
    exact ⟨rfl, rfl⟩
set_option maxHeartbeats 1000000 in
theorem ensureYes (B J : Nat) (ss : List (ByteArray × Nat)) (bs : List Bt) (L : Nat) (c : Int) (w : World) (h : Jn B w J ss bs L c) (h0 : 0 < L) (hc : c ≠ 10) (hL : L + 1 ≤ 2097152) (hl : ss.length + 1 ≤ 1048576) :
    Calls Try.prog 18 #[.pointer (some ⟨J, 0, none⟩)] w fun e w' => e = .returned (.tuple #[]) ∧ Jn B w' J (ss ++ [(nl, L)]) bs (L + 1) 10 ∧ Below B w w' := by
  obtain ⟨sl, bl, hC⟩ := h.ex
  have c2 : w.cell? ⟨J, 2, none⟩ = some (.int .u32 L) := hC.row.cell (i := 2) (by omega)
  have c3 : w.cell? ⟨J, 3, none⟩ = some (.int .u8 c) := hC.row.cell (i := 3) (by omega)
  go_enter Try.func18, Try.ntmps18
  go_wp2_with fail
  go_at_call 10
  refine (addS B J ss bs L c w nl h hL hl).mono ?_
  rintro e w' ⟨rfl, g, b⟩
  go_wp2_with fail
  go_end0
  exact ⟨rfl, g, b⟩
/-- One item laid over a buffer. -/
def put (buf : List UInt8) (it : List UInt8 × Nat) : List UInt8 := buf.take it.2 ++ it.1 ++ buf.drop (it.2 + it.1.length)
def absS (ss : List (ByteArray × Nat)) : List (List UInt8 × Nat) := ss.map fun p => (p.1.data.toList, p.2)
def absB (bs : List Bt) : List (List UInt8 × Nat) := bs.map fun p => (p.d, p.o)
def doneF (S T : List (List UInt8 × Nat)) (L : Nat) : List UInt8 :=
  match S, T with
  | [], [(d, _)] => d
  | S, T => T.foldl put (S.foldl put (List.replicate L 0))
set_option maxHeartbeats 4000000 in
theorem doneOne (B J : Nat) (x : Bt) (L : Nat) (c : Int) (w : World) (h : Jn B w J [] [x] L c) (hx : Hid (x.o = 0)) :
    Calls Try.prog 14 #[.pointer (some ⟨J, 0, none⟩)] w fun e w' => e = .returned (.slice x.a x.l x.c) ∧ w = w' := by
  obtain ⟨sl, bl, hC⟩ := h.ex
  obtain ⟨a, cc, rfl⟩ := slice_form hC.o1
  obtain ⟨g, c1, rfl, _, _⟩ := hC.o2.form (by simp)
  have c0 : w.cell? ⟨J, 0, none⟩ = some (.slice a 0 cc) := hC.row.cell (i := 0) (by omega)
  have e1 : w.cell? ⟨J, 1, none⟩ = some (.slice (some ⟨g, 0, none⟩) 1 c1) := hC.row.cell (i := 1) (by omega)
  have e2 : w.cell? ⟨g, 0, none⟩ = some (.slice x.a x.l x.c) := hC.o2.cellAt 0 (by simp)
  have e3 : w.cell? ⟨g, 1, none⟩ = some (.int .u32 0) := by
    have k := hC.o2.cellAt 1 (by simp)
    have k2 : (cellsB [x])[1]? = some (.int .u32 ((x.o : Nat) : Int)) := rfl
    rw [k2, hx.out] at k
    exact k
  clear hC
  go_enter Try.func14, Try.ntmps14
  go_wp2_with fail
  all_goals
    go_ret
    exact ⟨rfl, rfl⟩
end Go.Proofs.Ytolfajalkbnnoaa.Join
