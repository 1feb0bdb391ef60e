/-
  The node that zzBuildNew builds, the symbols and the parser: they lie as Nw says. Condition: at most 65536 codes each.
-/
import Derived.Test.YtihpdmoonddjmaaPure4
import Derived.Laws.MakeOwn
namespace Go.Proofs.Ytihpdmoonddjmaa.Pure
open Go.RowKit Go.Proofs.Ytihpdmoonddjmaa.Ints

def Item (w : World) (e : Ending) (w' : World) : Prop := ∃ t B, e = .returned (.agg #[.iface t (.pointer (some ⟨B, 0, none⟩)), .int .i32 0]) ∧ Below w.heap.size w w'
set_option maxRecDepth 100000 in
set_option maxHeartbeats 1000000 in
theorem makeItem (c : Int) (h0 : 0 ≤ c) (h1 : c < 256) (w : World) : Calls Try.prog 55 #[.int .u8 c] w (Item w) := by
  have hm : c % 3 = 0 ∨ c % 3 = 1 ∨ c % 3 = 2 := by omega
  rcases hm with hm | hm | hm
  · go_enter Try.func55, Try.ntmps55
    go_wp2
    exact bodyPost_ret (v := .agg #[.iface 307 (.pointer (some ⟨w.heap.size + 1, 0, none⟩)), .int .i32 0]) (by simp [results, Try.results55, go_sem]) rfl ⟨_, _, rfl, ((Below.refl _ _).alloc (Nat.le_refl _) _).alloc (by simp) _⟩
  · go_enter Try.func55, Try.ntmps55
    go_wp2
    exact bodyPost_ret (v := .agg #[.iface 64 (.pointer (some ⟨w.heap.size + 1, 0, none⟩)), .int .i32 0]) (by simp [results, Try.results55, go_sem]) rfl ⟨_, _, rfl, ((Below.refl _ _).alloc (Nat.le_refl _) _).alloc (by simp) _⟩
  · go_enter Try.func55, Try.ntmps55
    go_wp2
    exact bodyPost_ret (v := .agg #[.iface 301 (.pointer (some ⟨w.heap.size + 1, 0, none⟩)), .int .i32 0]) (by simp [results, Try.results55, go_sem]) rfl ⟨_, _, rfl, ((Below.refl _ _).alloc (Nat.le_refl _) _).alloc (by simp) _⟩
def Arg (s : Value) (w : World) (e : Ending) (w' : World) : Prop := ∃ t D, e = .returned (.agg #[.iface t (.pointer (some ⟨D, 0, none⟩)), .int .i32 0]) ∧ w.heap.size ≤ D ∧ Kind8 t ∧ (t = 307 → w'.cell? ⟨D, 0, none⟩ = some s) ∧ Below w.heap.size w w'
set_option maxRecDepth 100000 in
set_option maxHeartbeats 2000000 in
theorem makeArg (c : Int) (o : Option Addr) (m d : Nat) (h0 : 0 ≤ c) (h1 : c < 256) (w : World) : Calls Try.prog 46 #[.int .u8 c, .slice o m d] w (Arg (.slice o m d) w) := by
  have hm : c % 8 = 0 ∨ c % 8 = 1 ∨ c % 8 = 2 ∨ c % 8 = 3 ∨ c % 8 = 4 ∨ c % 8 = 5 ∨ c % 8 = 6 ∨ c % 8 = 7 := by omega
  rcases hm with hm | hm | hm | hm | hm | hm | hm | hm
  · go_enter Try.func46, Try.ntmps46
    go_wp2
    exact bodyPost_ret (v := .agg #[.iface 294 (.pointer (some ⟨w.heap.size + 1, 0, none⟩)), .int .i32 0]) (by simp [results, Try.results46, go_sem]) rfl ⟨_, _, rfl, by omega, by unfold Kind8; simp, fun h => absurd h (by decide), ((Below.refl _ _).alloc (Nat.le_refl _) _).alloc (by simp) _⟩
  · go_enter Try.func46, Try.ntmps46
    go_wp2
    exact bodyPost_ret (v := .agg #[.iface 296 (.pointer (some ⟨w.heap.size + 1, 0, none⟩)), .int .i32 0]) (by simp [results, Try.results46, go_sem]) rfl ⟨_, _, rfl, by omega, by unfold Kind8; simp, fun h => absurd h (by decide), ((Below.refl _ _).alloc (Nat.le_refl _) _).alloc (by simp) _⟩
  · go_enter Try.func46, Try.ntmps46
    go_wp2
    exact bodyPost_ret (v := .agg #[.iface 298 (.pointer (some ⟨w.heap.size + 1, 0, none⟩)), .int .i32 0]) (by simp [results, Try.results46, go_sem]) rfl ⟨_, _, rfl, by omega, by unfold Kind8; simp, fun h => absurd h (by decide), ((Below.refl _ _).alloc (Nat.le_refl _) _).alloc (by simp) _⟩
  · go_enter Try.func46, Try.ntmps46
    go_wp2
    exact bodyPost_ret (v := .agg #[.iface 301 (.pointer (some ⟨w.heap.size + 1, 0, none⟩)), .int .i32 0]) (by simp [results, Try.results46, go_sem]) rfl ⟨_, _, rfl, by omega, by unfold Kind8; simp, fun h => absurd h (by decide), ((Below.refl _ _).alloc (Nat.le_refl _) _).alloc (by simp) _⟩
  · go_enter Try.func46, Try.ntmps46
    go_wp2
    exact bodyPost_ret (v := .agg #[.iface 304 (.pointer (some ⟨w.heap.size + 1, 0, none⟩)), .int .i32 0]) (by simp [results, Try.results46, go_sem]) rfl ⟨_, _, rfl, by omega, by unfold Kind8; simp, fun h => absurd h (by decide), ((Below.refl _ _).alloc (Nat.le_refl _) _).alloc (by simp) _⟩
  · go_enter Try.func46, Try.ntmps46
    go_wp2
    exact bodyPost_ret (v := .agg #[.iface 307 (.pointer (some ⟨w.heap.size + 1, 0, none⟩)), .int .i32 0]) (by simp [results, Try.results46, go_sem]) rfl ⟨_, _, rfl, by omega, by unfold Kind8; simp, fun _ => by go_simp, ((Below.refl _ _).alloc (Nat.le_refl _) _).alloc (by simp) _⟩
  · go_enter Try.func46, Try.ntmps46
    go_wp2
    exact bodyPost_ret (v := .agg #[.iface 64 (.pointer (some ⟨w.heap.size + 1, 0, none⟩)), .int .i32 0]) (by simp [results, Try.results46, go_sem]) rfl ⟨_, _, rfl, by omega, by unfold Kind8; simp, fun h => absurd h (by decide), ((Below.refl _ _).alloc (Nat.le_refl _) _).alloc (by simp) _⟩
  · go_enter Try.func46, Try.ntmps46
    go_wp2
    exact bodyPost_ret (v := .agg #[.iface 310 (.pointer (some ⟨w.heap.size + 1, 0, none⟩)), .int .i32 0]) (by simp [results, Try.results46, go_sem]) rfl ⟨_, _, rfl, by omega, by unfold Kind8; simp, fun h => absurd h (by decide), ((Below.refl _ _).alloc (Nat.le_refl _) _).alloc (by simp) _⟩
theorem run_make_rowN {P : Program} (t e : TypeId) (i : TypeInfo) (z : Value) (ht : P.underlying t = some (.slice e)) (hi : P.info? e = some i) (hz : i.zero = some z)
    (kl kc : IntKind) (n c : Nat) (hnc : n ≤ c) (hbytes : i.bytes * c ≤ 281474976710656) (h63 : c ≤ 9223372036854775807) (w : World) :
    (Instr.makeSlice t (.int kl (n : Int)) (.int kc (c : Int))).run P w = .ok (.slice (some ⟨w.heap.size, 0, none⟩) n c) (w.alloc (.cells (madeCells z.cells (c * i.size)) e)) := by
  have hb : (i.bytes : Int) * (c : Int) ≤ 281474976710656 := by
    have h : ((i.bytes * c : Nat) : Int) ≤ 281474976710656 := by omega
    rwa [Int.natCast_mul] at h
  have hr := run_make (P := P) w t e i z ht hi hz kl kc n c (by omega) (by omega) hb (by omega)
  simp only [Int.toNat_natCast] at hr
  exact hr
theorem infoE : (Try.prog.info? 39).map (fun i => (i.zero, i.size, i.bytes)) = some (some (.agg #[.nilIface, .int .i32 0]), 2, 24) := by kernel_rfl
theorem mkE (n : Nat) (hn : n ≤ 65536) (w : World) : (Instr.makeSlice 73 (.int .i64 (n : Int)) (.int .i64 (n : Int))).run Try.prog w =
    .ok (.slice (some ⟨w.heap.size, 0, none⟩) n n) (w.alloc (.cells (madeCells #[.nilIface, .int .i32 0] (n * 2)) 39)) := by
  obtain ⟨i, hi, hz, hs, hb⟩ := info_parts infoE
  have := run_make_rowN (P := Try.prog) 73 39 i _ Try.underlying73 hi hz .i64 .i64 n n (Nat.le_refl _) (by rw [hb]; omega) (by omega) w
  rw [hs] at this
  exact this
end Go.Proofs.Ytihpdmoonddjmaa.Pure
