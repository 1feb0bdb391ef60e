/-
  helpers.Joiner: AddBytes. Condition: at most 2^20 items and 2^21 bytes.
-/
import Derived.Test.YtolfajalkbnnoaaJoin
namespace Go.Proofs.Ytolfajalkbnnoaa.Join
open Go.RowKit Go.ChangeShapes Go.WideShapes Go.ChangeAt Go.Proofs.Ytolfajalkbnnoaa.Ints

theorem append_B {B J m n : Nat} {w : World} {f : Nat → Value} {sl bl : Value} {xs ys : List Value} {bs : List Bt} {v : Value} {L : Nat} (h : Core B w J f sl bl m n xs ys bs) :
    Hid (Core B (w.drew.alloc (.cells #[v, .int .u32 L] 51)) J f sl bl m n xs ys bs) :=
  Lib.hid (h.below ((Below.refl _ _).drew.alloc (by simp) _))
theorem BytesAt.set {w : World} {o : Option Addr} {n J j : Nat} {l : List UInt8} {f : Nat → Value} (h : BytesAt w o n l) (hr : w.rowIs J 30 4 f) (v : Value) : BytesAt (w.setCell ⟨J, j, none⟩ v) o n l := by
  obtain ⟨c, hc, _⟩ := hr
  exact h.keep (fun b cur fr hb => Go.Deep.blk_setCell_other _ _ _ _ (cells_ne hb hc (by decide)))
theorem lastV_list (l : List UInt8) (c : Int) (n : Nat) (hl : l.length = n) (h : 0 < n) : lastV l c = ((l.getD (n - 1) 0).toNat : Int) := by
  unfold lastV
  have : l.getLast? = some (l.getD (n - 1) 0) := by
    rw [List.getLast?_eq_getElem?, hl, List.getElem?_eq_getElem (by omega)]
    simp [List.getD, show n - 1 < l.length by omega]
  rw [this]
set_option maxHeartbeats 4000000 in
theorem addB1 (B J : Nat) (ss : List (ByteArray × Nat)) (bs : List Bt) (L : Nat) (c : Int) (w : World) (bb off n cap : Nat) (l : List UInt8) (hd : BytesAt w (some ⟨bb, off, none⟩) n l) (h : Jn B w J ss bs L c) (hs : 0 < n) (hL : L + n ≤ 2097152) (hl : bs.length + 1 ≤ 1048576) :
    Calls Try.prog 9 #[.pointer (some ⟨J, 0, none⟩), .slice (some ⟨bb, off, none⟩) n cap] w fun e w' => e = .returned (.tuple #[]) ∧ Jn B w' J ss (bs ++ [⟨some ⟨bb, off, none⟩, n, cap, L, l⟩]) (L + n) (lastV l c) ∧ BK B J 51 w w' ∧ Hid (w'.cell? ⟨J, 0, none⟩ = w.cell? ⟨J, 0, none⟩) := by
  obtain ⟨i0, hi, hz0, hz1, hz2⟩ := info_parts infoB
  obtain ⟨sl, bl, hC⟩ := h.ex
  obtain ⟨a, cc, rfl⟩ := slice_form hC.o2
  have hcq := Lib.hid (hC.row.cell (i := 0) (by omega))
  have c0 : w.cell? ⟨J, 1, none⟩ = some (.slice a bs.length cc) := hC.row.cell (i := 1) (by omega)
  have c2 : w.cell? ⟨J, 2, none⟩ = some (.int .u32 L) := hC.row.cell (i := 2) (by omega)
  have c3 : w.cell? ⟨J, 3, none⟩ = some (.int .u8 c) := hC.row.cell (i := 3) (by omega)
  have f3 := hC.row.frozen 3
  have hmax : n ≤ 2097152 := by omega
  have hdl := hd
  obtain ⟨hll, hd0 | ⟨bb', off', he, hty, hcs⟩⟩ := hdl
  · omega
  cases he
  have e0 : ((n : Int) - 1).toNat = n - 1 := by omega
  have gl := hcs (n - 1) (by omega)
  have hlast := Lib.hid (lastV_list l c n hll hs)
  rw [← hlast.out] at gl
  clear hcs
  have i1 : (0 : Int) ≤ (n : Int) - 1 := by omega
  have i2 : (n : Int) - 1 < n := by omega
  go_enter Try.func9, Try.ntmps9
  go_wp2_with fail
  have hx2 := hd.set (j := 3) hC.row (.int .u8 (lastV l c))
  have hC2 := hC.set 3 (.int .u8 (lastV l c))
  have bel2 : BK B J 51 w (w.setCell ⟨J, 3, none⟩ (.int .u8 (lastV l c))) := (BK.refl _ _ _ _).setJ h.ge 3 _
  clear c0 c2 c3 f3 hC
  generalize (w.setCell ⟨J, 3, none⟩ (.int .u8 (lastV l c))) = wz at hC2 bel2 hx2 ⊢
  have c0 : wz.cell? ⟨J, 1, none⟩ = some (.slice a bs.length cc) := hC2.row.cell (i := 1) (by omega)
  have c2 : wz.cell? ⟨J, 2, none⟩ = some (.int .u32 L) := hC2.row.cell (i := 2) (by omega)
  have hJl : J < wz.heap.size := hC2.row.lt
  have hCA := append_B (v := .slice (some ⟨bb, off, none⟩) n cap) (L := L) hC2
  have hxA := Lib.hid (hx2.keep (w' := wz.drew.alloc (.cells #[.slice (some ⟨bb, off, none⟩) n cap, .int .u32 L] 51)) (fun b cur fr h1 => (Go.Deep.blk_alloc_lt wz.drew _ b (Array.getElem?_eq_some_iff.1 h1).1)))
  have hnews := Lib.hid (two_new wz.drew (.slice (some ⟨bb, off, none⟩) n cap) (.int .u32 L) 51 wz.heap.size rfl)
  have hone : Hid (∀ u ∈ ([.slice (some ⟨bb, off, none⟩) n cap, .int .u32 L] : List Value), u.oneCell' = true) := Lib.hid (fun u hu => by simp at hu; rcases hu with rfl | rfl <;> rfl)
  have hk1 : bs.length + 1 ≤ maxLen := by simp only [maxLen]; omega
  have hk2 : (bs.length + 1) * 32 ≤ 140737488355328 := by omega
  have hk3 : Hid (B ≤ (wz.drew.alloc (.cells #[.slice (some ⟨bb, off, none⟩) n cap, .int .u32 L] 51)).heap.size) := Lib.hid (by have := h.ge; simp; omega)
  have hbA : Hid (BK B J 51 w (wz.drew.alloc (.cells #[.slice (some ⟨bb, off, none⟩) n cap, .int .u32 L] 51))) := Lib.hid (bel2.drew.alloc (by have := h.ge; simp; omega) _)
  replace hC2 := Lib.hid hC2
  clear bel2
  go_region_law ((refine step_append_own rfl (.tmp 20) (.tmp 27) _ rfl B 51 i0 (.agg #[.slice none 0 0, .int .u32 0]) 2 32 Try.underlying27 hi hz0 hz1 hz2 rfl (by omega) (.slice a bs.length cc) bs.length (cellsB bs) rfl hCA.out.o2 ⟨wz.heap.size, 0, none⟩ 1 1 [.slice (some ⟨bb, off, none⟩) n cap, .int .u32 L] rfl rfl hnews.out hone.out hk1 hk2 hk3.out ?_; intro v' w1 ho hg hv; rw [cellsB_snoc bs ⟨some ⟨bb, off, none⟩, n, cap, L, l⟩] at ho; obtain ⟨a', c', rfl⟩ := slice_form ho; have hC3 := hCA.out.grow2 ho hg; have hx3 := hxA.out.keep (w' := w1) (fun b cur fr h1 => hg.block b (Array.getElem?_eq_some_iff.1 h1).1 (fun e => by obtain ⟨cur', h2⟩ := own_block hCA.out.o2 e.symm; exact cells_ne h1 h2 (by decide) rfl)); replace hx3 := Lib.hid hx3; have d0 := hC3.row.cell (i := 1) (by omega); have g0 := hC3.row.frozen 1; have hbW := Lib.hid (hbA.out.grown hg hk3.out hCA.out.o2); replace hC3 := Lib.hid hC3; clear ho hv hg))
  all_goals
    have hx4 := Lib.hid (hx3.out.set (j := 1) hC3.out.row (.slice a' (bs.length + 1) c'))
    have hC4 := hC3.out.set 1 (.slice a' (bs.length + 1) c')
    have hbX := Lib.hid (hbW.out.setJ h.ge 1 (.slice a' (bs.length + 1) c'))
    clear d0 g0 c0 c2 hJl hC2 hC3 hCA hnews hone hk1 hk2 hk3 hbA hbW hxA hx3
    generalize (w1.setCell ⟨J, 1, none⟩ (.slice a' (bs.length + 1) c')) = w2 at hC4 hbX hx4 ⊢
    have c2 : w2.cell? ⟨J, 2, none⟩ = some (.int .u32 L) := hC4.row.cell (i := 2) (by omega)
    have g2 := hC4.row.frozen 2
    have j0 : IntKind.u32.wrap (n : Int) = n := by simp [IntKind.wrap, IntKind.bits, IntKind.signed]; omega
    have j1 : IntKind.u32.wrap ((L : Int) + n) = (L : Int) + n := by simp [IntKind.wrap, IntKind.bits, IntKind.signed]; omega
    go_wp2_with fail
    go_end0
    exact ⟨rfl, jn_B (x := ⟨some ⟨bb, off, none⟩, n, cap, L, l⟩) h (hC4.set 2 (.int .u32 ((L : Int) + n))) (hx4.out.set (j := 2) hC4.row _) rfl (fun i hi => by
      match i, hi with
      | 0, _ | 1, _ | 2, _ | 3, _ => first | rfl | (show Value.int .u32 ((L : Int) + n) = .int .u32 ((L + n : Nat) : Int); rw [Int.natCast_add])) hL hl, hbX.out.setJ h.ge 2 _, Lib.hid ((cell_set (hC4.row.cell (i := 0) (by omega))).trans hcq.out.symm)⟩
set_option maxHeartbeats 4000000 in
theorem addB0 (B J : Nat) (ss : List (ByteArray × Nat)) (bs : List Bt) (L : Nat) (c : Int) (w : World) (o : Option Addr) (cap : Nat) (l : List UInt8) (hd : BytesAt w o 0 l) (h : Jn B w J ss bs L c) (hL : L ≤ 2097152) (hl : bs.length + 1 ≤ 1048576) :
    Calls Try.prog 9 #[.pointer (some ⟨J, 0, none⟩), .slice o 0 cap] w fun e w' => e = .returned (.tuple #[]) ∧ Jn B w' J ss (bs ++ [⟨o, 0, cap, L, l⟩]) L c ∧ BK B J 51 w w' ∧ Hid (w'.cell? ⟨J, 0, none⟩ = w.cell? ⟨J, 0, none⟩) := by
  obtain ⟨i0, hi, hz0, hz1, hz2⟩ := info_parts infoB
  obtain ⟨sl, bl, hC⟩ := h.ex
  obtain ⟨a, cc, rfl⟩ := slice_form hC.o2
  have hcq := Lib.hid (hC.row.cell (i := 0) (by omega))
  have c0 : w.cell? ⟨J, 1, none⟩ = some (.slice a bs.length cc) := hC.row.cell (i := 1) (by omega)
  have c2 : w.cell? ⟨J, 2, none⟩ = some (.int .u32 L) := hC.row.cell (i := 2) (by omega)
  have hJl : J < w.heap.size := hC.row.lt
  go_enter Try.func9, Try.ntmps9
  go_wp2_with fail
  have hx2 := hd
  have hC2 := hC
  have bel2 : BK B J 51 w w := BK.refl _ _ _ _
  clear hC
  have hCA := append_B (v := .slice o 0 cap) (L := L) hC2
  have hxA := Lib.hid (hx2.keep (w' := w.drew.alloc (.cells #[.slice o 0 cap, .int .u32 L] 51)) (fun b cur fr h1 => (Go.Deep.blk_alloc_lt w.drew _ b (Array.getElem?_eq_some_iff.1 h1).1)))
  have hnews := Lib.hid (two_new w.drew (.slice o 0 cap) (.int .u32 L) 51 w.heap.size rfl)
  have hone : Hid (∀ u ∈ ([.slice o 0 cap, .int .u32 L] : List Value), u.oneCell' = true) := Lib.hid (fun u hu => by simp at hu; rcases hu with rfl | rfl <;> rfl)
  have hk1 : bs.length + 1 ≤ maxLen := by simp only [maxLen]; omega
  have hk2 : (bs.length + 1) * 32 ≤ 140737488355328 := by omega
  have hk3 : Hid (B ≤ (w.drew.alloc (.cells #[.slice o 0 cap, .int .u32 L] 51)).heap.size) := Lib.hid (by have := h.ge; simp; omega)
  have hbA : Hid (BK B J 51 w (w.drew.alloc (.cells #[.slice o 0 cap, .int .u32 L] 51))) := Lib.hid (bel2.drew.alloc (by have := h.ge; simp; omega) _)
  replace hC2 := Lib.hid hC2
  clear bel2
  go_region_law ((refine step_append_own rfl (.tmp 20) (.tmp 27) _ rfl B 51 i0 (.agg #[.slice none 0 0, .int .u32 0]) 2 32 Try.underlying27 hi hz0 hz1 hz2 rfl (by omega) (.slice a bs.length cc) bs.length (cellsB bs) rfl hCA.out.o2 ⟨w.heap.size, 0, none⟩ 1 1 [.slice o 0 cap, .int .u32 L] rfl rfl hnews.out hone.out hk1 hk2 hk3.out ?_; intro v' w1 ho hg hv; rw [cellsB_snoc bs ⟨o, 0, cap, L, l⟩] at ho; obtain ⟨a', c', rfl⟩ := slice_form ho; have hC3 := hCA.out.grow2 ho hg; have hx3 := hxA.out.keep (w' := w1) (fun b cur fr h1 => hg.block b (Array.getElem?_eq_some_iff.1 h1).1 (fun e => by obtain ⟨cur', h2⟩ := own_block hCA.out.o2 e.symm; exact cells_ne h1 h2 (by decide) rfl)); replace hx3 := Lib.hid hx3; have d0 := hC3.row.cell (i := 1) (by omega); have g0 := hC3.row.frozen 1; have hbW := Lib.hid (hbA.out.grown hg hk3.out hCA.out.o2); replace hC3 := Lib.hid hC3; clear ho hv hg))
  all_goals
    have hx4 := Lib.hid (hx3.out.set (j := 1) hC3.out.row (.slice a' (bs.length + 1) c'))
    have hC4 := hC3.out.set 1 (.slice a' (bs.length + 1) c')
    have hbX := Lib.hid (hbW.out.setJ h.ge 1 (.slice a' (bs.length + 1) c'))
    clear d0 g0 c0 c2 hJl hC2 hC3 hCA hnews hone hk1 hk2 hk3 hbA hbW hxA hx3
    generalize (w1.setCell ⟨J, 1, none⟩ (.slice a' (bs.length + 1) c')) = w2 at hC4 hbX hx4 ⊢
    have c2 : w2.cell? ⟨J, 2, none⟩ = some (.int .u32 L) := hC4.row.cell (i := 2) (by omega)
    have g2 := hC4.row.frozen 2
    have j1 : IntKind.u32.wrap (L : Int) = (L : Int) := by simp [IntKind.wrap, IntKind.bits, IntKind.signed]; omega
    go_wp2_with fail
    go_end0
    exact ⟨rfl, jn_B (x := ⟨o, 0, cap, L, l⟩) h (hC4.set 2 (.int .u32 (L : Int))) (hx4.out.set (j := 2) hC4.row _) rfl (fun i hi => by
      match i, hi with
      | 0, _ | 1, _ | 2, _ | 3, _ => first | rfl | rfl) hL hl, hbX.out.setJ h.ge 2 _, Lib.hid ((cell_set (hC4.row.cell (i := 0) (by omega))).trans hcq.out.symm)⟩
end Go.Proofs.Ytolfajalkbnnoaa.Join
