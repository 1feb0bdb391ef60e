/-
  The closure that records a binding. Condition: lengths.
-/
import Derived.Test.YtdiedidmjpihjaaRlB
import Derived.Test.YtdiedidmjpihjaaTake
namespace Go.Proofs.Ytdiedidmjpihjaa.Rl
open Go.RowKit Go.ChangeShapes Go.WideShapes Go.ChangeAt Go.Proofs.Ytdiedidmjpihjaa.Ints

structure SC (Z P N : Nat) (l : Int) (x : Nat) (w : World) : Prop where
  c1 : w.cell? ⟨Z, 0, none⟩ = some (.pointer (some ⟨P, 0, none⟩))
  c2 : w.cell? ⟨N, 0, none⟩ = some (.int .i32 l)
  c3 : w.cell? ⟨N + 1, 0, none⟩ = some (.int .u32 0)
  c4 : w.cell? ⟨N + 1, 1, none⟩ = some (.int .u32 (x : Nat))
theorem SC.setP {Z P N j x : Nat} {l : Int} {w : World} {y : Value} (h : SC Z P N l x w) (hZ : Z ≠ P) (hN : N ≠ P) (hN1 : N + 1 ≠ P) : SC Z P N l x (w.setCell ⟨P, j, none⟩ y) :=
  ⟨(World.cell?_setCell_far _ _ _ _ (fun e => hZ e.symm)).trans h.c1, (World.cell?_setCell_far _ _ _ _ (fun e => hN e.symm)).trans h.c2, (World.cell?_setCell_far _ _ _ _ (fun e => hN1 e.symm)).trans h.c3, (World.cell?_setCell_far _ _ _ _ (fun e => hN1 e.symm)).trans h.c4⟩
theorem clo_fin0 {B P g n N k x : Nat} {l : Int} {F : Nat → Value} {U : Nat → Nat} {v : Value} {xs : List Value} {w w6 : World} {t : TypeId} {p : Value} {c : Array Value} (hN : w6.heap[N]? = some (.cells c 72 (0, 0)))
    (hP : Pa B P g n F (upd U x (U x + 1)) v (k + 1) (xs ++ [.int .i32 l, .int .u32 0, .int .u32 (x : Nat)]) w6) (hk : Ko B P g w w6) (hB : B ≤ w.heap.size) (hw : w.heap.size ≤ N) {a b : Value} :
    Clo B P g n U k xs x l w (.returned (.agg #[.iface t p, .int .i32 l])) ((w6.setCell ⟨N, 0, none⟩ a).setCell ⟨N, 1, none⟩ b) := by
  have h1 : Pa B P g n F (upd U x (U x + 1)) v (k + 1) (xs ++ [.int .i32 l, .int .u32 0, .int .u32 (x : Nat)]) (w6.setCell ⟨N, 0, none⟩ a) := hP.setOther hN (by decide) (by decide) (by decide)
  have hN1 : (w6.setCell ⟨N, 0, none⟩ a).heap[N]? = some (.cells (c.setIfInBounds 0 a) 72 (0, 0)) := heap_setCell_same w6 N 0 c _ a hN
  have h2 : Pa B P g n F (upd U x (U x + 1)) v (k + 1) (xs ++ [.int .i32 l, .int .u32 0, .int .u32 (x : Nat)]) ((w6.setCell ⟨N, 0, none⟩ a).setCell ⟨N, 1, none⟩ b) := h1.setOther hN1 (by decide) (by decide) (by decide)
  have hkp : ∀ (q : Nat) (cur : Array Value) (ty : TypeId) (fr : Nat × Nat), w.heap[q]? = some (.cells cur ty fr) → ty ≠ 47 → q ≠ P → q ≠ g → ((w6.setCell ⟨N, 0, none⟩ a).setCell ⟨N, 1, none⟩ b).heap[q]? = w.heap[q]? := by
    intro q cur ty fr hq h3 h4 h5
    have lq := (Array.getElem?_eq_some_iff.1 hq).1
    have e2 := hk.kp q cur ty fr hq h3 h4 h5
    rw [Go.Deep.blk_setCell_other _ _ _ _ (show q ≠ N by omega), Go.Deep.blk_setCell_other _ _ _ _ (show q ≠ N by omega)]
    exact e2
  exact ⟨_, _, F, v, rfl, h2, (hk.bel.setCell (p := ⟨N, 0, none⟩) (by show B ≤ N; omega) a).setCell (p := ⟨N, 1, none⟩) (by show B ≤ N; omega) b, hkp⟩
theorem two_set0 {w6 : World} {N : Nat} {x y a b : Value} {t : TypeId} (hN : w6.heap[N]? = some (.cells #[x, y] t (0, 0))) : ((w6.setCell ⟨N, 0, none⟩ a).setCell ⟨N, 1, none⟩ b).heap[N]? = some (.cells #[a, b] t (0, 0)) := by
  have h1 : (w6.setCell ⟨N, 0, none⟩ a).heap[N]? = some (.cells #[a, y] t (0, 0)) := heap_setCell_same w6 N 0 _ t a hN
  exact heap_setCell_same _ N 1 _ t b h1
theorem clo_fin {B P g n N k x : Nat} {l : Int} {F : Nat → Value} {U : Nat → Nat} {v : Value} {xs : List Value} {w w6 : World} {t : TypeId} {p : Value} {o : Obj} {c : Array Value} (hN : w6.heap[N]? = some (.cells c 72 (0, 0)))
    (hP : Pa B P g n F (upd U x (U x + 1)) v (k + 1) (xs ++ [.int .i32 l, .int .u32 0, .int .u32 (x : Nat)]) w6) (hk : Ko B P g w w6) (hB : B ≤ w.heap.size) (hw : w.heap.size ≤ N) {a b : Value} :
    Clo B P g n U k xs x l w (.returned (.agg #[.iface t p, .int .i32 l])) (((w6.setCell ⟨N, 0, none⟩ a).setCell ⟨N, 1, none⟩ b).alloc o) := by
  have h1 : Pa B P g n F (upd U x (U x + 1)) v (k + 1) (xs ++ [.int .i32 l, .int .u32 0, .int .u32 (x : Nat)]) (w6.setCell ⟨N, 0, none⟩ a) := hP.setOther hN (by decide) (by decide) (by decide)
  have hN1 : (w6.setCell ⟨N, 0, none⟩ a).heap[N]? = some (.cells (c.setIfInBounds 0 a) 72 (0, 0)) := heap_setCell_same w6 N 0 c _ a hN
  have h2 : Pa B P g n F (upd U x (U x + 1)) v (k + 1) (xs ++ [.int .i32 l, .int .u32 0, .int .u32 (x : Nat)]) ((w6.setCell ⟨N, 0, none⟩ a).setCell ⟨N, 1, none⟩ b) := h1.setOther hN1 (by decide) (by decide) (by decide)
  have b1 : Below w6.heap.size ((w6.setCell ⟨N, 0, none⟩ a).setCell ⟨N, 1, none⟩ b) (((w6.setCell ⟨N, 0, none⟩ a).setCell ⟨N, 1, none⟩ b).alloc o) := (Below.refl _ _).alloc (by simp) _
  have e1 : ((w6.setCell ⟨N, 0, none⟩ a).setCell ⟨N, 1, none⟩ b).heap.size = w6.heap.size := by simp
  have hkp : ∀ (q : Nat) (cur : Array Value) (ty : TypeId) (fr : Nat × Nat), w.heap[q]? = some (.cells cur ty fr) → ty ≠ 47 → q ≠ P → q ≠ g → (((w6.setCell ⟨N, 0, none⟩ a).setCell ⟨N, 1, none⟩ b).alloc o).heap[q]? = w.heap[q]? := by
    intro q cur ty fr hq h3 h4 h5
    have lq := (Array.getElem?_eq_some_iff.1 hq).1
    have e2 := hk.kp q cur ty fr hq h3 h4 h5
    have lq2 := (Array.getElem?_eq_some_iff.1 (e2.trans hq)).1
    rw [Below.heap_alloc _ _ _ (by simpa using lq2), Go.Deep.blk_setCell_other _ _ _ _ (show q ≠ N by omega), Go.Deep.blk_setCell_other _ _ _ _ (show q ≠ N by omega)]
    exact e2
  exact ⟨_, _, F, v, rfl, h2.below (e1 ▸ b1), ((hk.bel.setCell (p := ⟨N, 0, none⟩) (by show B ≤ N; omega) a).setCell (p := ⟨N, 1, none⟩) (by show B ≤ N; omega) b).alloc (by simp; exact Nat.le_trans hB hk.bel.size) _, hkp⟩
theorem two_set {w6 : World} {N : Nat} {x y a b : Value} {t : TypeId} {o : Obj} (hN : w6.heap[N]? = some (.cells #[x, y] t (0, 0))) : (((w6.setCell ⟨N, 0, none⟩ a).setCell ⟨N, 1, none⟩ b).alloc o).heap[N]? = some (.cells #[a, b] t (0, 0)) := by
  have h1 : (w6.setCell ⟨N, 0, none⟩ a).heap[N]? = some (.cells #[a, y] t (0, 0)) := heap_setCell_same w6 N 0 _ t a hN
  have h2 : ((w6.setCell ⟨N, 0, none⟩ a).setCell ⟨N, 1, none⟩ b).heap[N]? = some (.cells #[a, b] t (0, 0)) := heap_setCell_same _ N 1 _ t b h1
  exact (Below.heap_alloc _ _ _ (Array.getElem?_eq_some_iff.1 h2).1).trans h2
theorem Pa.anyF {B P g n k : Nat} {F : Nat → Value} {U : Nat → Nat} {v : Value} {xs : List Value} {w : World} (h : Pa B P g n F U v k xs w) : ∃ a c, v = .slice a k c := slice_form h.own
set_option maxRecDepth 100000 in
set_option maxHeartbeats 4000000 in
theorem clo (B P g n Z : Nat) (F : Nat → Value) (U : Nat → Nat) (v : Value) (k : Nat) (xs : List Value) (x : Nat) (l : Int) (w : World) (h : Pa B P g n F U v k xs w) (hx : x < n) (hn : n ≤ 65536) (hk : k ≤ 65536) (hU : U x ≤ 65536)
    (hZ : w.cell? ⟨Z, 0, none⟩ = some (.pointer (some ⟨P, 0, none⟩))) (hZP : Z ≠ P) (hZg : Z ≠ g) (hZt : ∃ c fr, w.heap[Z]? = some (.cells c 26 fr)) :
    Calls Try.prog 15 #[.agg #[.int .i32 l], .agg #[.int .u32 0, .int .u32 (x : Nat)], .pointer (some ⟨Z, 0, none⟩)] w (Clo B P g n U k xs x l w) := by
  obtain ⟨i0, hi, hz0, hz1, hz2⟩ := info_parts infoLR
  obtain ⟨a, cc, rfl⟩ := h.anyF
  obtain ⟨cz, frz, hzb⟩ := hZt
  have hBw : B ≤ w.heap.size := Nat.le_trans h.bp (Nat.le_of_lt h.lts.1)
  generalize hW0 : (((w.alloc (.cells #[.int .i32 l] 33)).alloc (.cells #[.int .u32 0, .int .u32 (x : Nat)] 45)).alloc (.cells #[.nilIface, .int .i32 0] 72)) = W
  have s0 : (w.alloc (.cells #[.int .i32 l] 33)).heap.size = w.heap.size + 1 := by simp
  have s1 : ((w.alloc (.cells #[.int .i32 l] 33)).alloc (.cells #[.int .u32 0, .int .u32 (x : Nat)] 45)).heap.size = w.heap.size + 1 + 1 := by simp
  have sW : W.heap.size = w.heap.size + 1 + 1 + 1 := by rw [← hW0]; simp
  have b0 : Below w.heap.size w W := hW0 ▸ b3 _ _ _ _
  have hb0 : W.heap[w.heap.size]? = some (.cells #[.int .i32 l] 33 (0, 0)) := by
    rw [← hW0, Below.heap_alloc _ _ _ (by omega), Below.heap_alloc _ _ _ (by omega)]
    exact heap_alloc_new _ _
  have hb1 : W.heap[w.heap.size + 1]? = some (.cells #[.int .u32 0, .int .u32 (x : Nat)] 45 (0, 0)) := by
    rw [← hW0, Below.heap_alloc _ _ _ (by omega), ← s0]
    exact heap_alloc_new _ _
  have hb2 : W.heap[w.heap.size + 1 + 1]? = some (.cells #[.nilIface, .int .i32 0] 72 (0, 0)) := by
    rw [← hW0, ← s1]
    exact heap_alloc_new _ _
  have hP := h.below b0
  have hzW : W.heap[Z]? = some (.cells cz 26 frz) := (b0.block Z (Array.getElem?_eq_some_iff.1 hzb).1).trans hzb
  have c1 : W.cell? ⟨Z, 0, none⟩ = some (.pointer (some ⟨P, 0, none⟩)) := (b0.cell (lt_of_cell hZ)).trans hZ
  have c2 : W.cell? ⟨P, 196, none⟩ = some (.slice a k cc) := h.f196 ▸ hP.row.cell (i := 196) (by omega)
  have c3 : W.cell? ⟨w.heap.size, 0, none⟩ = some (.int .i32 l) := cell_of_row _ _ 0 _ _ _ hb0
  have c4 : W.cell? ⟨w.heap.size + 1, 0, none⟩ = some (.int .u32 0) := cell_of_row _ _ 0 _ _ _ hb1
  have c5 : W.cell? ⟨w.heap.size + 1, 1, none⟩ = some (.int .u32 (x : Nat)) := cell_of_row _ _ 1 _ _ _ hb1
  have lP := hP.row.lt
  have lZ := lt_of_cell c1
  have kW : Ko B P g w W := Ko.of_below b0 hBw
  have bA : Below W.heap.size W (W.drew.alloc (.cells #[.int .i32 l, .int .u32 0, .int .u32 (x : Nat)] 47)) := (Below.refl _ _).drew.alloc (by simp) _
  have hPA := hP.below bA
  have kA : Ko B P g w (W.drew.alloc (.cells #[.int .i32 l, .int .u32 0, .int .u32 (x : Nat)] 47)) := kW.trans (Ko.of_below bA (by omega))
  have hnews := Lib.hid (arr_new W.drew #[.int .i32 l, .int .u32 0, .int .u32 (x : Nat)] 47 W.heap.size rfl)
  have hone : Hid (∀ u ∈ ([.int .i32 l, .int .u32 0, .int .u32 (x : Nat)] : List Value), u.oneCell' = true) := Lib.hid (fun u hu => by simp at hu; rcases hu with rfl | rfl | rfl <;> rfl)
  have hk1 : k + 1 ≤ maxLen := by simp only [maxLen]; omega
  have hk2 : (k + 1) * 12 ≤ 140737488355328 := by omega
  have hk3 : Hid (B ≤ (W.drew.alloc (.cells #[.int .i32 l, .int .u32 0, .int .u32 (x : Nat)] 47)).heap.size) := Lib.hid (by simp; omega)
  have hzA : Hid ((W.drew.alloc (.cells #[.int .i32 l, .int .u32 0, .int .u32 (x : Nat)] 47)).heap[Z]? = some (.cells cz 26 frz)) := Lib.hid ((bA.block Z (Array.getElem?_eq_some_iff.1 hzW).1).trans hzW)
  have hcA : Hid ((W.drew.alloc (.cells #[.int .i32 l, .int .u32 0, .int .u32 (x : Nat)] 47)).cell? ⟨Z, 0, none⟩ = some (.pointer (some ⟨P, 0, none⟩))) := Lib.hid ((bA.cell lZ).trans c1)
  replace hPA := Lib.hid hPA
  replace kA := Lib.hid kA
  replace hP := Lib.hid hP
  replace kW := Lib.hid kW
  replace b0 := Lib.hid b0
  replace bA := Lib.hid bA
  replace hb0 := Lib.hid hb0
  replace hb1 := Lib.hid hb1
  replace hb2 := Lib.hid hb2
  replace sW := Lib.hid sW
  clear hzb hzW hZ s0 s1
  have sW' := sW.out
  have lPw := h.lts.1
  have lgw := h.lts.2.1
  have hNP : w.heap.size ≠ P := by omega
  have hNg : w.heap.size ≠ g := by omega
  have hN1P : w.heap.size + 1 ≠ P := by omega
  have hN1g : w.heap.size + 1 ≠ g := by omega
  have hN2P : w.heap.size + 1 + 1 ≠ P := by omega
  have hN2g : w.heap.size + 1 + 1 ≠ g := by omega
  have hAb : ∀ b, b < W.heap.size → (W.drew.alloc (.cells #[.int .i32 l, .int .u32 0, .int .u32 (x : Nat)] 47)).heap[b]? = W.heap[b]? := fun b hb => bA.out.block b hb
  have hAc : ∀ b o y, b < W.heap.size → W.cell? ⟨b, o, none⟩ = some y → (W.drew.alloc (.cells #[.int .i32 l, .int .u32 0, .int .u32 (x : Nat)] 47)).cell? ⟨b, o, none⟩ = some y := fun b o y hb hy => (bA.out.cell (p := ⟨b, o, none⟩) hb).trans hy
  have hSx : Hid (SC Z P w.heap.size l x W.drew) := Lib.hid ⟨c1, c3, c4, c5⟩
  have hSA : Hid (SC Z P w.heap.size l x (W.drew.alloc (.cells #[.int .i32 l, .int .u32 0, .int .u32 (x : Nat)] 47))) := Lib.hid ⟨hAc _ _ _ lZ c1, hAc _ _ _ (by omega) c3, hAc _ _ _ (by omega) c4, hAc _ _ _ (by omega) c5⟩
  have hKb : Hid (∀ w3, Ko B P g (W.drew.alloc (.cells #[.int .i32 l, .int .u32 0, .int .u32 (x : Nat)] 47)) w3 → w3.heap[Z]? = W.heap[Z]? ∧ w3.heap[w.heap.size]? = W.heap[w.heap.size]? ∧ w3.heap[w.heap.size + 1]? = W.heap[w.heap.size + 1]? ∧ w3.heap[w.heap.size + 1 + 1]? = W.heap[w.heap.size + 1 + 1]?) := Lib.hid (fun w3 kg =>
    ⟨(kg.kp Z _ _ _ hzA.out (by decide) hZP hZg).trans (hAb _ lZ), (kg.kp _ _ _ _ ((hAb _ (by omega)).trans hb0.out) (by decide) hNP hNg).trans (hAb _ (by omega)), (kg.kp _ _ _ _ ((hAb _ (by omega)).trans hb1.out) (by decide) hN1P hN1g).trans (hAb _ (by omega)), (kg.kp _ _ _ _ ((hAb _ (by omega)).trans hb2.out) (by decide) hN2P hN2g).trans (hAb _ (by omega))⟩)
  have hc1 := Lib.hid (And.intro c1 (And.intro c3 (And.intro c4 c5)))
  replace hNP := Lib.hid hNP
  replace hNg := Lib.hid hNg
  replace hN1P := Lib.hid hN1P
  replace hN1g := Lib.hid hN1g
  replace hN2P := Lib.hid hN2P
  replace hN2g := Lib.hid hN2g
  replace h := Lib.hid h
  clear hAb hAc c1 c3 c4 c5 sW'
  go_enter Try.func15, Try.ntmps15
  go_upto_region 1 with fail
  replace hW0 := Lib.hid hW0
  refine wp_region_held_drew (S := SC Z P w.heap.size l x) (by kernel_rfl) hSx.out (fun hS => ?_)
  refine Take.takeD (i := 0) (v := .pointer (some ⟨P, 0, none⟩)) (some 6) rfl rfl (by kernel_rfl) (by kernel_rfl) (by kernel_rfl) (fun _ _ _ h => h) (Or.inl ⟨by rfl, fun w9 hw9 => by (go_simp; (first | done | rfl | (simp [hw9.c1, hw9.c2, hw9.c3, hw9.c4]; done)))⟩) hS ?_
  try simp only [Act.put, List.setIfInBounds_toArray, List.set_cons_zero, List.set_cons_succ]
  refine Take.takeD (i := 1) (v := .pointer (some ⟨P, 0, none⟩)) (some 7) rfl rfl (by kernel_rfl) (by kernel_rfl) (by kernel_rfl) (fun _ _ _ h => h) (Or.inl ⟨by rfl, fun w9 hw9 => by (go_simp; (first | done | rfl | (simp [hw9.c1, hw9.c2, hw9.c3, hw9.c4]; done)))⟩) hS ?_
  try simp only [Act.put, List.setIfInBounds_toArray, List.set_cons_zero, List.set_cons_succ]
  refine Take.takeD (i := 2) (v := .pointer (some ⟨P, 0, none⟩)) (some 8) rfl rfl (by kernel_rfl) (by kernel_rfl) (by kernel_rfl) (fun _ _ _ h => h) (Or.inl ⟨by rfl, fun w9 hw9 => by (go_simp; (first | done | rfl | (simp [hw9.c1, hw9.c2, hw9.c3, hw9.c4]; done)))⟩) hS ?_
  try simp only [Act.put, List.setIfInBounds_toArray, List.set_cons_zero, List.set_cons_succ]
  refine Take.takeD (i := 3) (v := .pointer (some ⟨P, 196, none⟩)) (some 9) rfl rfl (by kernel_rfl) (by kernel_rfl) (by kernel_rfl) (fun _ _ _ h => h) (Or.inl ⟨by rfl, fun w9 hw9 => by (go_simp; (first | done | rfl | (simp [hw9.c1, hw9.c2, hw9.c3, hw9.c4]; done)))⟩) hS ?_
  try simp only [Act.put, List.setIfInBounds_toArray, List.set_cons_zero, List.set_cons_succ]
  refine Take.takeD (i := 5) (v := .agg #[.int .i32 l]) (some 11) rfl rfl (by kernel_rfl) (by kernel_rfl) (by kernel_rfl) (fun _ _ _ h => h) (Or.inl ⟨by rfl, fun w9 hw9 => by (go_simp; (first | done | rfl | (simp [hw9.c1, hw9.c2, hw9.c3, hw9.c4]; done)))⟩) hS ?_
  try simp only [Act.put, List.setIfInBounds_toArray, List.set_cons_zero, List.set_cons_succ]
  refine Take.takeD (i := 6) (v := .agg #[.int .u32 0, .int .u32 (x : Nat)]) (some 12) rfl rfl (by kernel_rfl) (by kernel_rfl) (by kernel_rfl) (fun _ _ _ h => h) (Or.inl ⟨by rfl, fun w9 hw9 => by (go_simp; (first | done | rfl | (simp [hw9.c1, hw9.c2, hw9.c3, hw9.c4]; done)))⟩) hS ?_
  try simp only [Act.put, List.setIfInBounds_toArray, List.set_cons_zero, List.set_cons_succ]
  refine Take.takeD (i := 7) (v := .agg #[.int .i32 l, .int .u32 0, .int .u32 (x : Nat)]) (some 13) rfl rfl (by kernel_rfl) (by kernel_rfl) (by kernel_rfl) (fun _ _ _ h => h) (Or.inl ⟨by rfl, fun w9 hw9 => by (go_simp; (first | done | rfl | (simp [hw9.c1, hw9.c2, hw9.c3, hw9.c4]; done)))⟩) hS ?_
  try simp only [Act.put, List.setIfInBounds_toArray, List.set_cons_zero, List.set_cons_succ]
  clear hS
  refine wpAnyH_ready (rs := [4, 8]) (by kernel_rfl) (by decide) ?_
  refine AllReadyH.cons rfl (fun K' hK => ?_) ?_
  · rw [if_pos (by kernel_rfl)]
    go_wp2_with fail
    refine hK.out _ _ hSx.out (fun _ => ?_)
    clear hK
    refine wpAnyH_ready (rs := [8]) (by kernel_rfl) (by decide) ?_
    refine AllReadyH.cons rfl (fun K' hK => ?_) AllReadyH.nil
    rw [if_pos (by kernel_rfl)]
    go_wp2_with fail
    refine hK.out _ _ hSA.out (fun _ => ?_)
    clear hK
    refine wpAnyH_ready (rs := [9]) (by kernel_rfl) (by decide) ?_
    refine AllReadyH.cons rfl (fun K' hK => ?_) AllReadyH.nil
    have hK2 := hK.out
    replace hK := Lib.hid hK
    refine step_append_own rfl (.tmp 10) (.tmp 14) _ rfl B 47 i0 (.agg #[.int .i32 0, .int .u32 0, .int .u32 0]) 3 12 Try.underlying38 hi hz0 hz1 hz2 rfl (by omega) (.slice a k cc) k xs rfl hPA.out.own ⟨W.heap.size, 0, none⟩ 1 1 [.int .i32 l, .int .u32 0, .int .u32 (x : Nat)] rfl rfl hnews.out hone.out hk1 hk2 hk3.out ?_
    intro v' w3 ho hg hv
    obtain ⟨a', c', rfl⟩ := slice_form ho
    have kg := Ko.grown (P := P) (g := g) hg hk3.out hPA.out.own
    have k3 := kA.out.trans kg
    have hP4 := hPA.out.app ho hg
    have hrP := hPA.out.rowG hg
    have d0 := hrP.cell (i := 196) (by omega)
    have e0 := hrP.frozen 196
    obtain ⟨f1, f2, f3, f4⟩ := hKb.out w3 kg
    have hS3 : SC Z P w.heap.size l x w3 := ⟨(World.cell?_of_block f1).trans hc1.out.1, (World.cell?_of_block f2).trans hc1.out.2.1, (World.cell?_of_block f3).trans hc1.out.2.2.1, (World.cell?_of_block f3).trans hc1.out.2.2.2⟩
    have hS4 := hS3.setP (j := 196) (y := .slice a' (k + 1) c') hZP hNP.out hN1P.out
    have kP : Ko B P g w (w3.setCell ⟨P, 196, none⟩ (.slice a' (k + 1) c')) := k3.trans (Ko.setP h.out.bp _ _)
    have hr4 : (w3.setCell ⟨P, 196, none⟩ (.slice a' (k + 1) c')).heap[w.heap.size + 1 + 1]? = some (.cells #[.nilIface, .int .i32 0] 72 (0, 0)) := (Go.Deep.blk_setCell_other _ _ _ _ hN2P.out).trans (f4.trans hb2.out)
    have hr5 : (w3.setCell ⟨P, 196, none⟩ (.slice a' (k + 1) c')).heap[w.heap.size + 1]? = some (.cells #[.int .u32 0, .int .u32 (x : Nat)] 45 (0, 0)) := (Go.Deep.blk_setCell_other _ _ _ _ hN1P.out).trans (f3.trans hb1.out)
    have hr6 : (w3.setCell ⟨P, 196, none⟩ (.slice a' (k + 1) c')).heap[w.heap.size]? = some (.cells #[.int .i32 l] 33 (0, 0)) := (Go.Deep.blk_setCell_other _ _ _ _ hNP.out).trans (f2.trans hb0.out)
    replace hr4 := Lib.hid hr4
    replace hr5 := Lib.hid hr5
    replace hr6 := Lib.hid hr6
    replace kP := Lib.hid kP
    replace hP4 := Lib.hid hP4
    refine hK2 _ _ hS3 (fun _ => ?_)
    replace hS4 := Lib.hid hS4
    replace hS3 := Lib.hid hS3
    clear ho hv hg hrP hK hK2 kg k3 f1 f2 f3 f4
    refine wpAnyH_ready (rs := [10]) (by kernel_rfl) (by decide) ?_
    refine AllReadyH.cons rfl (fun K' hK => ?_) AllReadyH.nil
    rw [if_pos (by kernel_rfl)]
    go_wp2_with fail
    refine hK.out _ _ hS3.out (fun _ => ?_)
    clear hK
    refine wpAnyH_ready (rs := [11]) (by kernel_rfl) (by decide) ?_
    refine AllReadyH.cons rfl (fun K' hK => ?_) AllReadyH.nil
    rw [if_pos (by kernel_rfl)]
    go_wp2_with fail
    refine hK.out _ _ hS3.out (fun _ => ?_)
    clear hK
    refine wpAnyH_ready (rs := [12]) (by kernel_rfl) (by decide) ?_
    refine AllReadyH.cons rfl (fun K' hK => ?_) AllReadyH.nil
    rw [if_pos (by kernel_rfl)]
    go_wp2_with fail
    refine hK.out _ _ hS4.out (fun _ => ?_)
    clear hK d0 e0 hS3
    refine wpAnyH_done (by kernel_rfl) ?_ _
    generalize (w3.setCell ⟨P, 196, none⟩ (.slice a' (k + 1) c')) = w5 at *
    obtain ⟨s1, s2, s3, s4⟩ := hS4.out
    clear hS4 c2 hPA kA hP kW bA hnews hone hk1 hk2 hk3 hzA hcA hSx hSA hKb hc1
    have cU := Lib.hid (recordU B P g n x _ U _ (k + 1) _ w5 hP4.out hx hn hU)
    clear hP4
    go_wp2_with fail
    go_at_call 16
    refine cU.out.mono ?_
    rintro e w6 ⟨rfl, hP6, k6⟩
    have g4 : w6.heap[w.heap.size + 1 + 1]? = some (.cells #[.nilIface, .int .i32 0] 72 (0, 0)) := (k6.kp _ _ _ _ hr4.out (by decide) hN2P.out hN2g.out).trans hr4.out
    have g5 : w6.heap[w.heap.size + 1]? = some (.cells #[.int .u32 0, .int .u32 (x : Nat)] 45 (0, 0)) := (k6.kp _ _ _ _ hr5.out (by decide) hN1P.out hN1g.out).trans hr5.out
    have g6 : w6.heap[w.heap.size]? = some (.cells #[.int .i32 l] 33 (0, 0)) := (k6.kp _ _ _ _ hr6.out (by decide) hNP.out hNg.out).trans hr6.out
    have y1 : w6.cell? ⟨w.heap.size, 0, none⟩ = some (.int .i32 l) := cell_of_row _ _ 0 _ _ _ g6
    have y2 : w6.cell? ⟨w.heap.size + 1, 0, none⟩ = some (.int .u32 0) := cell_of_row _ _ 0 _ _ _ g5
    have y3 : w6.cell? ⟨w.heap.size + 1, 1, none⟩ = some (.int .u32 (x : Nat)) := cell_of_row _ _ 1 _ _ _ g5
    have y4 : w6.cell? ⟨w.heap.size + 1 + 1, 0, none⟩ = some .nilIface := cell_of_row _ _ 0 _ _ _ g4
    have y5 : w6.cell? ⟨w.heap.size + 1 + 1, 1, none⟩ = some (.int .i32 0) := cell_of_row _ _ 1 _ _ _ g4
    have y6 : w6.frozen? ⟨w.heap.size + 1 + 1, 0, none⟩ = false := frozen_of_row _ _ 0 _ _ g4
    have y7 : w6.frozen? ⟨w.heap.size + 1 + 1, 1, none⟩ = false := frozen_of_row _ _ 1 _ _ g4
    have l6 := (Array.getElem?_eq_some_iff.1 g4).1
    have k7 := Lib.hid (kP.out.trans k6)
    replace hP6 := Lib.hid hP6
    replace g4 := Lib.hid g4
    clear cU k6 g5 g6 s1 s2 s3 s4
    go_wp2_with fail
    exact bodyPost_ret (v := .agg #[.iface 199 (.pointer (some ⟨w6.heap.size, 0, none⟩)), .int .i32 l]) (results_cell_row rfl _ _ (w.heap.size + 1 + 1) 72 #[.iface 199 (.pointer (some ⟨w6.heap.size, 0, none⟩)), .int .i32 l] (0, 0) _ (by kernel_rfl) (two_set g4.out) (by rw [Try.underlying72]) rfl (by kernel_rfl)) rfl (clo_fin g4.out hP6.out k7.out hBw (by omega))
  · refine AllReadyH.cons rfl (fun K' hK => ?_) AllReadyH.nil
    rw [if_pos (by kernel_rfl)]
    go_wp2_with fail
    refine hK.out _ _ hSA.out (fun _ => ?_)
    clear hK
    refine wpAnyH_ready (rs := [4]) (by kernel_rfl) (by decide) ?_
    refine AllReadyH.cons rfl (fun K' hK => ?_) AllReadyH.nil
    rw [if_pos (by kernel_rfl)]
    have c2' : (W.drew.alloc (.cells #[.int .i32 l, .int .u32 0, .int .u32 (x : Nat)] 47)).cell? ⟨P, 196, none⟩ = some (.slice a k cc) := hPA.out.f196 ▸ hPA.out.row.cell (i := 196) (by omega)
    go_wp2_with fail
    refine hK.out _ _ hSA.out (fun _ => ?_)
    clear hK c2'
    refine wpAnyH_ready (rs := [9]) (by kernel_rfl) (by decide) ?_
    refine AllReadyH.cons rfl (fun K' hK => ?_) AllReadyH.nil
    have hK2 := hK.out
    replace hK := Lib.hid hK
    refine step_append_own rfl (.tmp 10) (.tmp 14) _ rfl B 47 i0 (.agg #[.int .i32 0, .int .u32 0, .int .u32 0]) 3 12 Try.underlying38 hi hz0 hz1 hz2 rfl (by omega) (.slice a k cc) k xs rfl hPA.out.own ⟨W.heap.size, 0, none⟩ 1 1 [.int .i32 l, .int .u32 0, .int .u32 (x : Nat)] rfl rfl hnews.out hone.out hk1 hk2 hk3.out ?_
    intro v' w3 ho hg hv
    obtain ⟨a', c', rfl⟩ := slice_form ho
    have kg := Ko.grown (P := P) (g := g) hg hk3.out hPA.out.own
    have k3 := kA.out.trans kg
    have hP4 := hPA.out.app ho hg
    have hrP := hPA.out.rowG hg
    have d0 := hrP.cell (i := 196) (by omega)
    have e0 := hrP.frozen 196
    obtain ⟨f1, f2, f3, f4⟩ := hKb.out w3 kg
    have hS3 : SC Z P w.heap.size l x w3 := ⟨(World.cell?_of_block f1).trans hc1.out.1, (World.cell?_of_block f2).trans hc1.out.2.1, (World.cell?_of_block f3).trans hc1.out.2.2.1, (World.cell?_of_block f3).trans hc1.out.2.2.2⟩
    have hS4 := hS3.setP (j := 196) (y := .slice a' (k + 1) c') hZP hNP.out hN1P.out
    have kP : Ko B P g w (w3.setCell ⟨P, 196, none⟩ (.slice a' (k + 1) c')) := k3.trans (Ko.setP h.out.bp _ _)
    have hr4 : (w3.setCell ⟨P, 196, none⟩ (.slice a' (k + 1) c')).heap[w.heap.size + 1 + 1]? = some (.cells #[.nilIface, .int .i32 0] 72 (0, 0)) := (Go.Deep.blk_setCell_other _ _ _ _ hN2P.out).trans (f4.trans hb2.out)
    have hr5 : (w3.setCell ⟨P, 196, none⟩ (.slice a' (k + 1) c')).heap[w.heap.size + 1]? = some (.cells #[.int .u32 0, .int .u32 (x : Nat)] 45 (0, 0)) := (Go.Deep.blk_setCell_other _ _ _ _ hN1P.out).trans (f3.trans hb1.out)
    have hr6 : (w3.setCell ⟨P, 196, none⟩ (.slice a' (k + 1) c')).heap[w.heap.size]? = some (.cells #[.int .i32 l] 33 (0, 0)) := (Go.Deep.blk_setCell_other _ _ _ _ hNP.out).trans (f2.trans hb0.out)
    replace hr4 := Lib.hid hr4
    replace hr5 := Lib.hid hr5
    replace hr6 := Lib.hid hr6
    replace kP := Lib.hid kP
    replace hP4 := Lib.hid hP4
    refine hK2 _ _ hS3 (fun _ => ?_)
    replace hS4 := Lib.hid hS4
    replace hS3 := Lib.hid hS3
    clear ho hv hg hrP hK hK2 kg k3 f1 f2 f3 f4
    refine wpAnyH_ready (rs := [10]) (by kernel_rfl) (by decide) ?_
    refine AllReadyH.cons rfl (fun K' hK => ?_) AllReadyH.nil
    rw [if_pos (by kernel_rfl)]
    go_wp2_with fail
    refine hK.out _ _ hS3.out (fun _ => ?_)
    clear hK
    refine wpAnyH_ready (rs := [11]) (by kernel_rfl) (by decide) ?_
    refine AllReadyH.cons rfl (fun K' hK => ?_) AllReadyH.nil
    rw [if_pos (by kernel_rfl)]
    go_wp2_with fail
    refine hK.out _ _ hS3.out (fun _ => ?_)
    clear hK
    refine wpAnyH_ready (rs := [12]) (by kernel_rfl) (by decide) ?_
    refine AllReadyH.cons rfl (fun K' hK => ?_) AllReadyH.nil
    rw [if_pos (by kernel_rfl)]
    go_wp2_with fail
    refine hK.out _ _ hS4.out (fun _ => ?_)
    clear hK d0 e0 hS3
    refine wpAnyH_done (by kernel_rfl) ?_ _
    generalize (w3.setCell ⟨P, 196, none⟩ (.slice a' (k + 1) c')) = w5 at *
    obtain ⟨s1, s2, s3, s4⟩ := hS4.out
    clear hS4 c2 hPA kA hP kW bA hnews hone hk1 hk2 hk3 hzA hcA hSx hSA hKb hc1
    have cU := Lib.hid (recordU B P g n x _ U _ (k + 1) _ w5 hP4.out hx hn hU)
    clear hP4
    go_wp2_with fail
    go_at_call 16
    refine cU.out.mono ?_
    rintro e w6 ⟨rfl, hP6, k6⟩
    have g4 : w6.heap[w.heap.size + 1 + 1]? = some (.cells #[.nilIface, .int .i32 0] 72 (0, 0)) := (k6.kp _ _ _ _ hr4.out (by decide) hN2P.out hN2g.out).trans hr4.out
    have g5 : w6.heap[w.heap.size + 1]? = some (.cells #[.int .u32 0, .int .u32 (x : Nat)] 45 (0, 0)) := (k6.kp _ _ _ _ hr5.out (by decide) hN1P.out hN1g.out).trans hr5.out
    have g6 : w6.heap[w.heap.size]? = some (.cells #[.int .i32 l] 33 (0, 0)) := (k6.kp _ _ _ _ hr6.out (by decide) hNP.out hNg.out).trans hr6.out
    have y1 : w6.cell? ⟨w.heap.size, 0, none⟩ = some (.int .i32 l) := cell_of_row _ _ 0 _ _ _ g6
    have y2 : w6.cell? ⟨w.heap.size + 1, 0, none⟩ = some (.int .u32 0) := cell_of_row _ _ 0 _ _ _ g5
    have y3 : w6.cell? ⟨w.heap.size + 1, 1, none⟩ = some (.int .u32 (x : Nat)) := cell_of_row _ _ 1 _ _ _ g5
    have y4 : w6.cell? ⟨w.heap.size + 1 + 1, 0, none⟩ = some .nilIface := cell_of_row _ _ 0 _ _ _ g4
    have y5 : w6.cell? ⟨w.heap.size + 1 + 1, 1, none⟩ = some (.int .i32 0) := cell_of_row _ _ 1 _ _ _ g4
    have y6 : w6.frozen? ⟨w.heap.size + 1 + 1, 0, none⟩ = false := frozen_of_row _ _ 0 _ _ g4
    have y7 : w6.frozen? ⟨w.heap.size + 1 + 1, 1, none⟩ = false := frozen_of_row _ _ 1 _ _ g4
    have l6 := (Array.getElem?_eq_some_iff.1 g4).1
    have k7 := Lib.hid (kP.out.trans k6)
    replace hP6 := Lib.hid hP6
    replace g4 := Lib.hid g4
    clear cU k6 g5 g6 s1 s2 s3 s4
    go_wp2_with fail
    exact bodyPost_ret (v := .agg #[.iface 199 (.pointer (some ⟨w6.heap.size, 0, none⟩)), .int .i32 l]) (results_cell_row rfl _ _ (w.heap.size + 1 + 1) 72 #[.iface 199 (.pointer (some ⟨w6.heap.size, 0, none⟩)), .int .i32 l] (0, 0) _ (by kernel_rfl) (two_set g4.out) (by rw [Try.underlying72]) rfl (by kernel_rfl)) rfl (clo_fin g4.out hP6.out k7.out hBw (by omega))
end Go.Proofs.Ytdiedidmjpihjaa.Rl
