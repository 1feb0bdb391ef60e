/-
  maybeMarkKnownGlobalConstructorAsPure, case by case: by the name, the number of arguments and the first argument's kind. Condition: the parts lie as stated (Nw).
-/
import Derived.Test.YtihpdmoonddjmaaPure2
namespace Go.Proofs.Ytihpdmoonddjmaa.Pure
open Go.RowKit Go.Proofs.Ytihpdmoonddjmaa.Ints

theorem bC {w w' : World} {p : Addr} {v : Value} (hb : Below w.heap.size w w') (h : w.cell? p = some v) : w'.cell? p = some v := (hb.cell (lt_of_cell h)).trans h
set_option maxRecDepth 100000 in
set_option maxHeartbeats 2000000 in
theorem un_other (x : Fix) (hk : x.k = 0) (hb_ws : Hid ((x.nm.toList == [87, 101, 97, 107, 83, 101, 116]) = false)) (hb_wm : Hid ((x.nm.toList == [87, 101, 97, 107, 77, 97, 112]) = false)) (hb_da : Hid ((x.nm.toList == [68, 97, 116, 101]) = false)) (hb_se : Hid ((x.nm.toList == [83, 101, 116]) = false)) (hb_ma : Hid ((x.nm.toList == [77, 97, 112]) = false)) (f : Bool) (w : World) (h : Nw x f w) : Calls Try.prog 47 #[.pointer (some ⟨x.P, 0, none⟩), .pointer (some ⟨x.E, 0, none⟩)] w (Mk x false w) := by
  obtain ⟨e0, e2, e5, fz, t1, p, s0, s1, s2, s3, s4, s5, s6, s7, s8, s9, arg, nS, nI⟩ := h
  rw [hk] at s8
  obtain ⟨P, E, T, S, nm, k, o, n, A, t0, D, oi, m, I, ts, ps⟩ := x
  simp only at *
  replace arg := Lib.hid arg
  have h64 := ta_EIdentifier
  have lT : T < w.heap.size := lt_of_cell t1
  have lS : S < w.heap.size := lt_of_cell s0
  have lP : P < w.heap.size := lt_of_cell p
  go_enter Try.func47, Try.ntmps47
  go_wp2_with fail
  go_region
  generalize hW : World.drew _ = W
  have B : Below w.heap.size w W := by subst hW; exact ((Below.refl _ _).alloc (Nat.le_refl _) _).drew
  have k8 : W.cell? ⟨w.heap.size, 8, none⟩ = some (.int .u8 0) := by subst hW; go_simp
  have k1 : W.cell? ⟨w.heap.size, 1, none⟩ = some (.string nm) := by subst hW; go_simp
  clear hW
  replace fz := (B.frozen (p := ⟨E, 5, none⟩) (lt_of_cell e5)).trans fz
  replace e2 := bC B e2
  replace e5 := bC B e5
  clear e0 t1 p s0 s1 s2 s3 s4 s5 s6 s7 s8 s9 nS lT lS lP
  have b_ws : (nm.toList == [87, 101, 97, 107, 83, 101, 116]) = false := hb_ws.out
  have b_wm : (nm.toList == [87, 101, 97, 107, 77, 97, 112]) = false := hb_wm.out
  have b_da : (nm.toList == [68, 97, 116, 101]) = false := hb_da.out
  have b_se : (nm.toList == [83, 101, 116]) = false := hb_se.out
  have b_ma : (nm.toList == [77, 97, 112]) = false := hb_ma.out
  go_wp2_with fail
  go_end0
  exact ⟨rfl, _, B, rfl⟩
set_option maxRecDepth 100000 in
set_option maxHeartbeats 2000000 in
theorem un_ws_0 (x : Fix) (hk : x.k = 0) (hb_ws : Hid ((x.nm.toList == [87, 101, 97, 107, 83, 101, 116]) = true)) (hn : Hid (x.n = 0)) (f : Bool) (w : World) (h : Nw x f w) : Calls Try.prog 47 #[.pointer (some ⟨x.P, 0, none⟩), .pointer (some ⟨x.E, 0, none⟩)] w (Mk x true w) := by
  obtain ⟨e0, e2, e5, fz, t1, p, s0, s1, s2, s3, s4, s5, s6, s7, s8, s9, arg, nS, nI⟩ := h
  rw [hk] at s8
  obtain ⟨P, E, T, S, nm, k, o, n, A, t0, D, oi, m, I, ts, ps⟩ := x
  simp only at *
  replace arg := Lib.hid arg
  have h64 := ta_EIdentifier
  have lT : T < w.heap.size := lt_of_cell t1
  have lS : S < w.heap.size := lt_of_cell s0
  have lP : P < w.heap.size := lt_of_cell p
  go_enter Try.func47, Try.ntmps47
  go_wp2_with fail
  go_region
  generalize hW : World.drew _ = W
  have B : Below w.heap.size w W := by subst hW; exact ((Below.refl _ _).alloc (Nat.le_refl _) _).drew
  have k8 : W.cell? ⟨w.heap.size, 8, none⟩ = some (.int .u8 0) := by subst hW; go_simp
  have k1 : W.cell? ⟨w.heap.size, 1, none⟩ = some (.string nm) := by subst hW; go_simp
  clear hW
  replace fz := (B.frozen (p := ⟨E, 5, none⟩) (lt_of_cell e5)).trans fz
  replace e2 := bC B e2
  replace e5 := bC B e5
  clear e0 t1 p s0 s1 s2 s3 s4 s5 s6 s7 s8 s9 nS lT lS lP
  have b_ws : (nm.toList == [87, 101, 97, 107, 83, 101, 116]) = true := hb_ws.out
  obtain rfl := hn.out
  go_wp2_with fail
  go_end0
  exact ⟨rfl, W, B, rfl⟩
set_option maxRecDepth 100000 in
set_option maxHeartbeats 2000000 in
theorem un_ws_2 (x : Fix) (hk : x.k = 0) (hb_ws : Hid ((x.nm.toList == [87, 101, 97, 107, 83, 101, 116]) = true)) (hn : Hid (1 < x.n)) (f : Bool) (w : World) (h : Nw x f w) : Calls Try.prog 47 #[.pointer (some ⟨x.P, 0, none⟩), .pointer (some ⟨x.E, 0, none⟩)] w (Mk x false w) := by
  obtain ⟨e0, e2, e5, fz, t1, p, s0, s1, s2, s3, s4, s5, s6, s7, s8, s9, arg, nS, nI⟩ := h
  rw [hk] at s8
  obtain ⟨P, E, T, S, nm, k, o, n, A, t0, D, oi, m, I, ts, ps⟩ := x
  simp only at *
  replace arg := Lib.hid arg
  have h64 := ta_EIdentifier
  have lT : T < w.heap.size := lt_of_cell t1
  have lS : S < w.heap.size := lt_of_cell s0
  have lP : P < w.heap.size := lt_of_cell p
  go_enter Try.func47, Try.ntmps47
  go_wp2_with fail
  go_region
  generalize hW : World.drew _ = W
  have B : Below w.heap.size w W := by subst hW; exact ((Below.refl _ _).alloc (Nat.le_refl _) _).drew
  have k8 : W.cell? ⟨w.heap.size, 8, none⟩ = some (.int .u8 0) := by subst hW; go_simp
  have k1 : W.cell? ⟨w.heap.size, 1, none⟩ = some (.string nm) := by subst hW; go_simp
  clear hW
  replace fz := (B.frozen (p := ⟨E, 5, none⟩) (lt_of_cell e5)).trans fz
  replace e2 := bC B e2
  replace e5 := bC B e5
  clear e0 t1 p s0 s1 s2 s3 s4 s5 s6 s7 s8 s9 nS lT lS lP
  have b_ws : (nm.toList == [87, 101, 97, 107, 83, 101, 116]) = true := hb_ws.out
  have hn2 := hn.out
  have n0 : ((n : Int) == 0) = false := by rw [beq_eq_false_iff_ne]; omega
  have n1 : ((n : Int) == 1) = false := by rw [beq_eq_false_iff_ne]; omega
  go_wp2_with fail
  go_end0
  exact ⟨rfl, _, B, rfl⟩
set_option maxRecDepth 100000 in
set_option maxHeartbeats 2000000 in
theorem un_ws_ENull (x : Fix) (hk : x.k = 0) (hb_ws : Hid ((x.nm.toList == [87, 101, 97, 107, 83, 101, 116]) = true)) (hn : Hid (x.n = 1)) (ht : Hid (x.t0 = 294)) (f : Bool) (w : World) (h : Nw x f w) : Calls Try.prog 47 #[.pointer (some ⟨x.P, 0, none⟩), .pointer (some ⟨x.E, 0, none⟩)] w (Mk x true w) := by
  obtain ⟨e0, e2, e5, fz, t1, p, s0, s1, s2, s3, s4, s5, s6, s7, s8, s9, arg, nS, nI⟩ := h
  rw [hk] at s8
  obtain ⟨P, E, T, S, nm, k, o, n, A, t0, D, oi, m, I, ts, ps⟩ := x
  simp only at *
  replace arg := Lib.hid arg
  have h64 := ta_EIdentifier
  have lT : T < w.heap.size := lt_of_cell t1
  have lS : S < w.heap.size := lt_of_cell s0
  have lP : P < w.heap.size := lt_of_cell p
  go_enter Try.func47, Try.ntmps47
  go_wp2_with fail
  go_region
  generalize hW : World.drew _ = W
  have B : Below w.heap.size w W := by subst hW; exact ((Below.refl _ _).alloc (Nat.le_refl _) _).drew
  have k8 : W.cell? ⟨w.heap.size, 8, none⟩ = some (.int .u8 0) := by subst hW; go_simp
  have k1 : W.cell? ⟨w.heap.size, 1, none⟩ = some (.string nm) := by subst hW; go_simp
  clear hW
  replace fz := (B.frozen (p := ⟨E, 5, none⟩) (lt_of_cell e5)).trans fz
  replace e2 := bC B e2
  replace e5 := bC B e5
  clear e0 t1 p s0 s1 s2 s3 s4 s5 s6 s7 s8 s9 nS lT lS lP
  have b_ws : (nm.toList == [87, 101, 97, 107, 83, 101, 116]) = true := hb_ws.out
  obtain ⟨rfl, ha, hK, hA⟩ := arg.out hn.out
  obtain rfl := hn.out
  have v0 := bC B ha
  obtain rfl := ht.out
  clear hK hA arg
  have hN := ta_ENull
  have hU := ta_EUndefined
  have hR := ta_EArray
  go_wp2_with fail
  go_end0
  exact ⟨rfl, W, B, rfl⟩
set_option maxRecDepth 100000 in
set_option maxHeartbeats 2000000 in
theorem un_ws_EUndefined (x : Fix) (hk : x.k = 0) (hb_ws : Hid ((x.nm.toList == [87, 101, 97, 107, 83, 101, 116]) = true)) (hn : Hid (x.n = 1)) (ht : Hid (x.t0 = 296)) (f : Bool) (w : World) (h : Nw x f w) : Calls Try.prog 47 #[.pointer (some ⟨x.P, 0, none⟩), .pointer (some ⟨x.E, 0, none⟩)] w (Mk x true w) := by
  obtain ⟨e0, e2, e5, fz, t1, p, s0, s1, s2, s3, s4, s5, s6, s7, s8, s9, arg, nS, nI⟩ := h
  rw [hk] at s8
  obtain ⟨P, E, T, S, nm, k, o, n, A, t0, D, oi, m, I, ts, ps⟩ := x
  simp only at *
  replace arg := Lib.hid arg
  have h64 := ta_EIdentifier
  have lT : T < w.heap.size := lt_of_cell t1
  have lS : S < w.heap.size := lt_of_cell s0
  have lP : P < w.heap.size := lt_of_cell p
  go_enter Try.func47, Try.ntmps47
  go_wp2_with fail
  go_region
  generalize hW : World.drew _ = W
  have B : Below w.heap.size w W := by subst hW; exact ((Below.refl _ _).alloc (Nat.le_refl _) _).drew
  have k8 : W.cell? ⟨w.heap.size, 8, none⟩ = some (.int .u8 0) := by subst hW; go_simp
  have k1 : W.cell? ⟨w.heap.size, 1, none⟩ = some (.string nm) := by subst hW; go_simp
  clear hW
  replace fz := (B.frozen (p := ⟨E, 5, none⟩) (lt_of_cell e5)).trans fz
  replace e2 := bC B e2
  replace e5 := bC B e5
  clear e0 t1 p s0 s1 s2 s3 s4 s5 s6 s7 s8 s9 nS lT lS lP
  have b_ws : (nm.toList == [87, 101, 97, 107, 83, 101, 116]) = true := hb_ws.out
  obtain ⟨rfl, ha, hK, hA⟩ := arg.out hn.out
  obtain rfl := hn.out
  have v0 := bC B ha
  obtain rfl := ht.out
  clear hK hA arg
  have hN := ta_ENull
  have hU := ta_EUndefined
  have hR := ta_EArray
  go_wp2_with fail
  go_end0
  exact ⟨rfl, W, B, rfl⟩
set_option maxRecDepth 100000 in
set_option maxHeartbeats 2000000 in
theorem un_ws_o (x : Fix) (hk : x.k = 0) (hb_ws : Hid ((x.nm.toList == [87, 101, 97, 107, 83, 101, 116]) = true)) (hn : Hid (x.n = 1)) (ht : Hid (x.t0 ≠ 294 ∧ x.t0 ≠ 296 ∧ x.t0 ≠ 307)) (f : Bool) (w : World) (h : Nw x f w) : Calls Try.prog 47 #[.pointer (some ⟨x.P, 0, none⟩), .pointer (some ⟨x.E, 0, none⟩)] w (Mk x false w) := by
  obtain ⟨e0, e2, e5, fz, t1, p, s0, s1, s2, s3, s4, s5, s6, s7, s8, s9, arg, nS, nI⟩ := h
  rw [hk] at s8
  obtain ⟨P, E, T, S, nm, k, o, n, A, t0, D, oi, m, I, ts, ps⟩ := x
  simp only at *
  replace arg := Lib.hid arg
  have h64 := ta_EIdentifier
  have lT : T < w.heap.size := lt_of_cell t1
  have lS : S < w.heap.size := lt_of_cell s0
  have lP : P < w.heap.size := lt_of_cell p
  go_enter Try.func47, Try.ntmps47
  go_wp2_with fail
  go_region
  generalize hW : World.drew _ = W
  have B : Below w.heap.size w W := by subst hW; exact ((Below.refl _ _).alloc (Nat.le_refl _) _).drew
  have k8 : W.cell? ⟨w.heap.size, 8, none⟩ = some (.int .u8 0) := by subst hW; go_simp
  have k1 : W.cell? ⟨w.heap.size, 1, none⟩ = some (.string nm) := by subst hW; go_simp
  clear hW
  replace fz := (B.frozen (p := ⟨E, 5, none⟩) (lt_of_cell e5)).trans fz
  replace e2 := bC B e2
  replace e5 := bC B e5
  clear e0 t1 p s0 s1 s2 s3 s4 s5 s6 s7 s8 s9 nS lT lS lP
  have b_ws : (nm.toList == [87, 101, 97, 107, 83, 101, 116]) = true := hb_ws.out
  obtain ⟨rfl, ha, hK, hA⟩ := arg.out hn.out
  obtain rfl := hn.out
  have v0 := bC B ha
  obtain ⟨ht1, ht2, ht3⟩ := ht.out
  clear hK hA arg ht
  have hN := ta_ENull
  have hU := ta_EUndefined
  have hR := ta_EArray
  go_wp2_with fail
  go_end0
  exact ⟨rfl, _, B, rfl⟩
set_option maxRecDepth 100000 in
set_option maxHeartbeats 2000000 in
theorem un_ws_arr0 (x : Fix) (hk : x.k = 0) (hb_ws : Hid ((x.nm.toList == [87, 101, 97, 107, 83, 101, 116]) = true)) (hn : Hid (x.n = 1)) (ht : Hid (x.t0 = 307)) (hm : Hid (x.m = 0)) (f : Bool) (w : World) (h : Nw x f w) : Calls Try.prog 47 #[.pointer (some ⟨x.P, 0, none⟩), .pointer (some ⟨x.E, 0, none⟩)] w (Mk x true w) := by
  obtain ⟨e0, e2, e5, fz, t1, p, s0, s1, s2, s3, s4, s5, s6, s7, s8, s9, arg, nS, nI⟩ := h
  rw [hk] at s8
  obtain ⟨P, E, T, S, nm, k, o, n, A, t0, D, oi, m, I, ts, ps⟩ := x
  simp only at *
  replace arg := Lib.hid arg
  have h64 := ta_EIdentifier
  have lT : T < w.heap.size := lt_of_cell t1
  have lS : S < w.heap.size := lt_of_cell s0
  have lP : P < w.heap.size := lt_of_cell p
  go_enter Try.func47, Try.ntmps47
  go_wp2_with fail
  go_region
  generalize hW : World.drew _ = W
  have B : Below w.heap.size w W := by subst hW; exact ((Below.refl _ _).alloc (Nat.le_refl _) _).drew
  have k8 : W.cell? ⟨w.heap.size, 8, none⟩ = some (.int .u8 0) := by subst hW; go_simp
  have k1 : W.cell? ⟨w.heap.size, 1, none⟩ = some (.string nm) := by subst hW; go_simp
  clear hW
  replace fz := (B.frozen (p := ⟨E, 5, none⟩) (lt_of_cell e5)).trans fz
  replace e2 := bC B e2
  replace e5 := bC B e5
  clear e0 t1 p s0 s1 s2 s3 s4 s5 s6 s7 s8 s9 nS lT lS lP
  have b_ws : (nm.toList == [87, 101, 97, 107, 83, 101, 116]) = true := hb_ws.out
  obtain ⟨rfl, ha, hK, hA⟩ := arg.out hn.out
  obtain rfl := hn.out
  have v0 := bC B ha
  obtain ⟨hD, _, _⟩ := hA ht.out
  obtain rfl := ht.out
  obtain rfl := hm.out
  have v1 := bC B hD
  clear hK hA arg
  have hN := ta_ENull
  have hU := ta_EUndefined
  have hR := ta_EArray
  go_wp2_with fail
  go_end0
  exact ⟨rfl, W, B, rfl⟩
set_option maxRecDepth 100000 in
set_option maxHeartbeats 2000000 in
theorem un_ws_arr1 (x : Fix) (hk : x.k = 0) (hb_ws : Hid ((x.nm.toList == [87, 101, 97, 107, 83, 101, 116]) = true)) (hn : Hid (x.n = 1)) (ht : Hid (x.t0 = 307)) (hm : Hid (0 < x.m)) (f : Bool) (w : World) (h : Nw x f w) : Calls Try.prog 47 #[.pointer (some ⟨x.P, 0, none⟩), .pointer (some ⟨x.E, 0, none⟩)] w (Mk x false w) := by
  obtain ⟨e0, e2, e5, fz, t1, p, s0, s1, s2, s3, s4, s5, s6, s7, s8, s9, arg, nS, nI⟩ := h
  rw [hk] at s8
  obtain ⟨P, E, T, S, nm, k, o, n, A, t0, D, oi, m, I, ts, ps⟩ := x
  simp only at *
  replace arg := Lib.hid arg
  have h64 := ta_EIdentifier
  have lT : T < w.heap.size := lt_of_cell t1
  have lS : S < w.heap.size := lt_of_cell s0
  have lP : P < w.heap.size := lt_of_cell p
  go_enter Try.func47, Try.ntmps47
  go_wp2_with fail
  go_region
  generalize hW : World.drew _ = W
  have B : Below w.heap.size w W := by subst hW; exact ((Below.refl _ _).alloc (Nat.le_refl _) _).drew
  have k8 : W.cell? ⟨w.heap.size, 8, none⟩ = some (.int .u8 0) := by subst hW; go_simp
  have k1 : W.cell? ⟨w.heap.size, 1, none⟩ = some (.string nm) := by subst hW; go_simp
  clear hW
  replace fz := (B.frozen (p := ⟨E, 5, none⟩) (lt_of_cell e5)).trans fz
  replace e2 := bC B e2
  replace e5 := bC B e5
  clear e0 t1 p s0 s1 s2 s3 s4 s5 s6 s7 s8 s9 nS lT lS lP
  have b_ws : (nm.toList == [87, 101, 97, 107, 83, 101, 116]) = true := hb_ws.out
  obtain ⟨rfl, ha, hK, hA⟩ := arg.out hn.out
  obtain rfl := hn.out
  have v0 := bC B ha
  obtain ⟨hD, _, _⟩ := hA ht.out
  obtain rfl := ht.out
  have m0 : ((m : Int) == 0) = false := by have := hm.out; rw [beq_eq_false_iff_ne]; omega
  have v1 := bC B hD
  clear hK hA arg
  have hN := ta_ENull
  have hU := ta_EUndefined
  have hR := ta_EArray
  go_wp2_with fail
  go_end0
  exact ⟨rfl, _, B, rfl⟩
set_option maxRecDepth 100000 in
set_option maxHeartbeats 2000000 in
theorem un_wm_0 (x : Fix) (hk : x.k = 0) (hb_ws : Hid ((x.nm.toList == [87, 101, 97, 107, 83, 101, 116]) = false)) (hb_wm : Hid ((x.nm.toList == [87, 101, 97, 107, 77, 97, 112]) = true)) (hn : Hid (x.n = 0)) (f : Bool) (w : World) (h : Nw x f w) : Calls Try.prog 47 #[.pointer (some ⟨x.P, 0, none⟩), .pointer (some ⟨x.E, 0, none⟩)] w (Mk x true w) := by
  obtain ⟨e0, e2, e5, fz, t1, p, s0, s1, s2, s3, s4, s5, s6, s7, s8, s9, arg, nS, nI⟩ := h
  rw [hk] at s8
  obtain ⟨P, E, T, S, nm, k, o, n, A, t0, D, oi, m, I, ts, ps⟩ := x
  simp only at *
  replace arg := Lib.hid arg
  have h64 := ta_EIdentifier
  have lT : T < w.heap.size := lt_of_cell t1
  have lS : S < w.heap.size := lt_of_cell s0
  have lP : P < w.heap.size := lt_of_cell p
  go_enter Try.func47, Try.ntmps47
  go_wp2_with fail
  go_region
  generalize hW : World.drew _ = W
  have B : Below w.heap.size w W := by subst hW; exact ((Below.refl _ _).alloc (Nat.le_refl _) _).drew
  have k8 : W.cell? ⟨w.heap.size, 8, none⟩ = some (.int .u8 0) := by subst hW; go_simp
  have k1 : W.cell? ⟨w.heap.size, 1, none⟩ = some (.string nm) := by subst hW; go_simp
  clear hW
  replace fz := (B.frozen (p := ⟨E, 5, none⟩) (lt_of_cell e5)).trans fz
  replace e2 := bC B e2
  replace e5 := bC B e5
  clear e0 t1 p s0 s1 s2 s3 s4 s5 s6 s7 s8 s9 nS lT lS lP
  have b_ws : (nm.toList == [87, 101, 97, 107, 83, 101, 116]) = false := hb_ws.out
  have b_wm : (nm.toList == [87, 101, 97, 107, 77, 97, 112]) = true := hb_wm.out
  obtain rfl := hn.out
  go_wp2_with fail
  go_end0
  exact ⟨rfl, W, B, rfl⟩
set_option maxRecDepth 100000 in
set_option maxHeartbeats 2000000 in
theorem un_wm_2 (x : Fix) (hk : x.k = 0) (hb_ws : Hid ((x.nm.toList == [87, 101, 97, 107, 83, 101, 116]) = false)) (hb_wm : Hid ((x.nm.toList == [87, 101, 97, 107, 77, 97, 112]) = true)) (hn : Hid (1 < x.n)) (f : Bool) (w : World) (h : Nw x f w) : Calls Try.prog 47 #[.pointer (some ⟨x.P, 0, none⟩), .pointer (some ⟨x.E, 0, none⟩)] w (Mk x false w) := by
  obtain ⟨e0, e2, e5, fz, t1, p, s0, s1, s2, s3, s4, s5, s6, s7, s8, s9, arg, nS, nI⟩ := h
  rw [hk] at s8
  obtain ⟨P, E, T, S, nm, k, o, n, A, t0, D, oi, m, I, ts, ps⟩ := x
  simp only at *
  replace arg := Lib.hid arg
  have h64 := ta_EIdentifier
  have lT : T < w.heap.size := lt_of_cell t1
  have lS : S < w.heap.size := lt_of_cell s0
  have lP : P < w.heap.size := lt_of_cell p
  go_enter Try.func47, Try.ntmps47
  go_wp2_with fail
  go_region
  generalize hW : World.drew _ = W
  have B : Below w.heap.size w W := by subst hW; exact ((Below.refl _ _).alloc (Nat.le_refl _) _).drew
  have k8 : W.cell? ⟨w.heap.size, 8, none⟩ = some (.int .u8 0) := by subst hW; go_simp
  have k1 : W.cell? ⟨w.heap.size, 1, none⟩ = some (.string nm) := by subst hW; go_simp
  clear hW
  replace fz := (B.frozen (p := ⟨E, 5, none⟩) (lt_of_cell e5)).trans fz
  replace e2 := bC B e2
  replace e5 := bC B e5
  clear e0 t1 p s0 s1 s2 s3 s4 s5 s6 s7 s8 s9 nS lT lS lP
  have b_ws : (nm.toList == [87, 101, 97, 107, 83, 101, 116]) = false := hb_ws.out
  have b_wm : (nm.toList == [87, 101, 97, 107, 77, 97, 112]) = true := hb_wm.out
  have hn2 := hn.out
  have n0 : ((n : Int) == 0) = false := by rw [beq_eq_false_iff_ne]; omega
  have n1 : ((n : Int) == 1) = false := by rw [beq_eq_false_iff_ne]; omega
  go_wp2_with fail
  go_end0
  exact ⟨rfl, _, B, rfl⟩
set_option maxRecDepth 100000 in
set_option maxHeartbeats 2000000 in
theorem un_wm_ENull (x : Fix) (hk : x.k = 0) (hb_ws : Hid ((x.nm.toList == [87, 101, 97, 107, 83, 101, 116]) = false)) (hb_wm : Hid ((x.nm.toList == [87, 101, 97, 107, 77, 97, 112]) = true)) (hn : Hid (x.n = 1)) (ht : Hid (x.t0 = 294)) (f : Bool) (w : World) (h : Nw x f w) : Calls Try.prog 47 #[.pointer (some ⟨x.P, 0, none⟩), .pointer (some ⟨x.E, 0, none⟩)] w (Mk x true w) := by
  obtain ⟨e0, e2, e5, fz, t1, p, s0, s1, s2, s3, s4, s5, s6, s7, s8, s9, arg, nS, nI⟩ := h
  rw [hk] at s8
  obtain ⟨P, E, T, S, nm, k, o, n, A, t0, D, oi, m, I, ts, ps⟩ := x
  simp only at *
  replace arg := Lib.hid arg
  have h64 := ta_EIdentifier
  have lT : T < w.heap.size := lt_of_cell t1
  have lS : S < w.heap.size := lt_of_cell s0
  have lP : P < w.heap.size := lt_of_cell p
  go_enter Try.func47, Try.ntmps47
  go_wp2_with fail
  go_region
  generalize hW : World.drew _ = W
  have B : Below w.heap.size w W := by subst hW; exact ((Below.refl _ _).alloc (Nat.le_refl _) _).drew
  have k8 : W.cell? ⟨w.heap.size, 8, none⟩ = some (.int .u8 0) := by subst hW; go_simp
  have k1 : W.cell? ⟨w.heap.size, 1, none⟩ = some (.string nm) := by subst hW; go_simp
  clear hW
  replace fz := (B.frozen (p := ⟨E, 5, none⟩) (lt_of_cell e5)).trans fz
  replace e2 := bC B e2
  replace e5 := bC B e5
  clear e0 t1 p s0 s1 s2 s3 s4 s5 s6 s7 s8 s9 nS lT lS lP
  have b_ws : (nm.toList == [87, 101, 97, 107, 83, 101, 116]) = false := hb_ws.out
  have b_wm : (nm.toList == [87, 101, 97, 107, 77, 97, 112]) = true := hb_wm.out
  obtain ⟨rfl, ha, hK, hA⟩ := arg.out hn.out
  obtain rfl := hn.out
  have v0 := bC B ha
  obtain rfl := ht.out
  clear hK hA arg
  have hN := ta_ENull
  have hU := ta_EUndefined
  have hR := ta_EArray
  go_wp2_with fail
  go_end0
  exact ⟨rfl, W, B, rfl⟩
set_option maxRecDepth 100000 in
set_option maxHeartbeats 2000000 in
theorem un_wm_EUndefined (x : Fix) (hk : x.k = 0) (hb_ws : Hid ((x.nm.toList == [87, 101, 97, 107, 83, 101, 116]) = false)) (hb_wm : Hid ((x.nm.toList == [87, 101, 97, 107, 77, 97, 112]) = true)) (hn : Hid (x.n = 1)) (ht : Hid (x.t0 = 296)) (f : Bool) (w : World) (h : Nw x f w) : Calls Try.prog 47 #[.pointer (some ⟨x.P, 0, none⟩), .pointer (some ⟨x.E, 0, none⟩)] w (Mk x true w) := by
  obtain ⟨e0, e2, e5, fz, t1, p, s0, s1, s2, s3, s4, s5, s6, s7, s8, s9, arg, nS, nI⟩ := h
  rw [hk] at s8
  obtain ⟨P, E, T, S, nm, k, o, n, A, t0, D, oi, m, I, ts, ps⟩ := x
  simp only at *
  replace arg := Lib.hid arg
  have h64 := ta_EIdentifier
  have lT : T < w.heap.size := lt_of_cell t1
  have lS : S < w.heap.size := lt_of_cell s0
  have lP : P < w.heap.size := lt_of_cell p
  go_enter Try.func47, Try.ntmps47
  go_wp2_with fail
  go_region
  generalize hW : World.drew _ = W
  have B : Below w.heap.size w W := by subst hW; exact ((Below.refl _ _).alloc (Nat.le_refl _) _).drew
  have k8 : W.cell? ⟨w.heap.size, 8, none⟩ = some (.int .u8 0) := by subst hW; go_simp
  have k1 : W.cell? ⟨w.heap.size, 1, none⟩ = some (.string nm) := by subst hW; go_simp
  clear hW
  replace fz := (B.frozen (p := ⟨E, 5, none⟩) (lt_of_cell e5)).trans fz
  replace e2 := bC B e2
  replace e5 := bC B e5
  clear e0 t1 p s0 s1 s2 s3 s4 s5 s6 s7 s8 s9 nS lT lS lP
  have b_ws : (nm.toList == [87, 101, 97, 107, 83, 101, 116]) = false := hb_ws.out
  have b_wm : (nm.toList == [87, 101, 97, 107, 77, 97, 112]) = true := hb_wm.out
  obtain ⟨rfl, ha, hK, hA⟩ := arg.out hn.out
  obtain rfl := hn.out
  have v0 := bC B ha
  obtain rfl := ht.out
  clear hK hA arg
  have hN := ta_ENull
  have hU := ta_EUndefined
  have hR := ta_EArray
  go_wp2_with fail
  go_end0
  exact ⟨rfl, W, B, rfl⟩
set_option maxRecDepth 100000 in
set_option maxHeartbeats 2000000 in
theorem un_wm_o (x : Fix) (hk : x.k = 0) (hb_ws : Hid ((x.nm.toList == [87, 101, 97, 107, 83, 101, 116]) = false)) (hb_wm : Hid ((x.nm.toList == [87, 101, 97, 107, 77, 97, 112]) = true)) (hn : Hid (x.n = 1)) (ht : Hid (x.t0 ≠ 294 ∧ x.t0 ≠ 296 ∧ x.t0 ≠ 307)) (f : Bool) (w : World) (h : Nw x f w) : Calls Try.prog 47 #[.pointer (some ⟨x.P, 0, none⟩), .pointer (some ⟨x.E, 0, none⟩)] w (Mk x false w) := by
  obtain ⟨e0, e2, e5, fz, t1, p, s0, s1, s2, s3, s4, s5, s6, s7, s8, s9, arg, nS, nI⟩ := h
  rw [hk] at s8
  obtain ⟨P, E, T, S, nm, k, o, n, A, t0, D, oi, m, I, ts, ps⟩ := x
  simp only at *
  replace arg := Lib.hid arg
  have h64 := ta_EIdentifier
  have lT : T < w.heap.size := lt_of_cell t1
  have lS : S < w.heap.size := lt_of_cell s0
  have lP : P < w.heap.size := lt_of_cell p
  go_enter Try.func47, Try.ntmps47
  go_wp2_with fail
  go_region
  generalize hW : World.drew _ = W
  have B : Below w.heap.size w W := by subst hW; exact ((Below.refl _ _).alloc (Nat.le_refl _) _).drew
  have k8 : W.cell? ⟨w.heap.size, 8, none⟩ = some (.int .u8 0) := by subst hW; go_simp
  have k1 : W.cell? ⟨w.heap.size, 1, none⟩ = some (.string nm) := by subst hW; go_simp
  clear hW
  replace fz := (B.frozen (p := ⟨E, 5, none⟩) (lt_of_cell e5)).trans fz
  replace e2 := bC B e2
  replace e5 := bC B e5
  clear e0 t1 p s0 s1 s2 s3 s4 s5 s6 s7 s8 s9 nS lT lS lP
  have b_ws : (nm.toList == [87, 101, 97, 107, 83, 101, 116]) = false := hb_ws.out
  have b_wm : (nm.toList == [87, 101, 97, 107, 77, 97, 112]) = true := hb_wm.out
  obtain ⟨rfl, ha, hK, hA⟩ := arg.out hn.out
  obtain rfl := hn.out
  have v0 := bC B ha
  obtain ⟨ht1, ht2, ht3⟩ := ht.out
  clear hK hA arg ht
  have hN := ta_ENull
  have hU := ta_EUndefined
  have hR := ta_EArray
  go_wp2_with fail
  go_end0
  exact ⟨rfl, _, B, rfl⟩
set_option maxRecDepth 100000 in
set_option maxHeartbeats 2000000 in
theorem un_wm_arr0 (x : Fix) (hk : x.k = 0) (hb_ws : Hid ((x.nm.toList == [87, 101, 97, 107, 83, 101, 116]) = false)) (hb_wm : Hid ((x.nm.toList == [87, 101, 97, 107, 77, 97, 112]) = true)) (hn : Hid (x.n = 1)) (ht : Hid (x.t0 = 307)) (hm : Hid (x.m = 0)) (f : Bool) (w : World) (h : Nw x f w) : Calls Try.prog 47 #[.pointer (some ⟨x.P, 0, none⟩), .pointer (some ⟨x.E, 0, none⟩)] w (Mk x true w) := by
  obtain ⟨e0, e2, e5, fz, t1, p, s0, s1, s2, s3, s4, s5, s6, s7, s8, s9, arg, nS, nI⟩ := h
  rw [hk] at s8
  obtain ⟨P, E, T, S, nm, k, o, n, A, t0, D, oi, m, I, ts, ps⟩ := x
  simp only at *
  replace arg := Lib.hid arg
  have h64 := ta_EIdentifier
  have lT : T < w.heap.size := lt_of_cell t1
  have lS : S < w.heap.size := lt_of_cell s0
  have lP : P < w.heap.size := lt_of_cell p
  go_enter Try.func47, Try.ntmps47
  go_wp2_with fail
  go_region
  generalize hW : World.drew _ = W
  have B : Below w.heap.size w W := by subst hW; exact ((Below.refl _ _).alloc (Nat.le_refl _) _).drew
  have k8 : W.cell? ⟨w.heap.size, 8, none⟩ = some (.int .u8 0) := by subst hW; go_simp
  have k1 : W.cell? ⟨w.heap.size, 1, none⟩ = some (.string nm) := by subst hW; go_simp
  clear hW
  replace fz := (B.frozen (p := ⟨E, 5, none⟩) (lt_of_cell e5)).trans fz
  replace e2 := bC B e2
  replace e5 := bC B e5
  clear e0 t1 p s0 s1 s2 s3 s4 s5 s6 s7 s8 s9 nS lT lS lP
  have b_ws : (nm.toList == [87, 101, 97, 107, 83, 101, 116]) = false := hb_ws.out
  have b_wm : (nm.toList == [87, 101, 97, 107, 77, 97, 112]) = true := hb_wm.out
  obtain ⟨rfl, ha, hK, hA⟩ := arg.out hn.out
  obtain rfl := hn.out
  have v0 := bC B ha
  obtain ⟨hD, _, _⟩ := hA ht.out
  obtain rfl := ht.out
  obtain rfl := hm.out
  have v1 := bC B hD
  clear hK hA arg
  have hN := ta_ENull
  have hU := ta_EUndefined
  have hR := ta_EArray
  go_wp2_with fail
  go_end0
  exact ⟨rfl, W, B, rfl⟩
set_option maxRecDepth 100000 in
set_option maxHeartbeats 2000000 in
theorem un_wm_arr1 (x : Fix) (hk : x.k = 0) (hb_ws : Hid ((x.nm.toList == [87, 101, 97, 107, 83, 101, 116]) = false)) (hb_wm : Hid ((x.nm.toList == [87, 101, 97, 107, 77, 97, 112]) = true)) (hn : Hid (x.n = 1)) (ht : Hid (x.t0 = 307)) (hm : Hid (0 < x.m)) (f : Bool) (w : World) (h : Nw x f w) : Calls Try.prog 47 #[.pointer (some ⟨x.P, 0, none⟩), .pointer (some ⟨x.E, 0, none⟩)] w (Mk x false w) := by
  obtain ⟨e0, e2, e5, fz, t1, p, s0, s1, s2, s3, s4, s5, s6, s7, s8, s9, arg, nS, nI⟩ := h
  rw [hk] at s8
  obtain ⟨P, E, T, S, nm, k, o, n, A, t0, D, oi, m, I, ts, ps⟩ := x
  simp only at *
  replace arg := Lib.hid arg
  have h64 := ta_EIdentifier
  have lT : T < w.heap.size := lt_of_cell t1
  have lS : S < w.heap.size := lt_of_cell s0
  have lP : P < w.heap.size := lt_of_cell p
  go_enter Try.func47, Try.ntmps47
  go_wp2_with fail
  go_region
  generalize hW : World.drew _ = W
  have B : Below w.heap.size w W := by subst hW; exact ((Below.refl _ _).alloc (Nat.le_refl _) _).drew
  have k8 : W.cell? ⟨w.heap.size, 8, none⟩ = some (.int .u8 0) := by subst hW; go_simp
  have k1 : W.cell? ⟨w.heap.size, 1, none⟩ = some (.string nm) := by subst hW; go_simp
  clear hW
  replace fz := (B.frozen (p := ⟨E, 5, none⟩) (lt_of_cell e5)).trans fz
  replace e2 := bC B e2
  replace e5 := bC B e5
  clear e0 t1 p s0 s1 s2 s3 s4 s5 s6 s7 s8 s9 nS lT lS lP
  have b_ws : (nm.toList == [87, 101, 97, 107, 83, 101, 116]) = false := hb_ws.out
  have b_wm : (nm.toList == [87, 101, 97, 107, 77, 97, 112]) = true := hb_wm.out
  obtain ⟨rfl, ha, hK, hA⟩ := arg.out hn.out
  obtain rfl := hn.out
  have v0 := bC B ha
  obtain ⟨hD, _, _⟩ := hA ht.out
  obtain rfl := ht.out
  have m0 : ((m : Int) == 0) = false := by have := hm.out; rw [beq_eq_false_iff_ne]; omega
  have v1 := bC B hD
  clear hK hA arg
  have hN := ta_ENull
  have hU := ta_EUndefined
  have hR := ta_EArray
  go_wp2_with fail
  go_end0
  exact ⟨rfl, _, B, rfl⟩
set_option maxRecDepth 100000 in
set_option maxHeartbeats 2000000 in
theorem un_da_0 (x : Fix) (hk : x.k = 0) (hb_ws : Hid ((x.nm.toList == [87, 101, 97, 107, 83, 101, 116]) = false)) (hb_wm : Hid ((x.nm.toList == [87, 101, 97, 107, 77, 97, 112]) = false)) (hb_da : Hid ((x.nm.toList == [68, 97, 116, 101]) = true)) (hn : Hid (x.n = 0)) (f : Bool) (w : World) (h : Nw x f w) : Calls Try.prog 47 #[.pointer (some ⟨x.P, 0, none⟩), .pointer (some ⟨x.E, 0, none⟩)] w (Mk x true w) := by
  obtain ⟨e0, e2, e5, fz, t1, p, s0, s1, s2, s3, s4, s5, s6, s7, s8, s9, arg, nS, nI⟩ := h
  rw [hk] at s8
  obtain ⟨P, E, T, S, nm, k, o, n, A, t0, D, oi, m, I, ts, ps⟩ := x
  simp only at *
  replace arg := Lib.hid arg
  have h64 := ta_EIdentifier
  have lT : T < w.heap.size := lt_of_cell t1
  have lS : S < w.heap.size := lt_of_cell s0
  have lP : P < w.heap.size := lt_of_cell p
  go_enter Try.func47, Try.ntmps47
  go_wp2_with fail
  go_region
  generalize hW : World.drew _ = W
  have B : Below w.heap.size w W := by subst hW; exact ((Below.refl _ _).alloc (Nat.le_refl _) _).drew
  have k8 : W.cell? ⟨w.heap.size, 8, none⟩ = some (.int .u8 0) := by subst hW; go_simp
  have k1 : W.cell? ⟨w.heap.size, 1, none⟩ = some (.string nm) := by subst hW; go_simp
  clear hW
  replace fz := (B.frozen (p := ⟨E, 5, none⟩) (lt_of_cell e5)).trans fz
  replace e2 := bC B e2
  replace e5 := bC B e5
  clear e0 t1 p s0 s1 s2 s3 s4 s5 s6 s7 s8 s9 nS lT lS lP
  have b_ws : (nm.toList == [87, 101, 97, 107, 83, 101, 116]) = false := hb_ws.out
  have b_wm : (nm.toList == [87, 101, 97, 107, 77, 97, 112]) = false := hb_wm.out
  have b_da : (nm.toList == [68, 97, 116, 101]) = true := hb_da.out
  obtain rfl := hn.out
  go_wp2_with fail
  go_end0
  exact ⟨rfl, W, B, rfl⟩
set_option maxRecDepth 100000 in
set_option maxHeartbeats 2000000 in
theorem un_da_2 (x : Fix) (hk : x.k = 0) (hb_ws : Hid ((x.nm.toList == [87, 101, 97, 107, 83, 101, 116]) = false)) (hb_wm : Hid ((x.nm.toList == [87, 101, 97, 107, 77, 97, 112]) = false)) (hb_da : Hid ((x.nm.toList == [68, 97, 116, 101]) = true)) (hn : Hid (1 < x.n)) (f : Bool) (w : World) (h : Nw x f w) : Calls Try.prog 47 #[.pointer (some ⟨x.P, 0, none⟩), .pointer (some ⟨x.E, 0, none⟩)] w (Mk x false w) := by
  obtain ⟨e0, e2, e5, fz, t1, p, s0, s1, s2, s3, s4, s5, s6, s7, s8, s9, arg, nS, nI⟩ := h
  rw [hk] at s8
  obtain ⟨P, E, T, S, nm, k, o, n, A, t0, D, oi, m, I, ts, ps⟩ := x
  simp only at *
  replace arg := Lib.hid arg
  have h64 := ta_EIdentifier
  have lT : T < w.heap.size := lt_of_cell t1
  have lS : S < w.heap.size := lt_of_cell s0
  have lP : P < w.heap.size := lt_of_cell p
  go_enter Try.func47, Try.ntmps47
  go_wp2_with fail
  go_region
  generalize hW : World.drew _ = W
  have B : Below w.heap.size w W := by subst hW; exact ((Below.refl _ _).alloc (Nat.le_refl _) _).drew
  have k8 : W.cell? ⟨w.heap.size, 8, none⟩ = some (.int .u8 0) := by subst hW; go_simp
  have k1 : W.cell? ⟨w.heap.size, 1, none⟩ = some (.string nm) := by subst hW; go_simp
  clear hW
  replace fz := (B.frozen (p := ⟨E, 5, none⟩) (lt_of_cell e5)).trans fz
  replace e2 := bC B e2
  replace e5 := bC B e5
  clear e0 t1 p s0 s1 s2 s3 s4 s5 s6 s7 s8 s9 nS lT lS lP
  have b_ws : (nm.toList == [87, 101, 97, 107, 83, 101, 116]) = false := hb_ws.out
  have b_wm : (nm.toList == [87, 101, 97, 107, 77, 97, 112]) = false := hb_wm.out
  have b_da : (nm.toList == [68, 97, 116, 101]) = true := hb_da.out
  have hn2 := hn.out
  have n0 : ((n : Int) == 0) = false := by rw [beq_eq_false_iff_ne]; omega
  have n1 : ((n : Int) == 1) = false := by rw [beq_eq_false_iff_ne]; omega
  go_wp2_with fail
  go_end0
  exact ⟨rfl, _, B, rfl⟩
set_option maxRecDepth 100000 in
set_option maxHeartbeats 2000000 in
theorem un_da_10 (x : Fix) (hk : x.k = 0) (hb_ws : Hid ((x.nm.toList == [87, 101, 97, 107, 83, 101, 116]) = false)) (hb_wm : Hid ((x.nm.toList == [87, 101, 97, 107, 77, 97, 112]) = false)) (hb_da : Hid ((x.nm.toList == [68, 97, 116, 101]) = true)) (hn : Hid (x.n = 1)) (ht : Hid (x.t0 = 294)) (f : Bool) (w : World) (h : Nw x f w) : Calls Try.prog 47 #[.pointer (some ⟨x.P, 0, none⟩), .pointer (some ⟨x.E, 0, none⟩)] w (Mk x true w) := by
  obtain ⟨e0, e2, e5, fz, t1, p, s0, s1, s2, s3, s4, s5, s6, s7, s8, s9, arg, nS, nI⟩ := h
  rw [hk] at s8
  obtain ⟨P, E, T, S, nm, k, o, n, A, t0, D, oi, m, I, ts, ps⟩ := x
  simp only at *
  replace arg := Lib.hid arg
  have h64 := ta_EIdentifier
  have lT : T < w.heap.size := lt_of_cell t1
  have lS : S < w.heap.size := lt_of_cell s0
  have lP : P < w.heap.size := lt_of_cell p
  go_enter Try.func47, Try.ntmps47
  go_wp2_with fail
  go_region
  generalize hW : World.drew _ = W
  have B : Below w.heap.size w W := by subst hW; exact ((Below.refl _ _).alloc (Nat.le_refl _) _).drew
  have k8 : W.cell? ⟨w.heap.size, 8, none⟩ = some (.int .u8 0) := by subst hW; go_simp
  have k1 : W.cell? ⟨w.heap.size, 1, none⟩ = some (.string nm) := by subst hW; go_simp
  clear hW
  replace fz := (B.frozen (p := ⟨E, 5, none⟩) (lt_of_cell e5)).trans fz
  replace e2 := bC B e2
  replace e5 := bC B e5
  clear e0 t1 p s0 s1 s2 s3 s4 s5 s6 s7 s8 s9 nS lT lS lP
  have b_ws : (nm.toList == [87, 101, 97, 107, 83, 101, 116]) = false := hb_ws.out
  have b_wm : (nm.toList == [87, 101, 97, 107, 77, 97, 112]) = false := hb_wm.out
  have b_da : (nm.toList == [68, 97, 116, 101]) = true := hb_da.out
  obtain ⟨rfl, ha, hK, hA⟩ := arg.out hn.out
  obtain rfl := hn.out
  have v0 := bC B ha
  obtain rfl := ht.out
  clear hK hA arg
  go_wp2_with fail
  go_at_call 56
  refine (known _ (by unfold Kind8; simp) _ _).mono ?_
  rintro e w1 ⟨rfl, rfl⟩
  simp only [prim]
  go_wp2_with fail
  go_end0
  exact ⟨rfl, W, B, rfl⟩
set_option maxRecDepth 100000 in
set_option maxHeartbeats 2000000 in
theorem un_da_11 (x : Fix) (hk : x.k = 0) (hb_ws : Hid ((x.nm.toList == [87, 101, 97, 107, 83, 101, 116]) = false)) (hb_wm : Hid ((x.nm.toList == [87, 101, 97, 107, 77, 97, 112]) = false)) (hb_da : Hid ((x.nm.toList == [68, 97, 116, 101]) = true)) (hn : Hid (x.n = 1)) (ht : Hid (x.t0 = 296)) (f : Bool) (w : World) (h : Nw x f w) : Calls Try.prog 47 #[.pointer (some ⟨x.P, 0, none⟩), .pointer (some ⟨x.E, 0, none⟩)] w (Mk x true w) := by
  obtain ⟨e0, e2, e5, fz, t1, p, s0, s1, s2, s3, s4, s5, s6, s7, s8, s9, arg, nS, nI⟩ := h
  rw [hk] at s8
  obtain ⟨P, E, T, S, nm, k, o, n, A, t0, D, oi, m, I, ts, ps⟩ := x
  simp only at *
  replace arg := Lib.hid arg
  have h64 := ta_EIdentifier
  have lT : T < w.heap.size := lt_of_cell t1
  have lS : S < w.heap.size := lt_of_cell s0
  have lP : P < w.heap.size := lt_of_cell p
  go_enter Try.func47, Try.ntmps47
  go_wp2_with fail
  go_region
  generalize hW : World.drew _ = W
  have B : Below w.heap.size w W := by subst hW; exact ((Below.refl _ _).alloc (Nat.le_refl _) _).drew
  have k8 : W.cell? ⟨w.heap.size, 8, none⟩ = some (.int .u8 0) := by subst hW; go_simp
  have k1 : W.cell? ⟨w.heap.size, 1, none⟩ = some (.string nm) := by subst hW; go_simp
  clear hW
  replace fz := (B.frozen (p := ⟨E, 5, none⟩) (lt_of_cell e5)).trans fz
  replace e2 := bC B e2
  replace e5 := bC B e5
  clear e0 t1 p s0 s1 s2 s3 s4 s5 s6 s7 s8 s9 nS lT lS lP
  have b_ws : (nm.toList == [87, 101, 97, 107, 83, 101, 116]) = false := hb_ws.out
  have b_wm : (nm.toList == [87, 101, 97, 107, 77, 97, 112]) = false := hb_wm.out
  have b_da : (nm.toList == [68, 97, 116, 101]) = true := hb_da.out
  obtain ⟨rfl, ha, hK, hA⟩ := arg.out hn.out
  obtain rfl := hn.out
  have v0 := bC B ha
  obtain rfl := ht.out
  clear hK hA arg
  go_wp2_with fail
  go_at_call 56
  refine (known _ (by unfold Kind8; simp) _ _).mono ?_
  rintro e w1 ⟨rfl, rfl⟩
  simp only [prim]
  go_wp2_with fail
  go_end0
  exact ⟨rfl, W, B, rfl⟩
set_option maxRecDepth 100000 in
set_option maxHeartbeats 2000000 in
theorem un_da_12 (x : Fix) (hk : x.k = 0) (hb_ws : Hid ((x.nm.toList == [87, 101, 97, 107, 83, 101, 116]) = false)) (hb_wm : Hid ((x.nm.toList == [87, 101, 97, 107, 77, 97, 112]) = false)) (hb_da : Hid ((x.nm.toList == [68, 97, 116, 101]) = true)) (hn : Hid (x.n = 1)) (ht : Hid (x.t0 = 298)) (f : Bool) (w : World) (h : Nw x f w) : Calls Try.prog 47 #[.pointer (some ⟨x.P, 0, none⟩), .pointer (some ⟨x.E, 0, none⟩)] w (Mk x true w) := by
  obtain ⟨e0, e2, e5, fz, t1, p, s0, s1, s2, s3, s4, s5, s6, s7, s8, s9, arg, nS, nI⟩ := h
  rw [hk] at s8
  obtain ⟨P, E, T, S, nm, k, o, n, A, t0, D, oi, m, I, ts, ps⟩ := x
  simp only at *
  replace arg := Lib.hid arg
  have h64 := ta_EIdentifier
  have lT : T < w.heap.size := lt_of_cell t1
  have lS : S < w.heap.size := lt_of_cell s0
  have lP : P < w.heap.size := lt_of_cell p
  go_enter Try.func47, Try.ntmps47
  go_wp2_with fail
  go_region
  generalize hW : World.drew _ = W
  have B : Below w.heap.size w W := by subst hW; exact ((Below.refl _ _).alloc (Nat.le_refl _) _).drew
  have k8 : W.cell? ⟨w.heap.size, 8, none⟩ = some (.int .u8 0) := by subst hW; go_simp
  have k1 : W.cell? ⟨w.heap.size, 1, none⟩ = some (.string nm) := by subst hW; go_simp
  clear hW
  replace fz := (B.frozen (p := ⟨E, 5, none⟩) (lt_of_cell e5)).trans fz
  replace e2 := bC B e2
  replace e5 := bC B e5
  clear e0 t1 p s0 s1 s2 s3 s4 s5 s6 s7 s8 s9 nS lT lS lP
  have b_ws : (nm.toList == [87, 101, 97, 107, 83, 101, 116]) = false := hb_ws.out
  have b_wm : (nm.toList == [87, 101, 97, 107, 77, 97, 112]) = false := hb_wm.out
  have b_da : (nm.toList == [68, 97, 116, 101]) = true := hb_da.out
  obtain ⟨rfl, ha, hK, hA⟩ := arg.out hn.out
  obtain rfl := hn.out
  have v0 := bC B ha
  obtain rfl := ht.out
  clear hK hA arg
  go_wp2_with fail
  go_at_call 56
  refine (known _ (by unfold Kind8; simp) _ _).mono ?_
  rintro e w1 ⟨rfl, rfl⟩
  simp only [prim]
  go_wp2_with fail
  go_end0
  exact ⟨rfl, W, B, rfl⟩
set_option maxRecDepth 100000 in
set_option maxHeartbeats 2000000 in
theorem un_da_13 (x : Fix) (hk : x.k = 0) (hb_ws : Hid ((x.nm.toList == [87, 101, 97, 107, 83, 101, 116]) = false)) (hb_wm : Hid ((x.nm.toList == [87, 101, 97, 107, 77, 97, 112]) = false)) (hb_da : Hid ((x.nm.toList == [68, 97, 116, 101]) = true)) (hn : Hid (x.n = 1)) (ht : Hid (x.t0 = 301)) (f : Bool) (w : World) (h : Nw x f w) : Calls Try.prog 47 #[.pointer (some ⟨x.P, 0, none⟩), .pointer (some ⟨x.E, 0, none⟩)] w (Mk x true w) := by
  obtain ⟨e0, e2, e5, fz, t1, p, s0, s1, s2, s3, s4, s5, s6, s7, s8, s9, arg, nS, nI⟩ := h
  rw [hk] at s8
  obtain ⟨P, E, T, S, nm, k, o, n, A, t0, D, oi, m, I, ts, ps⟩ := x
  simp only at *
  replace arg := Lib.hid arg
  have h64 := ta_EIdentifier
  have lT : T < w.heap.size := lt_of_cell t1
  have lS : S < w.heap.size := lt_of_cell s0
  have lP : P < w.heap.size := lt_of_cell p
  go_enter Try.func47, Try.ntmps47
  go_wp2_with fail
  go_region
  generalize hW : World.drew _ = W
  have B : Below w.heap.size w W := by subst hW; exact ((Below.refl _ _).alloc (Nat.le_refl _) _).drew
  have k8 : W.cell? ⟨w.heap.size, 8, none⟩ = some (.int .u8 0) := by subst hW; go_simp
  have k1 : W.cell? ⟨w.heap.size, 1, none⟩ = some (.string nm) := by subst hW; go_simp
  clear hW
  replace fz := (B.frozen (p := ⟨E, 5, none⟩) (lt_of_cell e5)).trans fz
  replace e2 := bC B e2
  replace e5 := bC B e5
  clear e0 t1 p s0 s1 s2 s3 s4 s5 s6 s7 s8 s9 nS lT lS lP
  have b_ws : (nm.toList == [87, 101, 97, 107, 83, 101, 116]) = false := hb_ws.out
  have b_wm : (nm.toList == [87, 101, 97, 107, 77, 97, 112]) = false := hb_wm.out
  have b_da : (nm.toList == [68, 97, 116, 101]) = true := hb_da.out
  obtain ⟨rfl, ha, hK, hA⟩ := arg.out hn.out
  obtain rfl := hn.out
  have v0 := bC B ha
  obtain rfl := ht.out
  clear hK hA arg
  go_wp2_with fail
  go_at_call 56
  refine (known _ (by unfold Kind8; simp) _ _).mono ?_
  rintro e w1 ⟨rfl, rfl⟩
  simp only [prim]
  go_wp2_with fail
  go_end0
  exact ⟨rfl, W, B, rfl⟩
set_option maxRecDepth 100000 in
set_option maxHeartbeats 2000000 in
theorem un_da_14 (x : Fix) (hk : x.k = 0) (hb_ws : Hid ((x.nm.toList == [87, 101, 97, 107, 83, 101, 116]) = false)) (hb_wm : Hid ((x.nm.toList == [87, 101, 97, 107, 77, 97, 112]) = false)) (hb_da : Hid ((x.nm.toList == [68, 97, 116, 101]) = true)) (hn : Hid (x.n = 1)) (ht : Hid (x.t0 = 304)) (f : Bool) (w : World) (h : Nw x f w) : Calls Try.prog 47 #[.pointer (some ⟨x.P, 0, none⟩), .pointer (some ⟨x.E, 0, none⟩)] w (Mk x true w) := by
  obtain ⟨e0, e2, e5, fz, t1, p, s0, s1, s2, s3, s4, s5, s6, s7, s8, s9, arg, nS, nI⟩ := h
  rw [hk] at s8
  obtain ⟨P, E, T, S, nm, k, o, n, A, t0, D, oi, m, I, ts, ps⟩ := x
  simp only at *
  replace arg := Lib.hid arg
  have h64 := ta_EIdentifier
  have lT : T < w.heap.size := lt_of_cell t1
  have lS : S < w.heap.size := lt_of_cell s0
  have lP : P < w.heap.size := lt_of_cell p
  go_enter Try.func47, Try.ntmps47
  go_wp2_with fail
  go_region
  generalize hW : World.drew _ = W
  have B : Below w.heap.size w W := by subst hW; exact ((Below.refl _ _).alloc (Nat.le_refl _) _).drew
  have k8 : W.cell? ⟨w.heap.size, 8, none⟩ = some (.int .u8 0) := by subst hW; go_simp
  have k1 : W.cell? ⟨w.heap.size, 1, none⟩ = some (.string nm) := by subst hW; go_simp
  clear hW
  replace fz := (B.frozen (p := ⟨E, 5, none⟩) (lt_of_cell e5)).trans fz
  replace e2 := bC B e2
  replace e5 := bC B e5
  clear e0 t1 p s0 s1 s2 s3 s4 s5 s6 s7 s8 s9 nS lT lS lP
  have b_ws : (nm.toList == [87, 101, 97, 107, 83, 101, 116]) = false := hb_ws.out
  have b_wm : (nm.toList == [87, 101, 97, 107, 77, 97, 112]) = false := hb_wm.out
  have b_da : (nm.toList == [68, 97, 116, 101]) = true := hb_da.out
  obtain ⟨rfl, ha, hK, hA⟩ := arg.out hn.out
  obtain rfl := hn.out
  have v0 := bC B ha
  obtain rfl := ht.out
  clear hK hA arg
  go_wp2_with fail
  go_at_call 56
  refine (known _ (by unfold Kind8; simp) _ _).mono ?_
  rintro e w1 ⟨rfl, rfl⟩
  simp only [prim]
  go_wp2_with fail
  go_end0
  exact ⟨rfl, W, B, rfl⟩
set_option maxRecDepth 100000 in
set_option maxHeartbeats 2000000 in
theorem un_da_15 (x : Fix) (hk : x.k = 0) (hb_ws : Hid ((x.nm.toList == [87, 101, 97, 107, 83, 101, 116]) = false)) (hb_wm : Hid ((x.nm.toList == [87, 101, 97, 107, 77, 97, 112]) = false)) (hb_da : Hid ((x.nm.toList == [68, 97, 116, 101]) = true)) (hn : Hid (x.n = 1)) (ht : Hid (x.t0 = 307)) (f : Bool) (w : World) (h : Nw x f w) : Calls Try.prog 47 #[.pointer (some ⟨x.P, 0, none⟩), .pointer (some ⟨x.E, 0, none⟩)] w (Mk x false w) := by
  obtain ⟨e0, e2, e5, fz, t1, p, s0, s1, s2, s3, s4, s5, s6, s7, s8, s9, arg, nS, nI⟩ := h
  rw [hk] at s8
  obtain ⟨P, E, T, S, nm, k, o, n, A, t0, D, oi, m, I, ts, ps⟩ := x
  simp only at *
  replace arg := Lib.hid arg
  have h64 := ta_EIdentifier
  have lT : T < w.heap.size := lt_of_cell t1
  have lS : S < w.heap.size := lt_of_cell s0
  have lP : P < w.heap.size := lt_of_cell p
  go_enter Try.func47, Try.ntmps47
  go_wp2_with fail
  go_region
  generalize hW : World.drew _ = W
  have B : Below w.heap.size w W := by subst hW; exact ((Below.refl _ _).alloc (Nat.le_refl _) _).drew
  have k8 : W.cell? ⟨w.heap.size, 8, none⟩ = some (.int .u8 0) := by subst hW; go_simp
  have k1 : W.cell? ⟨w.heap.size, 1, none⟩ = some (.string nm) := by subst hW; go_simp
  clear hW
  replace fz := (B.frozen (p := ⟨E, 5, none⟩) (lt_of_cell e5)).trans fz
  replace e2 := bC B e2
  replace e5 := bC B e5
  clear e0 t1 p s0 s1 s2 s3 s4 s5 s6 s7 s8 s9 nS lT lS lP
  have b_ws : (nm.toList == [87, 101, 97, 107, 83, 101, 116]) = false := hb_ws.out
  have b_wm : (nm.toList == [87, 101, 97, 107, 77, 97, 112]) = false := hb_wm.out
  have b_da : (nm.toList == [68, 97, 116, 101]) = true := hb_da.out
  obtain ⟨rfl, ha, hK, hA⟩ := arg.out hn.out
  obtain rfl := hn.out
  have v0 := bC B ha
  obtain rfl := ht.out
  clear hK hA arg
  go_wp2_with fail
  go_at_call 56
  refine (known _ (by unfold Kind8; simp) _ _).mono ?_
  rintro e w1 ⟨rfl, rfl⟩
  simp only [prim]
  go_wp2_with fail
  go_end0
  exact ⟨rfl, _, B, rfl⟩
set_option maxRecDepth 100000 in
set_option maxHeartbeats 2000000 in
theorem un_da_16 (x : Fix) (hk : x.k = 0) (hb_ws : Hid ((x.nm.toList == [87, 101, 97, 107, 83, 101, 116]) = false)) (hb_wm : Hid ((x.nm.toList == [87, 101, 97, 107, 77, 97, 112]) = false)) (hb_da : Hid ((x.nm.toList == [68, 97, 116, 101]) = true)) (hn : Hid (x.n = 1)) (ht : Hid (x.t0 = 64)) (f : Bool) (w : World) (h : Nw x f w) : Calls Try.prog 47 #[.pointer (some ⟨x.P, 0, none⟩), .pointer (some ⟨x.E, 0, none⟩)] w (Mk x false w) := by
  obtain ⟨e0, e2, e5, fz, t1, p, s0, s1, s2, s3, s4, s5, s6, s7, s8, s9, arg, nS, nI⟩ := h
  rw [hk] at s8
  obtain ⟨P, E, T, S, nm, k, o, n, A, t0, D, oi, m, I, ts, ps⟩ := x
  simp only at *
  replace arg := Lib.hid arg
  have h64 := ta_EIdentifier
  have lT : T < w.heap.size := lt_of_cell t1
  have lS : S < w.heap.size := lt_of_cell s0
  have lP : P < w.heap.size := lt_of_cell p
  go_enter Try.func47, Try.ntmps47
  go_wp2_with fail
  go_region
  generalize hW : World.drew _ = W
  have B : Below w.heap.size w W := by subst hW; exact ((Below.refl _ _).alloc (Nat.le_refl _) _).drew
  have k8 : W.cell? ⟨w.heap.size, 8, none⟩ = some (.int .u8 0) := by subst hW; go_simp
  have k1 : W.cell? ⟨w.heap.size, 1, none⟩ = some (.string nm) := by subst hW; go_simp
  clear hW
  replace fz := (B.frozen (p := ⟨E, 5, none⟩) (lt_of_cell e5)).trans fz
  replace e2 := bC B e2
  replace e5 := bC B e5
  clear e0 t1 p s0 s1 s2 s3 s4 s5 s6 s7 s8 s9 nS lT lS lP
  have b_ws : (nm.toList == [87, 101, 97, 107, 83, 101, 116]) = false := hb_ws.out
  have b_wm : (nm.toList == [87, 101, 97, 107, 77, 97, 112]) = false := hb_wm.out
  have b_da : (nm.toList == [68, 97, 116, 101]) = true := hb_da.out
  obtain ⟨rfl, ha, hK, hA⟩ := arg.out hn.out
  obtain rfl := hn.out
  have v0 := bC B ha
  obtain rfl := ht.out
  clear hK hA arg
  go_wp2_with fail
  go_at_call 56
  refine (known _ (by unfold Kind8; simp) _ _).mono ?_
  rintro e w1 ⟨rfl, rfl⟩
  simp only [prim]
  go_wp2_with fail
  go_end0
  exact ⟨rfl, _, B, rfl⟩
set_option maxRecDepth 100000 in
set_option maxHeartbeats 2000000 in
theorem un_da_17 (x : Fix) (hk : x.k = 0) (hb_ws : Hid ((x.nm.toList == [87, 101, 97, 107, 83, 101, 116]) = false)) (hb_wm : Hid ((x.nm.toList == [87, 101, 97, 107, 77, 97, 112]) = false)) (hb_da : Hid ((x.nm.toList == [68, 97, 116, 101]) = true)) (hn : Hid (x.n = 1)) (ht : Hid (x.t0 = 310)) (f : Bool) (w : World) (h : Nw x f w) : Calls Try.prog 47 #[.pointer (some ⟨x.P, 0, none⟩), .pointer (some ⟨x.E, 0, none⟩)] w (Mk x false w) := by
  obtain ⟨e0, e2, e5, fz, t1, p, s0, s1, s2, s3, s4, s5, s6, s7, s8, s9, arg, nS, nI⟩ := h
  rw [hk] at s8
  obtain ⟨P, E, T, S, nm, k, o, n, A, t0, D, oi, m, I, ts, ps⟩ := x
  simp only at *
  replace arg := Lib.hid arg
  have h64 := ta_EIdentifier
  have lT : T < w.heap.size := lt_of_cell t1
  have lS : S < w.heap.size := lt_of_cell s0
  have lP : P < w.heap.size := lt_of_cell p
  go_enter Try.func47, Try.ntmps47
  go_wp2_with fail
  go_region
  generalize hW : World.drew _ = W
  have B : Below w.heap.size w W := by subst hW; exact ((Below.refl _ _).alloc (Nat.le_refl _) _).drew
  have k8 : W.cell? ⟨w.heap.size, 8, none⟩ = some (.int .u8 0) := by subst hW; go_simp
  have k1 : W.cell? ⟨w.heap.size, 1, none⟩ = some (.string nm) := by subst hW; go_simp
  clear hW
  replace fz := (B.frozen (p := ⟨E, 5, none⟩) (lt_of_cell e5)).trans fz
  replace e2 := bC B e2
  replace e5 := bC B e5
  clear e0 t1 p s0 s1 s2 s3 s4 s5 s6 s7 s8 s9 nS lT lS lP
  have b_ws : (nm.toList == [87, 101, 97, 107, 83, 101, 116]) = false := hb_ws.out
  have b_wm : (nm.toList == [87, 101, 97, 107, 77, 97, 112]) = false := hb_wm.out
  have b_da : (nm.toList == [68, 97, 116, 101]) = true := hb_da.out
  obtain ⟨rfl, ha, hK, hA⟩ := arg.out hn.out
  obtain rfl := hn.out
  have v0 := bC B ha
  obtain rfl := ht.out
  clear hK hA arg
  go_wp2_with fail
  go_at_call 56
  refine (known _ (by unfold Kind8; simp) _ _).mono ?_
  rintro e w1 ⟨rfl, rfl⟩
  simp only [prim]
  go_wp2_with fail
  go_end0
  exact ⟨rfl, _, B, rfl⟩
set_option maxRecDepth 100000 in
set_option maxHeartbeats 2000000 in
theorem un_se_0 (x : Fix) (hk : x.k = 0) (hb_ws : Hid ((x.nm.toList == [87, 101, 97, 107, 83, 101, 116]) = false)) (hb_wm : Hid ((x.nm.toList == [87, 101, 97, 107, 77, 97, 112]) = false)) (hb_da : Hid ((x.nm.toList == [68, 97, 116, 101]) = false)) (hb_se : Hid ((x.nm.toList == [83, 101, 116]) = true)) (hn : Hid (x.n = 0)) (f : Bool) (w : World) (h : Nw x f w) : Calls Try.prog 47 #[.pointer (some ⟨x.P, 0, none⟩), .pointer (some ⟨x.E, 0, none⟩)] w (Mk x true w) := by
  obtain ⟨e0, e2, e5, fz, t1, p, s0, s1, s2, s3, s4, s5, s6, s7, s8, s9, arg, nS, nI⟩ := h
  rw [hk] at s8
  obtain ⟨P, E, T, S, nm, k, o, n, A, t0, D, oi, m, I, ts, ps⟩ := x
  simp only at *
  replace arg := Lib.hid arg
  have h64 := ta_EIdentifier
  have lT : T < w.heap.size := lt_of_cell t1
  have lS : S < w.heap.size := lt_of_cell s0
  have lP : P < w.heap.size := lt_of_cell p
  go_enter Try.func47, Try.ntmps47
  go_wp2_with fail
  go_region
  generalize hW : World.drew _ = W
  have B : Below w.heap.size w W := by subst hW; exact ((Below.refl _ _).alloc (Nat.le_refl _) _).drew
  have k8 : W.cell? ⟨w.heap.size, 8, none⟩ = some (.int .u8 0) := by subst hW; go_simp
  have k1 : W.cell? ⟨w.heap.size, 1, none⟩ = some (.string nm) := by subst hW; go_simp
  clear hW
  replace fz := (B.frozen (p := ⟨E, 5, none⟩) (lt_of_cell e5)).trans fz
  replace e2 := bC B e2
  replace e5 := bC B e5
  clear e0 t1 p s0 s1 s2 s3 s4 s5 s6 s7 s8 s9 nS lT lS lP
  have b_ws : (nm.toList == [87, 101, 97, 107, 83, 101, 116]) = false := hb_ws.out
  have b_wm : (nm.toList == [87, 101, 97, 107, 77, 97, 112]) = false := hb_wm.out
  have b_da : (nm.toList == [68, 97, 116, 101]) = false := hb_da.out
  have b_se : (nm.toList == [83, 101, 116]) = true := hb_se.out
  obtain rfl := hn.out
  go_wp2_with fail
  go_end0
  exact ⟨rfl, W, B, rfl⟩
set_option maxRecDepth 100000 in
set_option maxHeartbeats 2000000 in
theorem un_se_2 (x : Fix) (hk : x.k = 0) (hb_ws : Hid ((x.nm.toList == [87, 101, 97, 107, 83, 101, 116]) = false)) (hb_wm : Hid ((x.nm.toList == [87, 101, 97, 107, 77, 97, 112]) = false)) (hb_da : Hid ((x.nm.toList == [68, 97, 116, 101]) = false)) (hb_se : Hid ((x.nm.toList == [83, 101, 116]) = true)) (hn : Hid (1 < x.n)) (f : Bool) (w : World) (h : Nw x f w) : Calls Try.prog 47 #[.pointer (some ⟨x.P, 0, none⟩), .pointer (some ⟨x.E, 0, none⟩)] w (Mk x false w) := by
  obtain ⟨e0, e2, e5, fz, t1, p, s0, s1, s2, s3, s4, s5, s6, s7, s8, s9, arg, nS, nI⟩ := h
  rw [hk] at s8
  obtain ⟨P, E, T, S, nm, k, o, n, A, t0, D, oi, m, I, ts, ps⟩ := x
  simp only at *
  replace arg := Lib.hid arg
  have h64 := ta_EIdentifier
  have lT : T < w.heap.size := lt_of_cell t1
  have lS : S < w.heap.size := lt_of_cell s0
  have lP : P < w.heap.size := lt_of_cell p
  go_enter Try.func47, Try.ntmps47
  go_wp2_with fail
  go_region
  generalize hW : World.drew _ = W
  have B : Below w.heap.size w W := by subst hW; exact ((Below.refl _ _).alloc (Nat.le_refl _) _).drew
  have k8 : W.cell? ⟨w.heap.size, 8, none⟩ = some (.int .u8 0) := by subst hW; go_simp
  have k1 : W.cell? ⟨w.heap.size, 1, none⟩ = some (.string nm) := by subst hW; go_simp
  clear hW
  replace fz := (B.frozen (p := ⟨E, 5, none⟩) (lt_of_cell e5)).trans fz
  replace e2 := bC B e2
  replace e5 := bC B e5
  clear e0 t1 p s0 s1 s2 s3 s4 s5 s6 s7 s8 s9 nS lT lS lP
  have b_ws : (nm.toList == [87, 101, 97, 107, 83, 101, 116]) = false := hb_ws.out
  have b_wm : (nm.toList == [87, 101, 97, 107, 77, 97, 112]) = false := hb_wm.out
  have b_da : (nm.toList == [68, 97, 116, 101]) = false := hb_da.out
  have b_se : (nm.toList == [83, 101, 116]) = true := hb_se.out
  have hn2 := hn.out
  have n0 : ((n : Int) == 0) = false := by rw [beq_eq_false_iff_ne]; omega
  have n1 : ((n : Int) == 1) = false := by rw [beq_eq_false_iff_ne]; omega
  go_wp2_with fail
  go_end0
  exact ⟨rfl, _, B, rfl⟩
set_option maxRecDepth 100000 in
set_option maxHeartbeats 2000000 in
theorem un_se_ENull (x : Fix) (hk : x.k = 0) (hb_ws : Hid ((x.nm.toList == [87, 101, 97, 107, 83, 101, 116]) = false)) (hb_wm : Hid ((x.nm.toList == [87, 101, 97, 107, 77, 97, 112]) = false)) (hb_da : Hid ((x.nm.toList == [68, 97, 116, 101]) = false)) (hb_se : Hid ((x.nm.toList == [83, 101, 116]) = true)) (hn : Hid (x.n = 1)) (ht : Hid (x.t0 = 294)) (f : Bool) (w : World) (h : Nw x f w) : Calls Try.prog 47 #[.pointer (some ⟨x.P, 0, none⟩), .pointer (some ⟨x.E, 0, none⟩)] w (Mk x true w) := by
  obtain ⟨e0, e2, e5, fz, t1, p, s0, s1, s2, s3, s4, s5, s6, s7, s8, s9, arg, nS, nI⟩ := h
  rw [hk] at s8
  obtain ⟨P, E, T, S, nm, k, o, n, A, t0, D, oi, m, I, ts, ps⟩ := x
  simp only at *
  replace arg := Lib.hid arg
  have h64 := ta_EIdentifier
  have lT : T < w.heap.size := lt_of_cell t1
  have lS : S < w.heap.size := lt_of_cell s0
  have lP : P < w.heap.size := lt_of_cell p
  go_enter Try.func47, Try.ntmps47
  go_wp2_with fail
  go_region
  generalize hW : World.drew _ = W
  have B : Below w.heap.size w W := by subst hW; exact ((Below.refl _ _).alloc (Nat.le_refl _) _).drew
  have k8 : W.cell? ⟨w.heap.size, 8, none⟩ = some (.int .u8 0) := by subst hW; go_simp
  have k1 : W.cell? ⟨w.heap.size, 1, none⟩ = some (.string nm) := by subst hW; go_simp
  clear hW
  replace fz := (B.frozen (p := ⟨E, 5, none⟩) (lt_of_cell e5)).trans fz
  replace e2 := bC B e2
  replace e5 := bC B e5
  clear e0 t1 p s0 s1 s2 s3 s4 s5 s6 s7 s8 s9 nS lT lS lP
  have b_ws : (nm.toList == [87, 101, 97, 107, 83, 101, 116]) = false := hb_ws.out
  have b_wm : (nm.toList == [87, 101, 97, 107, 77, 97, 112]) = false := hb_wm.out
  have b_da : (nm.toList == [68, 97, 116, 101]) = false := hb_da.out
  have b_se : (nm.toList == [83, 101, 116]) = true := hb_se.out
  obtain ⟨rfl, ha, hK, hA⟩ := arg.out hn.out
  obtain rfl := hn.out
  have v0 := bC B ha
  obtain rfl := ht.out
  clear hK hA arg
  have hN := ta_ENull
  have hU := ta_EUndefined
  have hR := ta_EArray
  go_wp2_with fail
  go_end0
  exact ⟨rfl, W, B, rfl⟩
set_option maxRecDepth 100000 in
set_option maxHeartbeats 2000000 in
theorem un_se_EUndefined (x : Fix) (hk : x.k = 0) (hb_ws : Hid ((x.nm.toList == [87, 101, 97, 107, 83, 101, 116]) = false)) (hb_wm : Hid ((x.nm.toList == [87, 101, 97, 107, 77, 97, 112]) = false)) (hb_da : Hid ((x.nm.toList == [68, 97, 116, 101]) = false)) (hb_se : Hid ((x.nm.toList == [83, 101, 116]) = true)) (hn : Hid (x.n = 1)) (ht : Hid (x.t0 = 296)) (f : Bool) (w : World) (h : Nw x f w) : Calls Try.prog 47 #[.pointer (some ⟨x.P, 0, none⟩), .pointer (some ⟨x.E, 0, none⟩)] w (Mk x true w) := by
  obtain ⟨e0, e2, e5, fz, t1, p, s0, s1, s2, s3, s4, s5, s6, s7, s8, s9, arg, nS, nI⟩ := h
  rw [hk] at s8
  obtain ⟨P, E, T, S, nm, k, o, n, A, t0, D, oi, m, I, ts, ps⟩ := x
  simp only at *
  replace arg := Lib.hid arg
  have h64 := ta_EIdentifier
  have lT : T < w.heap.size := lt_of_cell t1
  have lS : S < w.heap.size := lt_of_cell s0
  have lP : P < w.heap.size := lt_of_cell p
  go_enter Try.func47, Try.ntmps47
  go_wp2_with fail
  go_region
  generalize hW : World.drew _ = W
  have B : Below w.heap.size w W := by subst hW; exact ((Below.refl _ _).alloc (Nat.le_refl _) _).drew
  have k8 : W.cell? ⟨w.heap.size, 8, none⟩ = some (.int .u8 0) := by subst hW; go_simp
  have k1 : W.cell? ⟨w.heap.size, 1, none⟩ = some (.string nm) := by subst hW; go_simp
  clear hW
  replace fz := (B.frozen (p := ⟨E, 5, none⟩) (lt_of_cell e5)).trans fz
  replace e2 := bC B e2
  replace e5 := bC B e5
  clear e0 t1 p s0 s1 s2 s3 s4 s5 s6 s7 s8 s9 nS lT lS lP
  have b_ws : (nm.toList == [87, 101, 97, 107, 83, 101, 116]) = false := hb_ws.out
  have b_wm : (nm.toList == [87, 101, 97, 107, 77, 97, 112]) = false := hb_wm.out
  have b_da : (nm.toList == [68, 97, 116, 101]) = false := hb_da.out
  have b_se : (nm.toList == [83, 101, 116]) = true := hb_se.out
  obtain ⟨rfl, ha, hK, hA⟩ := arg.out hn.out
  obtain rfl := hn.out
  have v0 := bC B ha
  obtain rfl := ht.out
  clear hK hA arg
  have hN := ta_ENull
  have hU := ta_EUndefined
  have hR := ta_EArray
  go_wp2_with fail
  go_end0
  exact ⟨rfl, W, B, rfl⟩
set_option maxRecDepth 100000 in
set_option maxHeartbeats 2000000 in
theorem un_se_o (x : Fix) (hk : x.k = 0) (hb_ws : Hid ((x.nm.toList == [87, 101, 97, 107, 83, 101, 116]) = false)) (hb_wm : Hid ((x.nm.toList == [87, 101, 97, 107, 77, 97, 112]) = false)) (hb_da : Hid ((x.nm.toList == [68, 97, 116, 101]) = false)) (hb_se : Hid ((x.nm.toList == [83, 101, 116]) = true)) (hn : Hid (x.n = 1)) (ht : Hid (x.t0 ≠ 294 ∧ x.t0 ≠ 296 ∧ x.t0 ≠ 307)) (f : Bool) (w : World) (h : Nw x f w) : Calls Try.prog 47 #[.pointer (some ⟨x.P, 0, none⟩), .pointer (some ⟨x.E, 0, none⟩)] w (Mk x false w) := by
  obtain ⟨e0, e2, e5, fz, t1, p, s0, s1, s2, s3, s4, s5, s6, s7, s8, s9, arg, nS, nI⟩ := h
  rw [hk] at s8
  obtain ⟨P, E, T, S, nm, k, o, n, A, t0, D, oi, m, I, ts, ps⟩ := x
  simp only at *
  replace arg := Lib.hid arg
  have h64 := ta_EIdentifier
  have lT : T < w.heap.size := lt_of_cell t1
  have lS : S < w.heap.size := lt_of_cell s0
  have lP : P < w.heap.size := lt_of_cell p
  go_enter Try.func47, Try.ntmps47
  go_wp2_with fail
  go_region
  generalize hW : World.drew _ = W
  have B : Below w.heap.size w W := by subst hW; exact ((Below.refl _ _).alloc (Nat.le_refl _) _).drew
  have k8 : W.cell? ⟨w.heap.size, 8, none⟩ = some (.int .u8 0) := by subst hW; go_simp
  have k1 : W.cell? ⟨w.heap.size, 1, none⟩ = some (.string nm) := by subst hW; go_simp
  clear hW
  replace fz := (B.frozen (p := ⟨E, 5, none⟩) (lt_of_cell e5)).trans fz
  replace e2 := bC B e2
  replace e5 := bC B e5
  clear e0 t1 p s0 s1 s2 s3 s4 s5 s6 s7 s8 s9 nS lT lS lP
  have b_ws : (nm.toList == [87, 101, 97, 107, 83, 101, 116]) = false := hb_ws.out
  have b_wm : (nm.toList == [87, 101, 97, 107, 77, 97, 112]) = false := hb_wm.out
  have b_da : (nm.toList == [68, 97, 116, 101]) = false := hb_da.out
  have b_se : (nm.toList == [83, 101, 116]) = true := hb_se.out
  obtain ⟨rfl, ha, hK, hA⟩ := arg.out hn.out
  obtain rfl := hn.out
  have v0 := bC B ha
  obtain ⟨ht1, ht2, ht3⟩ := ht.out
  clear hK hA arg ht
  have hN := ta_ENull
  have hU := ta_EUndefined
  have hR := ta_EArray
  go_wp2_with fail
  go_end0
  exact ⟨rfl, _, B, rfl⟩
set_option maxRecDepth 100000 in
set_option maxHeartbeats 2000000 in
theorem un_se_arr (x : Fix) (hk : x.k = 0) (hb_ws : Hid ((x.nm.toList == [87, 101, 97, 107, 83, 101, 116]) = false)) (hb_wm : Hid ((x.nm.toList == [87, 101, 97, 107, 77, 97, 112]) = false)) (hb_da : Hid ((x.nm.toList == [68, 97, 116, 101]) = false)) (hb_se : Hid ((x.nm.toList == [83, 101, 116]) = true)) (hn : Hid (x.n = 1)) (ht : Hid (x.t0 = 307)) (f : Bool) (w : World) (h : Nw x f w) : Calls Try.prog 47 #[.pointer (some ⟨x.P, 0, none⟩), .pointer (some ⟨x.E, 0, none⟩)] w (Mk x true w) := by
  obtain ⟨e0, e2, e5, fz, t1, p, s0, s1, s2, s3, s4, s5, s6, s7, s8, s9, arg, nS, nI⟩ := h
  rw [hk] at s8
  obtain ⟨P, E, T, S, nm, k, o, n, A, t0, D, oi, m, I, ts, ps⟩ := x
  simp only at *
  replace arg := Lib.hid arg
  have h64 := ta_EIdentifier
  have lT : T < w.heap.size := lt_of_cell t1
  have lS : S < w.heap.size := lt_of_cell s0
  have lP : P < w.heap.size := lt_of_cell p
  go_enter Try.func47, Try.ntmps47
  go_wp2_with fail
  go_region
  generalize hW : World.drew _ = W
  have B : Below w.heap.size w W := by subst hW; exact ((Below.refl _ _).alloc (Nat.le_refl _) _).drew
  have k8 : W.cell? ⟨w.heap.size, 8, none⟩ = some (.int .u8 0) := by subst hW; go_simp
  have k1 : W.cell? ⟨w.heap.size, 1, none⟩ = some (.string nm) := by subst hW; go_simp
  clear hW
  replace fz := (B.frozen (p := ⟨E, 5, none⟩) (lt_of_cell e5)).trans fz
  replace e2 := bC B e2
  replace e5 := bC B e5
  clear e0 t1 p s0 s1 s2 s3 s4 s5 s6 s7 s8 s9 nS lT lS lP
  have b_ws : (nm.toList == [87, 101, 97, 107, 83, 101, 116]) = false := hb_ws.out
  have b_wm : (nm.toList == [87, 101, 97, 107, 77, 97, 112]) = false := hb_wm.out
  have b_da : (nm.toList == [68, 97, 116, 101]) = false := hb_da.out
  have b_se : (nm.toList == [83, 101, 116]) = true := hb_se.out
  obtain ⟨rfl, ha, hK, hA⟩ := arg.out hn.out
  obtain rfl := hn.out
  have v0 := bC B ha
  obtain rfl := ht.out
  clear hK hA arg
  have hN := ta_ENull
  have hU := ta_EUndefined
  have hR := ta_EArray
  go_wp2_with fail
  go_end0
  exact ⟨rfl, W, B, rfl⟩
set_option maxRecDepth 100000 in
set_option maxHeartbeats 2000000 in
theorem un_ma_0 (x : Fix) (hk : x.k = 0) (hb_ws : Hid ((x.nm.toList == [87, 101, 97, 107, 83, 101, 116]) = false)) (hb_wm : Hid ((x.nm.toList == [87, 101, 97, 107, 77, 97, 112]) = false)) (hb_da : Hid ((x.nm.toList == [68, 97, 116, 101]) = false)) (hb_se : Hid ((x.nm.toList == [83, 101, 116]) = false)) (hb_ma : Hid ((x.nm.toList == [77, 97, 112]) = true)) (hn : Hid (x.n = 0)) (f : Bool) (w : World) (h : Nw x f w) : Calls Try.prog 47 #[.pointer (some ⟨x.P, 0, none⟩), .pointer (some ⟨x.E, 0, none⟩)] w (Mk x true w) := by
  obtain ⟨e0, e2, e5, fz, t1, p, s0, s1, s2, s3, s4, s5, s6, s7, s8, s9, arg, nS, nI⟩ := h
  rw [hk] at s8
  obtain ⟨P, E, T, S, nm, k, o, n, A, t0, D, oi, m, I, ts, ps⟩ := x
  simp only at *
  replace arg := Lib.hid arg
  have h64 := ta_EIdentifier
  have lT : T < w.heap.size := lt_of_cell t1
  have lS : S < w.heap.size := lt_of_cell s0
  have lP : P < w.heap.size := lt_of_cell p
  go_enter Try.func47, Try.ntmps47
  go_wp2_with fail
  go_region
  generalize hW : World.drew _ = W
  have B : Below w.heap.size w W := by subst hW; exact ((Below.refl _ _).alloc (Nat.le_refl _) _).drew
  have k8 : W.cell? ⟨w.heap.size, 8, none⟩ = some (.int .u8 0) := by subst hW; go_simp
  have k1 : W.cell? ⟨w.heap.size, 1, none⟩ = some (.string nm) := by subst hW; go_simp
  clear hW
  replace fz := (B.frozen (p := ⟨E, 5, none⟩) (lt_of_cell e5)).trans fz
  replace e2 := bC B e2
  replace e5 := bC B e5
  clear e0 t1 p s0 s1 s2 s3 s4 s5 s6 s7 s8 s9 nS lT lS lP
  have b_ws : (nm.toList == [87, 101, 97, 107, 83, 101, 116]) = false := hb_ws.out
  have b_wm : (nm.toList == [87, 101, 97, 107, 77, 97, 112]) = false := hb_wm.out
  have b_da : (nm.toList == [68, 97, 116, 101]) = false := hb_da.out
  have b_se : (nm.toList == [83, 101, 116]) = false := hb_se.out
  have b_ma : (nm.toList == [77, 97, 112]) = true := hb_ma.out
  obtain rfl := hn.out
  go_wp2_with fail
  go_end0
  exact ⟨rfl, W, B, rfl⟩
set_option maxRecDepth 100000 in
set_option maxHeartbeats 2000000 in
theorem un_ma_2 (x : Fix) (hk : x.k = 0) (hb_ws : Hid ((x.nm.toList == [87, 101, 97, 107, 83, 101, 116]) = false)) (hb_wm : Hid ((x.nm.toList == [87, 101, 97, 107, 77, 97, 112]) = false)) (hb_da : Hid ((x.nm.toList == [68, 97, 116, 101]) = false)) (hb_se : Hid ((x.nm.toList == [83, 101, 116]) = false)) (hb_ma : Hid ((x.nm.toList == [77, 97, 112]) = true)) (hn : Hid (1 < x.n)) (f : Bool) (w : World) (h : Nw x f w) : Calls Try.prog 47 #[.pointer (some ⟨x.P, 0, none⟩), .pointer (some ⟨x.E, 0, none⟩)] w (Mk x false w) := by
  obtain ⟨e0, e2, e5, fz, t1, p, s0, s1, s2, s3, s4, s5, s6, s7, s8, s9, arg, nS, nI⟩ := h
  rw [hk] at s8
  obtain ⟨P, E, T, S, nm, k, o, n, A, t0, D, oi, m, I, ts, ps⟩ := x
  simp only at *
  replace arg := Lib.hid arg
  have h64 := ta_EIdentifier
  have lT : T < w.heap.size := lt_of_cell t1
  have lS : S < w.heap.size := lt_of_cell s0
  have lP : P < w.heap.size := lt_of_cell p
  go_enter Try.func47, Try.ntmps47
  go_wp2_with fail
  go_region
  generalize hW : World.drew _ = W
  have B : Below w.heap.size w W := by subst hW; exact ((Below.refl _ _).alloc (Nat.le_refl _) _).drew
  have k8 : W.cell? ⟨w.heap.size, 8, none⟩ = some (.int .u8 0) := by subst hW; go_simp
  have k1 : W.cell? ⟨w.heap.size, 1, none⟩ = some (.string nm) := by subst hW; go_simp
  clear hW
  replace fz := (B.frozen (p := ⟨E, 5, none⟩) (lt_of_cell e5)).trans fz
  replace e2 := bC B e2
  replace e5 := bC B e5
  clear e0 t1 p s0 s1 s2 s3 s4 s5 s6 s7 s8 s9 nS lT lS lP
  have b_ws : (nm.toList == [87, 101, 97, 107, 83, 101, 116]) = false := hb_ws.out
  have b_wm : (nm.toList == [87, 101, 97, 107, 77, 97, 112]) = false := hb_wm.out
  have b_da : (nm.toList == [68, 97, 116, 101]) = false := hb_da.out
  have b_se : (nm.toList == [83, 101, 116]) = false := hb_se.out
  have b_ma : (nm.toList == [77, 97, 112]) = true := hb_ma.out
  have hn2 := hn.out
  have n0 : ((n : Int) == 0) = false := by rw [beq_eq_false_iff_ne]; omega
  have n1 : ((n : Int) == 1) = false := by rw [beq_eq_false_iff_ne]; omega
  go_wp2_with fail
  go_end0
  exact ⟨rfl, _, B, rfl⟩
set_option maxRecDepth 100000 in
set_option maxHeartbeats 2000000 in
theorem un_ma_ENull (x : Fix) (hk : x.k = 0) (hb_ws : Hid ((x.nm.toList == [87, 101, 97, 107, 83, 101, 116]) = false)) (hb_wm : Hid ((x.nm.toList == [87, 101, 97, 107, 77, 97, 112]) = false)) (hb_da : Hid ((x.nm.toList == [68, 97, 116, 101]) = false)) (hb_se : Hid ((x.nm.toList == [83, 101, 116]) = false)) (hb_ma : Hid ((x.nm.toList == [77, 97, 112]) = true)) (hn : Hid (x.n = 1)) (ht : Hid (x.t0 = 294)) (f : Bool) (w : World) (h : Nw x f w) : Calls Try.prog 47 #[.pointer (some ⟨x.P, 0, none⟩), .pointer (some ⟨x.E, 0, none⟩)] w (Mk x true w) := by
  obtain ⟨e0, e2, e5, fz, t1, p, s0, s1, s2, s3, s4, s5, s6, s7, s8, s9, arg, nS, nI⟩ := h
  rw [hk] at s8
  obtain ⟨P, E, T, S, nm, k, o, n, A, t0, D, oi, m, I, ts, ps⟩ := x
  simp only at *
  replace arg := Lib.hid arg
  have h64 := ta_EIdentifier
  have lT : T < w.heap.size := lt_of_cell t1
  have lS : S < w.heap.size := lt_of_cell s0
  have lP : P < w.heap.size := lt_of_cell p
  go_enter Try.func47, Try.ntmps47
  go_wp2_with fail
  go_region
  generalize hW : World.drew _ = W
  have B : Below w.heap.size w W := by subst hW; exact ((Below.refl _ _).alloc (Nat.le_refl _) _).drew
  have k8 : W.cell? ⟨w.heap.size, 8, none⟩ = some (.int .u8 0) := by subst hW; go_simp
  have k1 : W.cell? ⟨w.heap.size, 1, none⟩ = some (.string nm) := by subst hW; go_simp
  clear hW
  replace fz := (B.frozen (p := ⟨E, 5, none⟩) (lt_of_cell e5)).trans fz
  replace e2 := bC B e2
  replace e5 := bC B e5
  clear e0 t1 p s0 s1 s2 s3 s4 s5 s6 s7 s8 s9 nS lT lS lP
  have b_ws : (nm.toList == [87, 101, 97, 107, 83, 101, 116]) = false := hb_ws.out
  have b_wm : (nm.toList == [87, 101, 97, 107, 77, 97, 112]) = false := hb_wm.out
  have b_da : (nm.toList == [68, 97, 116, 101]) = false := hb_da.out
  have b_se : (nm.toList == [83, 101, 116]) = false := hb_se.out
  have b_ma : (nm.toList == [77, 97, 112]) = true := hb_ma.out
  obtain ⟨rfl, ha, hK, hA⟩ := arg.out hn.out
  obtain rfl := hn.out
  have v0 := bC B ha
  obtain rfl := ht.out
  clear hK hA arg
  have hN := ta_ENull
  have hU := ta_EUndefined
  have hR := ta_EArray
  go_wp2_with fail
  go_end0
  exact ⟨rfl, W, B, rfl⟩
set_option maxRecDepth 100000 in
set_option maxHeartbeats 2000000 in
theorem un_ma_EUndefined (x : Fix) (hk : x.k = 0) (hb_ws : Hid ((x.nm.toList == [87, 101, 97, 107, 83, 101, 116]) = false)) (hb_wm : Hid ((x.nm.toList == [87, 101, 97, 107, 77, 97, 112]) = false)) (hb_da : Hid ((x.nm.toList == [68, 97, 116, 101]) = false)) (hb_se : Hid ((x.nm.toList == [83, 101, 116]) = false)) (hb_ma : Hid ((x.nm.toList == [77, 97, 112]) = true)) (hn : Hid (x.n = 1)) (ht : Hid (x.t0 = 296)) (f : Bool) (w : World) (h : Nw x f w) : Calls Try.prog 47 #[.pointer (some ⟨x.P, 0, none⟩), .pointer (some ⟨x.E, 0, none⟩)] w (Mk x true w) := by
  obtain ⟨e0, e2, e5, fz, t1, p, s0, s1, s2, s3, s4, s5, s6, s7, s8, s9, arg, nS, nI⟩ := h
  rw [hk] at s8
  obtain ⟨P, E, T, S, nm, k, o, n, A, t0, D, oi, m, I, ts, ps⟩ := x
  simp only at *
  replace arg := Lib.hid arg
  have h64 := ta_EIdentifier
  have lT : T < w.heap.size := lt_of_cell t1
  have lS : S < w.heap.size := lt_of_cell s0
  have lP : P < w.heap.size := lt_of_cell p
  go_enter Try.func47, Try.ntmps47
  go_wp2_with fail
  go_region
  generalize hW : World.drew _ = W
  have B : Below w.heap.size w W := by subst hW; exact ((Below.refl _ _).alloc (Nat.le_refl _) _).drew
  have k8 : W.cell? ⟨w.heap.size, 8, none⟩ = some (.int .u8 0) := by subst hW; go_simp
  have k1 : W.cell? ⟨w.heap.size, 1, none⟩ = some (.string nm) := by subst hW; go_simp
  clear hW
  replace fz := (B.frozen (p := ⟨E, 5, none⟩) (lt_of_cell e5)).trans fz
  replace e2 := bC B e2
  replace e5 := bC B e5
  clear e0 t1 p s0 s1 s2 s3 s4 s5 s6 s7 s8 s9 nS lT lS lP
  have b_ws : (nm.toList == [87, 101, 97, 107, 83, 101, 116]) = false := hb_ws.out
  have b_wm : (nm.toList == [87, 101, 97, 107, 77, 97, 112]) = false := hb_wm.out
  have b_da : (nm.toList == [68, 97, 116, 101]) = false := hb_da.out
  have b_se : (nm.toList == [83, 101, 116]) = false := hb_se.out
  have b_ma : (nm.toList == [77, 97, 112]) = true := hb_ma.out
  obtain ⟨rfl, ha, hK, hA⟩ := arg.out hn.out
  obtain rfl := hn.out
  have v0 := bC B ha
  obtain rfl := ht.out
  clear hK hA arg
  have hN := ta_ENull
  have hU := ta_EUndefined
  have hR := ta_EArray
  go_wp2_with fail
  go_end0
  exact ⟨rfl, W, B, rfl⟩
set_option maxRecDepth 100000 in
set_option maxHeartbeats 2000000 in
theorem un_ma_o (x : Fix) (hk : x.k = 0) (hb_ws : Hid ((x.nm.toList == [87, 101, 97, 107, 83, 101, 116]) = false)) (hb_wm : Hid ((x.nm.toList == [87, 101, 97, 107, 77, 97, 112]) = false)) (hb_da : Hid ((x.nm.toList == [68, 97, 116, 101]) = false)) (hb_se : Hid ((x.nm.toList == [83, 101, 116]) = false)) (hb_ma : Hid ((x.nm.toList == [77, 97, 112]) = true)) (hn : Hid (x.n = 1)) (ht : Hid (x.t0 ≠ 294 ∧ x.t0 ≠ 296 ∧ x.t0 ≠ 307)) (f : Bool) (w : World) (h : Nw x f w) : Calls Try.prog 47 #[.pointer (some ⟨x.P, 0, none⟩), .pointer (some ⟨x.E, 0, none⟩)] w (Mk x false w) := by
  obtain ⟨e0, e2, e5, fz, t1, p, s0, s1, s2, s3, s4, s5, s6, s7, s8, s9, arg, nS, nI⟩ := h
  rw [hk] at s8
  obtain ⟨P, E, T, S, nm, k, o, n, A, t0, D, oi, m, I, ts, ps⟩ := x
  simp only at *
  replace arg := Lib.hid arg
  have h64 := ta_EIdentifier
  have lT : T < w.heap.size := lt_of_cell t1
  have lS : S < w.heap.size := lt_of_cell s0
  have lP : P < w.heap.size := lt_of_cell p
  go_enter Try.func47, Try.ntmps47
  go_wp2_with fail
  go_region
  generalize hW : World.drew _ = W
  have B : Below w.heap.size w W := by subst hW; exact ((Below.refl _ _).alloc (Nat.le_refl _) _).drew
  have k8 : W.cell? ⟨w.heap.size, 8, none⟩ = some (.int .u8 0) := by subst hW; go_simp
  have k1 : W.cell? ⟨w.heap.size, 1, none⟩ = some (.string nm) := by subst hW; go_simp
  clear hW
  replace fz := (B.frozen (p := ⟨E, 5, none⟩) (lt_of_cell e5)).trans fz
  replace e2 := bC B e2
  replace e5 := bC B e5
  clear e0 t1 p s0 s1 s2 s3 s4 s5 s6 s7 s8 s9 nS lT lS lP
  have b_ws : (nm.toList == [87, 101, 97, 107, 83, 101, 116]) = false := hb_ws.out
  have b_wm : (nm.toList == [87, 101, 97, 107, 77, 97, 112]) = false := hb_wm.out
  have b_da : (nm.toList == [68, 97, 116, 101]) = false := hb_da.out
  have b_se : (nm.toList == [83, 101, 116]) = false := hb_se.out
  have b_ma : (nm.toList == [77, 97, 112]) = true := hb_ma.out
  obtain ⟨rfl, ha, hK, hA⟩ := arg.out hn.out
  obtain rfl := hn.out
  have v0 := bC B ha
  obtain ⟨ht1, ht2, ht3⟩ := ht.out
  clear hK hA arg ht
  have hN := ta_ENull
  have hU := ta_EUndefined
  have hR := ta_EArray
  go_wp2_with fail
  go_end0
  exact ⟨rfl, _, B, rfl⟩
end Go.Proofs.Ytihpdmoonddjmaa.Pure
