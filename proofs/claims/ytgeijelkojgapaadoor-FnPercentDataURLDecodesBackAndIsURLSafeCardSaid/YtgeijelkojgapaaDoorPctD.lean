/-
  zzPercentDecode of the payload is the text. Condition: at most 2^20 bytes.
-/
import Derived.Test.YtgeijelkojgapaaDoorPctA
import Derived.Test.YtgeijelkojgapaaDoorBld
import Derived.LoopN
import Derived.Deep.LoopGhost
import Derived.Deep.RegionHeld3
import Derived.Deep.CutRange
import Derived.Lib.BufSteps
import Derived.Lib.Hide
import Derived.Laws.BytesArg
import Derived.Lib.ItoaMem
import Derived.Test.YtgeijelkojgapaaDoorTake
namespace Go.Proofs.YtgeijelkojgapaaDoor.Pct
open Go.RowKit Go.Lib Go.Proofs.YtgeijelkojgapaaDoor.U8 Go.Proofs.YtgeijelkojgapaaDoor.Bld
/-- The payload of a text. -/
def Pay (s : ByteArray) (ts : Nat) : ByteArray := ⟨(bytesN (seg (bt s) s.size ts 0 s.size)).toArray⟩
theorem pay_size (s : ByteArray) (ts : Nat) : (Pay s ts).size = (seg (bt s) s.size ts 0 s.size).length := by
  show (Pay s ts).data.size = _
  simp [Pay, bytesN]
theorem pay_get (s : ByteArray) (ts k : Nat) (h : k < (Pay s ts).size) : (seg (bt s) s.size ts 0 s.size)[k]? = some (bt (Pay s ts) k) := by
  rw [pay_size] at h
  have hx := seg_lt (b := bt s) (n := s.size) (ts := ts) (bt_lt s) 0 s.size _ (List.getElem_mem h)
  rw [List.getElem?_eq_getElem h]
  congr 1
  show _ = ((Pay s ts).data[k]!).toNat
  have hk : k < (Pay s ts).data.size := by simp [Pay, bytesN]; exact h
  rw [getElem!_pos _ k hk]
  simp [Pay, bytesN]
  omega
/-- What lies at a place of the payload, j bytes of the text being decoded. -/
theorem pay_at (s : ByteArray) (ts j k : Nat) (hj : j ≤ s.size) (h : (seg (bt s) s.size ts 0 j).length + k < (Pay s ts).size) : (seg (bt s) s.size ts j (s.size - j))[k]? = some (bt (Pay s ts) ((seg (bt s) s.size ts 0 j).length + k)) := by
  have h1 := pay_get s ts _ h
  have e := seg_add (b := bt s) (n := s.size) (ts := ts) 0 j (s.size - j)
  rw [show j + (s.size - j) = s.size by omega, Nat.zero_add] at e
  rw [e, List.getElem?_append_right (by omega)] at h1
  rw [← h1]
  congr 1
  omega
theorem pay_len (s : ByteArray) (ts j : Nat) (hj : j ≤ s.size) : (Pay s ts).size = (seg (bt s) s.size ts 0 j).length + (seg (bt s) s.size ts j (s.size - j)).length := by
  have e := seg_add (b := bt s) (n := s.size) (ts := ts) 0 j (s.size - j)
  rw [show j + (s.size - j) = s.size by omega, Nat.zero_add] at e
  rw [pay_size, e, List.length_append]
theorem nums (l : List UInt8) : strOfNums (l.map fun b => (b.toNat : Int)) = ⟨l.toArray⟩ := by
  unfold strOfNums
  congr 2
  rw [List.map_map]
  conv => rhs; rw [← List.map_id l]
  congr 1
  funext b
  simp
theorem getI (l : List UInt8) (i : Nat) : (l.map fun b => (b.toNat : Int)).getD i 0 = ((l.getD i 0).toNat : Int) := by
  by_cases h : i < l.length
  · simp [List.getD, h]
  · simp [List.getD, h]
theorem convOwn {B : Nat} {v : Value} {W0 w : World} (l : List UInt8) (h : OwnBuf B 5 v l.length (byteCells l) W0 w) : (convert 27 9 v).run Tryd.prog w = .ok (.string ⟨l.toArray⟩) w := by
  have hc := h.1
  rcases hc.2 with ⟨rfl, h0⟩ | ⟨g, cap, cur, fz, hv, _⟩
  · have : l = [] := List.eq_nil_of_length_eq_zero h0
    subst this
    rw [run_convert_bytes_nil w 27 5 Tryd.underlying27 Tryd.underlying5 0 0 9 Tryd.underlying9]
    rfl
  · subst hv
    have hcell := hc.cells (g := g) rfl
    rw [run_convert_bytes_arg w 27 5 Tryd.underlying27 Tryd.underlying5 g 0 l.length cap (l.map fun b => (b.toNat : Int)) (by simp) (fun i hi => by
      have := hcell i (.int .u8 (l.getD i 0).toNat) (by
        have hi' : i < l.length := by simpa using hi
        simp [byteCells, List.getD, hi'])
      rw [getI]
      rw [Go.Lib.add_plain] at this
      exact this) 9 Tryd.underlying9, nums]
theorem or8 (x y : Nat) (hx : x < 16) (hy : y < 16) : bits .or .u8 ((x : Int) * 16) (y : Int) = ((x * 16 + y : Nat) : Int) := by
  have t : ∀ a b : Fin 16, bits .or .u8 ((a.val : Int) * 16) (b.val : Int) = ((a.val * 16 + b.val : Nat) : Int) := by decide +kernel
  exact t ⟨x, hx⟩ ⟨y, hy⟩
theorem hv_lt (x : Nat) (h : hexB x = true) : hv x < 16 := by
  rw [hexB_iff] at h
  unfold hv
  split <;> (try split) <;> omega
def Dec (s : ByteArray) (w : World) (e : Ending) (w' : World) : Prop := e = .returned (.string s) ∧ Below w.heap.size w w'
abbrev cells8 (xs : List Int) : List Value := xs.map (Value.int .u8)
theorem wpList_append_many {P : Program} {ops : Array Oper} {rest : List Oper} {o : Oper} {a : Act} {Q : Exit → Act → World → Prop} (hgd : o.guard = none) (s x : Operand) (t : TypeId)
    (ho : o.op = .call { callee := .builtin .append, args := #[s, x], argTypes := #[t, t] })
    (B : Nat) (e : TypeId) (i : TypeInfo) (ht : P.underlying t = some (.slice e)) (hi : P.info? e = some i) (hz : i.zero = some (.int .u8 0)) (hsize : i.size = 1) (hby : i.bytes = 1)
    (v : Value) (n : Nat) (xs : List Value) (hs : a.eval s = v) (W0 w0 : World) (cs : List Int) (hb : OwnBuf B e v n xs W0 w0) (m : Nat) (hm : cs.length = m)
    (hx : a.eval x = .slice (some ⟨w0.heap.size, 0, none⟩) m m) (hlen : n + m ≤ 140737488355328)
    (h : ∀ v' w', OwnBuf B e v' (n + m) (xs ++ cells8 cs) W0 w' → wpList P ops Q rest (a.put o.dst v') w') : wpList P ops Q (o :: rest) a (w0.alloc (.cells (cells8 cs).toArray e)) := by
  have hb' := hb.alloc (.cells (cells8 cs).toArray e)
  refine wpList_append_ownF _ hgd s x t ho B e i (.int .u8 0) 1 1 ht hi hz hsize hby rfl (by decide) v n xs hs hb'.1 ⟨w0.heap.size, 0, none⟩ m m (cells8 cs) hx (by simp [hm]) ?_ ?_ (by unfold maxLen; omega) (by omega) hb'.2.2 ?_
  · intro j u hj
    rw [add_plain, Nat.zero_add, World.cell?_alloc_mark]
    simpa using hj
  · intro u hu
    simp only [cells8, List.mem_map] at hu
    obtain ⟨_, _, rfl⟩ := hu
    rfl
  · intro v' w' ho' hg _
    exact h v' w' (hb'.grown ho' hg)
theorem step_append_many {P : Program} {ops : Array Oper} {o : Oper} {a : Act} {K : Act → World → Prop} {Q : Exit → Act → World → Prop} {E : Prop} (hgd : o.guard = none) (s x : Operand) (t : TypeId)
    (ho : o.op = .call { callee := .builtin .append, args := #[s, x], argTypes := #[t, t] })
    (B : Nat) (e : TypeId) (i : TypeInfo) (ht : P.underlying t = some (.slice e)) (hi : P.info? e = some i) (hz : i.zero = some (.int .u8 0)) (hsize : i.size = 1) (hby : i.bytes = 1)
    (v : Value) (n : Nat) (xs : List Value) (hs : a.eval s = v) (W0 w0 : World) (cs : List Int) (hb : OwnBuf B e v n xs W0 w0) (m : Nat) (hm : cs.length = m)
    (hx : a.eval x = .slice (some ⟨w0.heap.size, 0, none⟩) m m) (hlen : n + m ≤ 140737488355328)
    (h : ∀ v' w', OwnBuf B e v' (n + m) (xs ++ cells8 cs) W0 w' → K (a.put o.dst v') w') :
    if Region.wanted o (yielded ops a.tmps) = true then Oper.wp P o a (w0.alloc (.cells (cells8 cs).toArray e)) K Q else E := by
  rw [if_pos (by simp [Region.wanted, hgd])]
  have hb' := hb.alloc (.cells (cells8 cs).toArray e)
  obtain ⟨v', w', hr, h2, h3, h4⟩ := run_append_ownF (P := P) (w := w0.alloc (.cells (cells8 cs).toArray e)) B t o.type e i (.int .u8 0) 1 1 ht hi hz hsize hby rfl (by decide) v n xs hb'.1 ⟨w0.heap.size, 0, none⟩ m m (cells8 cs) (by simp [hm]) (fun j u hj => by
    rw [add_plain, Nat.zero_add, World.cell?_alloc_mark]
    simpa using hj) (fun u hu => by
    simp only [cells8, List.mem_map] at hu
    obtain ⟨_, _, rfl⟩ := hu
    rfl) (by unfold maxLen; omega) (by omega) hb'.2.2
  unfold Oper.wp execOp
  simp only [ho, resolve, invoke, builtin, Sem.run_bind, Sem.run_pure, Result.andThen_ok, List.map_toArray, List.map_cons, List.map_nil, hs, hx, hr]
  exact h v' w' (hb'.grown h2 h3)
theorem parts8' : ∃ i, Tryd.prog.info? 5 = some i ∧ i.zero = some (.int .u8 0) ∧ i.size = 1 ∧ i.bytes = 1 := parts8
theorem cells_succ (s : ByteArray) (j : Nat) : cellsN ((List.range' 0 j).map (bt s)) ++ [.int .u8 (bt s j : Nat)] = cellsN ((List.range' 0 (j + 1)).map (bt s)) := by
  rw [List.range'_1_concat, List.map_append, cellsN_append]
  simp [cellsN]
theorem cells_all (s : ByteArray) : cellsN ((List.range' 0 s.size).map (bt s)) = byteCells s.data.toList := by
  have := cells_ext s 0 s.size (Nat.zero_le _) (Nat.le_refl _)
  rw [Nat.sub_zero] at this
  rw [← this, ← strCells_eq]
  congr 1
  exact ByteArray.ext (by simp)
set_option maxRecDepth 100000 in
set_option maxHeartbeats 8000000 in
theorem decode (s : ByteArray) (ts : Nat) (w : World) (hs : s.size ≤ 524288) : Calls Tryd.prog 7 #[.string (Pay s ts)] w (Dec s w) := by
  obtain ⟨i0, hi, hz0, hz1, hz2⟩ := parts8'
  have hb := bt_lt s
  have hpl : (Pay s ts).size ≤ 3 * s.size := by rw [pay_size]; exact seg_len 0 s.size
  replace hi := Lib.hid hi
  replace hb := Lib.hid hb
  go_enter Tryd.func7, Tryd.ntmps7
  go_wp2_with fail
  go_loopg [3, 4] s.size (fun g ov iv wr => ∃ j : Nat, j ≤ s.size ∧ g = s.size - j ∧ iv = .int .i64 (seg (bt s) s.size ts 0 j).length ∧ OwnBuf w.heap.size 5 ov j (cellsN ((List.range' 0 j).map (bt s))) w wr)
  case atStart => exact ⟨0, Nat.zero_le _, rfl, rfl, World.ownsRowF_nil _ _ _ _, Below.refl _ _, Nat.le_refl _⟩
  case round =>
    obtain ⟨j, hj, rfl, rfl, hO⟩ := hrel
    have hlen := pay_len s ts j hj
    have hat := fun k => pay_at s ts j k hj
    have hpos := seg_pos (b := bt s) (n := s.size) (ts := ts) j (s.size - j)
    rcases Nat.lt_or_ge j s.size with hlt | hge
    · have hstep := seg_add (b := bt s) (n := s.size) (ts := ts) 0 j 1
      rw [Nat.zero_add, show seg (bt s) s.size ts j 1 = out (bt s) s.size ts j from by simp [seg]] at hstep
      have hnext := cells_succ s j
      have hl1 := pay_len s ts (j + 1) (by omega)
      generalize hP : (seg (bt s) s.size ts 0 j).length = p at *
      have hp1 : p < (Pay s ts).size := by omega
      have e0 := bt_eq (Pay s ts) p hp1
      have l0 : (p : Int) < ((Pay s ts).size : Int) := by omega
      by_cases hE : Esc (bt s) s.size ts j
      · obtain ⟨q1, q2, q3, q4⟩ := step_esc hb.out j hlt hE
        have hp3 : (seg (bt s) s.size ts 0 (j + 1)).length = p + 3 := by rw [hstep, List.length_append, hP, out, if_pos hE]; rfl
        have hp2 : p + 2 < (Pay s ts).size := by omega
        have h0 := hat 0 (by omega)
        have h1 := hat 1 (by omega)
        have h2 := hat 2 (by omega)
        rw [q1] at h0 h1 h2
        have v0 : bt (Pay s ts) p = 37 := (Option.some.inj h0).symm
        have v1 : bt (Pay s ts) (p + 1) = hd (bt s j / 16) := (Option.some.inj h1).symm
        have v2 : bt (Pay s ts) (p + 2) = hd (bt s j % 16) := (Option.some.inj h2).symm
        have hp2' : p + 1 < (Pay s ts).size := by omega
        have e1 := bt_eq (Pay s ts) (p + 1) hp2'
        have e2 := bt_eq (Pay s ts) (p + 2) hp2
        rw [v0] at e0
        rw [v1] at e1
        rw [v2] at e2
        have hvx := hv_lt _ q2
        have hvy := hv_lt _ q3
        generalize hd (bt s j / 16) = x at *
        generalize hd (bt s j % 16) = y at *
        have hor := or8 (hv x) (hv y) hvx hvy
        rw [q4] at hor
        have hwr : IntKind.u8.wrap ((hv x : Int) * 16) = (hv x : Int) * 16 := by
          simp [IntKind.wrap, IntKind.bits, IntKind.signed]
          omega
        have l1 : (p : Int) + 1 < ((Pay s ts).size : Int) := by omega
        have l2 : (p : Int) + 2 < ((Pay s ts).size : Int) := by omega
        have w1 : IntKind.i64.wrap ((p : Int) + 1) = (p : Int) + 1 := wraps_i64 _ (by omega) (by omega)
        have w2 : IntKind.i64.wrap ((p : Int) + 2) = (p : Int) + 2 := wraps_i64 _ (by omega) (by omega)
        have t1 : ((p : Int) + 1).toNat = p + 1 := by omega
        have t2 : ((p : Int) + 2).toNat = p + 2 := by omega
        have hx := Lib.hid q2
        have hy := Lib.hid q3
        replace hE := Lib.hid hE
        replace hnext := Lib.hid hnext
        replace hp3 := Lib.hid hp3
        replace hP := Lib.hid hP
        replace hO := Lib.hid hO
        clear q1 q2 q3 q4 h0 h1 h2 v0 v1 v2 hat hlen hpos hstep hl1
        go_wp2_with fail
        go_at_call 13
        refine (isHexByte x _).mono ?_
        rintro e w' ⟨rfl, rfl⟩
        rw [hx.out]
        go_wp2_with fail
        go_at_call 13
        refine (isHexByte y _).mono ?_
        rintro e w' ⟨rfl, rfl⟩
        rw [hy.out]
        go_upto_region 5 with fail
        refine wp_region_held_drew (S := fun _ => True) (by kernel_rfl) trivial (fun hS => ?_)
        refine Take.takeD (i := 0) (v := ?_) (some 34) rfl rfl (by kernel_rfl) (by kernel_rfl) (by kernel_rfl) (fun _ _ _ h => h) (Or.inl ⟨by rfl, ?_⟩) hS ?_
        rotate_left 1
        · intro w9 _; go_simp; try with_reducible rfl
        try simp only [Act.put, List.setIfInBounds_toArray, List.set_cons_zero, List.set_cons_succ]
        refine Take.takeD (i := 1) (v := ?_) (some 35) rfl rfl (by kernel_rfl) (by kernel_rfl) (by kernel_rfl) (fun _ _ _ h => h) (Or.inl ⟨by rfl, ?_⟩) hS ?_
        rotate_left 1
        · intro w9 _; go_simp; try with_reducible rfl
        try simp only [Act.put, List.setIfInBounds_toArray, List.set_cons_zero, List.set_cons_succ]
        refine Take.takeD (i := 2) (v := ?_) (some 36) rfl rfl (by kernel_rfl) (by kernel_rfl) (by kernel_rfl) (fun _ _ _ h => h) (Or.inl ⟨by rfl, ?_⟩) hS ?_
        rotate_left 1
        · intro w9 _; go_simp; try with_reducible rfl
        try simp only [Act.put, List.setIfInBounds_toArray, List.set_cons_zero, List.set_cons_succ]
        refine Take.takeD (i := 3) (v := .int .i64 ((p : Int) + 1)) (some 37) rfl rfl (by kernel_rfl) (by kernel_rfl) (by kernel_rfl) (fun _ _ _ h => h) (Or.inl ⟨by rfl, fun w9 _ => by (go_simp; try simp only [w1])⟩) hS ?_
        try simp only [Act.put, List.setIfInBounds_toArray, List.set_cons_zero, List.set_cons_succ]
        refine Take.takeD (i := 4) (v := .int .u8 (x : Nat)) (some 38) rfl rfl (by kernel_rfl) (by kernel_rfl) (by kernel_rfl) (fun _ _ _ h => h) (Or.inl ⟨by rfl, fun w9 _ => by (go_simp; try (intro hneg; exfalso; omega))⟩) hS ?_
        try simp only [Act.put, List.setIfInBounds_toArray, List.set_cons_zero, List.set_cons_succ]
        refine Take.take_callD (i := 5) (v := .int .u8 (hv x : Nat)) (some 39) rfl rfl (by kernel_rfl) (by kernel_rfl) (by kernel_rfl) (fun _ _ _ h => h) ⟨by rfl, fun w9 _ => ⟨14, #[.int .u8 (x : Nat)], by (go_simp; try rfl), hexVal _ hx.out w9⟩⟩ hS ?_
        try simp only [Act.put, List.setIfInBounds_toArray, List.set_cons_zero, List.set_cons_succ]
        refine Take.takeD (i := 6) (v := .int .u8 ((hv x : Int) * 16)) (some 40) rfl rfl (by kernel_rfl) (by kernel_rfl) (by kernel_rfl) (fun _ _ _ h => h) (Or.inl ⟨by rfl, fun w9 _ => by (go_simp; try simp only [hwr])⟩) hS ?_
        try simp only [Act.put, List.setIfInBounds_toArray, List.set_cons_zero, List.set_cons_succ]
        refine Take.takeD (i := 7) (v := ?_) (some 41) rfl rfl (by kernel_rfl) (by kernel_rfl) (by kernel_rfl) (fun _ _ _ h => h) (Or.inl ⟨by rfl, ?_⟩) hS ?_
        rotate_left 1
        · intro w9 _; go_simp; try with_reducible rfl
        try simp only [Act.put, List.setIfInBounds_toArray, List.set_cons_zero, List.set_cons_succ]
        refine Take.takeD (i := 8) (v := ?_) (some 42) rfl rfl (by kernel_rfl) (by kernel_rfl) (by kernel_rfl) (fun _ _ _ h => h) (Or.inl ⟨by rfl, ?_⟩) hS ?_
        rotate_left 1
        · intro w9 _; go_simp; try with_reducible rfl
        try simp only [Act.put, List.setIfInBounds_toArray, List.set_cons_zero, List.set_cons_succ]
        refine Take.takeD (i := 9) (v := .int .i64 ((p : Int) + 2)) (some 43) rfl rfl (by kernel_rfl) (by kernel_rfl) (by kernel_rfl) (fun _ _ _ h => h) (Or.inl ⟨by rfl, fun w9 _ => by (go_simp; try simp only [w2])⟩) hS ?_
        try simp only [Act.put, List.setIfInBounds_toArray, List.set_cons_zero, List.set_cons_succ]
        refine Take.takeD (i := 10) (v := .int .u8 (y : Nat)) (some 44) rfl rfl (by kernel_rfl) (by kernel_rfl) (by kernel_rfl) (fun _ _ _ h => h) (Or.inl ⟨by rfl, fun w9 _ => by (go_simp; try (intro hneg; exfalso; omega))⟩) hS ?_
        try simp only [Act.put, List.setIfInBounds_toArray, List.set_cons_zero, List.set_cons_succ]
        refine Take.take_callD (i := 11) (v := .int .u8 (hv y : Nat)) (some 45) rfl rfl (by kernel_rfl) (by kernel_rfl) (by kernel_rfl) (fun _ _ _ h => h) ⟨by rfl, fun w9 _ => ⟨14, #[.int .u8 (y : Nat)], by (go_simp; try rfl), hexVal _ hy.out w9⟩⟩ hS ?_
        try simp only [Act.put, List.setIfInBounds_toArray, List.set_cons_zero, List.set_cons_succ]
        refine Take.takeD (i := 12) (v := .int .u8 (bt s j : Nat)) (some 46) rfl rfl (by kernel_rfl) (by kernel_rfl) (by kernel_rfl) (fun _ _ _ h => h) (Or.inl ⟨by rfl, fun w9 _ => by (go_simp; try simp only [hor])⟩) hS ?_
        try simp only [Act.put, List.setIfInBounds_toArray, List.set_cons_zero, List.set_cons_succ]
        refine wpAnyH_ready (rs := [13]) (by kernel_rfl) (by decide) ?_
        refine AllReadyH.cons rfl (fun K' hK => ?_) AllReadyH.nil
        rw [if_pos (by kernel_rfl)]
        go_wp2_with fail
        refine hK.out _ _ trivial (fun _ => ?_)
        clear hK
        refine wpAnyH_ready (rs := [14]) (by kernel_rfl) (by decide) ?_
        refine AllReadyH.cons rfl (fun K' hK => ?_) AllReadyH.nil
        refine step_append_many rfl (.tmp 34) (.tmp 47) _ rfl w.heap.size 5 i0 Tryd.underlying27 hi.out hz0 hz1 hz2 u3 j _ rfl w _ [((bt s j : Nat) : Int)] (hO.out.drewN 1) 1 rfl rfl (by omega) ?_
        intro v' w' hb'
        refine hK.out _ _ trivial (fun _ => ?_)
        clear hK
        have hq := Lib.hid hb'
        clear hb'
        refine wpAnyH_ready (rs := [15]) (by kernel_rfl) (by decide) ?_
        refine AllReadyH.cons rfl (fun K' hK => ?_) AllReadyH.nil
        rw [if_pos (by kernel_rfl)]
        go_wp2_with fail
        refine hK.out _ _ trivial (fun _ => ?_)
        clear hK
        refine wpAnyH_done (by kernel_rfl) ?_ _
        go_wp2_with fail
        go_roundg (s.size - (j + 1))
        case measure => omega
        case rel =>
          refine ⟨j + 1, by omega, rfl, by rw [hp3.out]; simp, ?_⟩
          rw [← hnext.out]
          exact hq.out
      · have hp3 : (seg (bt s) s.size ts 0 (j + 1)).length = p + 1 := by rw [hstep, List.length_append, hP, out, if_neg hE]; rfl
        have q1 := seg_raw j hlt hE
        have h0 := hat 0 (by omega)
        rw [q1] at h0
        have v0 : bt (Pay s ts) p = bt s j := (Option.some.inj h0).symm
        rw [v0] at e0
        have hp3' := Lib.hid hp3
        have hnext' := Lib.hid hnext
        have hO' := Lib.hid hO
        have hP' := Lib.hid hP
        by_cases h37 : bt s j = 37
        · have n37 : ((bt s j : Int) == 37) = true := by rw [h37]; rfl
          by_cases hL : p + 2 < (Pay s ts).size
          · have hp2' : p + 1 < (Pay s ts).size := by omega
            have h1 := hat 1 (by omega)
            have h2 := hat 2 (by omega)
            rw [q1, List.getElem?_cons_succ] at h1 h2
            have hno : ¬ (hexB (bt (Pay s ts) (p + 1)) = true ∧ hexB (bt (Pay s ts) (p + 2)) = true) := by
              have hr := step_raw hb.out j hE h37
              generalize seg (bt s) s.size ts (j + 1) (s.size - (j + 1)) = r at h1 h2 hr
              match r, h1, h2 with
              | x :: y :: r, h1, h2 =>
                have a1 : x = bt (Pay s ts) (p + 1) := Option.some.inj h1
                have a2 : y = bt (Pay s ts) (p + 2) := Option.some.inj h2
                rw [← a1, ← a2]
                exact hr x y r rfl
            have e1 := bt_eq (Pay s ts) (p + 1) hp2'
            have e2 := bt_eq (Pay s ts) (p + 2) hL
            have l1 : (p : Int) + 1 < ((Pay s ts).size : Int) := by omega
            have l2 : (p : Int) + 2 < ((Pay s ts).size : Int) := by omega
            have t1 : ((p : Int) + 1).toNat = p + 1 := by omega
            have t2 : ((p : Int) + 2).toNat = p + 2 := by omega
            clear h0 h1 h2 v0 q1 h37
            generalize bt (Pay s ts) (p + 1) = x at *
            generalize bt (Pay s ts) (p + 2) = y at *
            clear hat hstep hp3 hnext hO hP hE
            cases hx : hexB x with
            | false =>
              replace hno := Lib.hid hno
              replace hx := Lib.hid hx
              clear hpos hlen hl1
              go_wp2_with fail
              go_at_call 13
              refine (isHexByte x _).mono ?_
              rintro e w' ⟨rfl, rfl⟩
              rw [hx.out]
              go_wp2_with (at_builtin; refine wpList_append_many rfl (.tmp 51) (.tmp 55) _ rfl w.heap.size 5 i0 Tryd.underlying27 hi.out hz0 hz1 hz2 u3 j _ rfl w _ [((bt s j : Nat) : Int)] hO'.out 1 rfl rfl (by omega) ?_; intro v' w' hb')
              have hq := Lib.hid hb'
              clear hb'
              go_wp2_with fail
              go_roundg (s.size - (j + 1))
              case measure => omega
              case rel =>
                refine ⟨j + 1, by omega, rfl, by rw [hp3'.out]; simp, ?_⟩
                rw [← hnext'.out]
                exact hq.out
            | true =>
              have hy : hexB y = false := by
                cases hy : hexB y with
                | false => rfl
                | true => exact absurd ⟨hx, hy⟩ hno
              replace hno := Lib.hid hno
              replace hx := Lib.hid hx
              replace hy := Lib.hid hy
              clear hpos hlen hl1
              go_wp2_with fail
              go_at_call 13
              refine (isHexByte x _).mono ?_
              rintro e w' ⟨rfl, rfl⟩
              rw [hx.out]
              go_wp2_with fail
              go_at_call 13
              refine (isHexByte y _).mono ?_
              rintro e w' ⟨rfl, rfl⟩
              rw [hy.out]
              go_wp2_with (at_builtin; refine wpList_append_many rfl (.tmp 51) (.tmp 55) _ rfl w.heap.size 5 i0 Tryd.underlying27 hi.out hz0 hz1 hz2 u3 j _ rfl w _ [((bt s j : Nat) : Int)] hO'.out 1 rfl rfl (by omega) ?_; intro v' w' hb')
              have hq := Lib.hid hb'
              clear hb'
              go_wp2_with fail
              go_roundg (s.size - (j + 1))
              case measure => omega
              case rel =>
                refine ⟨j + 1, by omega, rfl, by rw [hp3'.out]; simp, ?_⟩
                rw [← hnext'.out]
                exact hq.out
          · have l2 : ¬ (p : Int) + 2 < ((Pay s ts).size : Int) := by omega
            clear h0 v0 q1 h37 hat hstep hp3 hnext hO hP hE hpos hlen hl1
            go_wp2_with (at_builtin; refine wpList_append_many rfl (.tmp 51) (.tmp 55) _ rfl w.heap.size 5 i0 Tryd.underlying27 hi.out hz0 hz1 hz2 u3 j _ rfl w _ [((bt s j : Nat) : Int)] hO'.out 1 rfl rfl (by omega) ?_; intro v' w' hb')
            have hq := Lib.hid hb'
            clear hb'
            go_wp2_with fail
            go_roundg (s.size - (j + 1))
            case measure => omega
            case rel =>
              refine ⟨j + 1, by omega, rfl, by rw [hp3'.out]; simp, ?_⟩
              rw [← hnext'.out]
              exact hq.out
        · have n37 : ((bt s j : Int) == 37) = false := by simp; omega
          clear h0 v0 q1 h37 hat hstep hp3 hnext hO hP hE hpos hlen hl1
          go_wp2_with (at_builtin; refine wpList_append_many rfl (.tmp 51) (.tmp 55) _ rfl w.heap.size 5 i0 Tryd.underlying27 hi.out hz0 hz1 hz2 u3 j _ rfl w _ [((bt s j : Nat) : Int)] hO'.out 1 rfl rfl (by omega) ?_; intro v' w' hb')
          have hq := Lib.hid hb'
          clear hb'
          go_wp2_with fail
          go_roundg (s.size - (j + 1))
          case measure => omega
          case rel =>
            refine ⟨j + 1, by omega, rfl, by rw [hp3'.out]; simp, ?_⟩
            rw [← hnext'.out]
            exact hq.out
    · have hjn : j = s.size := by omega
      subst hjn
      have hpe : (Pay s ts).size = (seg (bt s) s.size ts 0 s.size).length := pay_size s ts
      have l0 : ¬ ((seg (bt s) s.size ts 0 s.size).length : Int) < ((Pay s ts).size : Int) := by omega
      have hO2 : OwnBuf w.heap.size 5 u3 s.data.toList.length (byteCells s.data.toList) w wr := by
        have e : s.data.toList.length = s.size := (Array.length_toList).trans rfl
        rw [e, ← cells_all s]
        exact hO
      have hcv := convOwn s.data.toList hO2
      have hbl := Lib.hid hO.2.1
      clear hO hO2 hat hlen hpos hpe
      generalize (seg (bt s) s.size ts 0 s.size).length = p at *
      go_wp2_with fail
      go_ret
      exact ⟨rfl, hbl.out⟩
end Go.Proofs.YtgeijelkojgapaaDoor.Pct
