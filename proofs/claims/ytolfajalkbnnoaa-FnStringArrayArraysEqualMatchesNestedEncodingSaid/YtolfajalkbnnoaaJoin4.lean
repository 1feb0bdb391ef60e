/-
  helpers.Joiner.Done, the long way: a buffer that two loops fill by copy. Condition: at least one string, or not just one byte item.
-/
import Derived.Test.YtolfajalkbnnoaaJoin3
import Derived.Laws.CopyOwn
import Derived.Lib.BufferWrite
namespace Go.Proofs.Ytolfajalkbnnoaa.Join
open Go.RowKit Go.ChangeShapes Go.WideShapes Go.ChangeAt Go.Proofs.Ytolfajalkbnnoaa.Ints

/-- The cells of bytes. -/
def bc (l : List UInt8) : Array Value := (Lib.byteCells l).toArray
theorem bc_size (l : List UInt8) : (bc l).size = l.length := by simp [bc, Lib.byteCells]
theorem put_len (buf : List UInt8) (it : List UInt8 × Nat) (h : it.2 + it.1.length ≤ buf.length) : (put buf it).length = buf.length := by simp [put]; omega
theorem bc_put (buf d : List UInt8) (o : Nat) : ((bc buf).toList.take o ++ Lib.byteCells d ++ (bc buf).toList.drop (o + d.length)).toArray = bc (put buf (d, o)) := by
  simp [bc, put, Lib.byteCells, List.map_take, List.map_drop]
theorem bc_splice (buf d : List UInt8) (o : Nat) : (splice (bc buf).toList o (Lib.byteCells d)).toArray = bc (put buf (d, o)) := by
  simp [bc, put, splice, Lib.byteCells, List.map_take, List.map_drop]
theorem bc_made (n : Nat) : madeCells #[.int .u8 0] n = bc (List.replicate n 0) := by
  apply Array.ext
  · simp [size_madeCells, bc_size]
  · intro i h1 h2
    simp [madeCells, bc, Lib.byteCells, Nat.mod_one]
theorem bc_cell {w : World} {g : Nat} {l : List UInt8} {t : TypeId} {fr : Nat × Nat} (h : w.heap[g]? = some (.cells (bc l) t fr)) (i : Nat) (hi : i < l.length) : w.cell? ⟨g, i, none⟩ = some (.int .u8 ((l.getD i 0).toNat : Int)) := by
  rw [cell_of_row w g i _ t fr h]
  simp [bc, Lib.byteCells, List.getD, hi]
theorem bytesAt_bc {w : World} {g : Nat} {l : List UInt8} (h : w.heap[g]? = some (.cells (bc l) 5 (0, 0))) : BytesAt w (some ⟨g, 0, none⟩) l.length l :=
  ⟨rfl, .inr ⟨g, 0, rfl, ⟨_, _, h⟩, fun i hi => by rw [Nat.zero_add]; exact bc_cell h i hi⟩⟩
theorem copy_run {P : Program} (w : World) {o : Oper} {a : Act} {K : Act → World → Prop} {Q : Exit → Act → World → Prop} (d s : Operand) (t t' : TypeId)
    (ho : o.op = .call { callee := .builtin .copy, args := #[d, s], argTypes := #[t, t'] }) (v u : Value) (hd : a.eval d = v) (hs : a.eval s = u) {v' : Value} {w' : World}
    (hr : (Builtin.copy_ #[t, t'] o.type #[v, u]).run P w = .ok v' w') (h : K (a.put o.dst v') w') : o.wp P a w K Q := by
  unfold Oper.wp
  simp [execOp, ho, resolve, invoke, builtin, hd, hs, hr, Result.andThen]
  exact h
theorem step_copy_str {P : Program} {ops : Array Oper} {o : Oper} {a : Act} {w : World} {K : Act → World → Prop} {Q : Exit → Act → World → Prop} {E : Prop} (hgd : o.guard = none) (d s : Operand) (dT sT : TypeId)
    (ho : o.op = .call { callee := .builtin .copy, args := #[d, s], argTypes := #[dT, sT] }) (elem : TypeId) (hu : P.underlying dT = some (.slice elem)) (hsz : (P.info? elem).map (·.size) = some 1)
    (dp : Option Addr) (dLen dCap : Nat) (x : ByteArray) (hd : a.eval d = .slice dp dLen dCap) (hs : a.eval s = .string x)
    (g off : Nat) (cur : List UInt8) (t : TypeId) (hg : w.heap[g]? = some (.cells (bc cur) t (0, 0))) (hn : x.size ≤ dLen) (hpos : 0 < x.size → dp = some ⟨g, off, none⟩)
    (hfit : off + x.size ≤ cur.length) (B : Nat) (w0 : World) (hb : Below B w0 w) (hBg : B ≤ g)
    (h : ∀ w', Hid (w'.heap[g]? = some (.cells (bc (put cur (x.data.toList, off))) t (0, 0))) → Below B w0 w' → K (a.put o.dst (goInt x.size)) w') :
    if Region.wanted o (yielded ops a.tmps) = true then Oper.wp P o a w K Q else E := by
  have hw : Region.wanted o (yielded ops a.tmps) = true := by simp [Region.wanted, hgd]
  rw [if_pos hw]
  rcases Nat.eq_zero_or_pos x.size with h0 | h0
  · have hrun := Lib.run_copy_empty_string (P := P) w dT sT o.type elem dp dLen dCap x hu (by cases hq : P.info? elem <;> simp [hq] at hsz ⊢) h0
    refine copy_run w d s dT sT ho _ _ hd hs hrun ?_
    have := h w (by
      show _ = _
      have e : x.data.toList = [] := list_nil h0
      rw [e, hg]
      simp [put]) hb
    rw [h0] at this
    exact this
  · rw [hpos h0] at hd
    have hrun := Lib.run_copy_row_string (P := P) w dT sT o.type elem g off dLen dCap x (bc cur) t hu hsz hg hn (by rw [bc_size]; exact hfit)
    refine copy_run w d s dT sT ho _ _ hd hs hrun ?_
    have e : x.size = x.data.toList.length := by rw [Array.length_toList]; rfl
    have e2 := bc_put cur x.data.toList off
    rw [← e] at e2
    rw [e2]
    exact h _ (show _ = _ by exact setRow_heap w g _ _ t _ hg) (below_setRow hb hBg _)
theorem step_copy_bts {P : Program} {ops : Array Oper} {o : Oper} {a : Act} {w : World} {K : Act → World → Prop} {Q : Exit → Act → World → Prop} {E : Prop} (hgd : o.guard = none) (d s : Operand) (dT sT : TypeId)
    (ho : o.op = .call { callee := .builtin .copy, args := #[d, s], argTypes := #[dT, sT] }) (elem : TypeId) (hu : P.underlying dT = some (.slice elem)) (hsz : (P.info? elem).map (·.size) = some 1)
    (dp sp : Option Addr) (dLen dCap n sCap : Nat) (l : List UInt8) (hd : a.eval d = .slice dp dLen dCap) (hs : a.eval s = .slice sp n sCap)
    (g off : Nat) (cur : List UInt8) (t : TypeId) (hg : w.heap[g]? = some (.cells (bc cur) t (0, 0))) (hn : n ≤ dLen) (hpos : 0 < n → dp = some ⟨g, off, none⟩)
    (hfit : off + n ≤ cur.length) (hdat : BytesAt w sp n l) (B : Nat) (w0 : World) (hb : Below B w0 w) (hBg : B ≤ g)
    (h : ∀ w', Hid (w'.heap[g]? = some (.cells (bc (put cur (l, off))) t (0, 0))) → Below B w0 w' → K (a.put o.dst (goInt n)) w') :
    if Region.wanted o (yielded ops a.tmps) = true then Oper.wp P o a w K Q else E := by
  obtain ⟨hl, hsrc⟩ := hdat
  have hbl : (Lib.byteCells l).length = n := by simp [Lib.byteCells, hl]
  refine step_copy_splice hgd d s dT sT ho elem hu hsz dp sp dLen dCap n sCap hd hs g off (bc cur).toList t (by simpa using hg) (Lib.byteCells l) (by rw [hbl]; exact (Nat.min_eq_left hn).symm) (fun h0 => ?_) (by rw [hbl, Array.length_toList, bc_size]; exact hfit) (Lib.byteCells_one l) B w0 hb hBg ?_
  · rw [hbl] at h0
    rcases hsrc with h1 | ⟨b, o2, e, _, hc⟩
    · omega
    · refine ⟨hpos h0, _, e, fun j v hv => ?_⟩
      have hj : j < n := by
        have := (List.getElem?_eq_some_iff.1 hv).1
        omega
      rw [add_plain, hc j hj]
      have hjl : j < l.length := by omega
      simp [Lib.byteCells, hjl] at hv
      rw [← hv]
      simp [List.getD, hjl]
  · intro w' hw' hB
    rw [hbl]
    refine h w' ?_ hB
    show _ = _
    rw [← bc_splice]
    exact hw'
theorem cellsS_at : ∀ (ss : List (ByteArray × Nat)) (i : Nat), i < ss.length → (cellsS ss)[i * 2]? = some (.string (ss.getD i (nl, 0)).1) ∧ (cellsS ss)[i * 2 + 1]? = some (.int .u32 (ss.getD i (nl, 0)).2)
  | [], i, h => absurd h (by simp)
  | x :: ss, 0, _ => ⟨rfl, rfl⟩
  | x :: ss, i + 1, h => by
    have k := cellsS_at ss i (by simpa using h)
    rw [show (i + 1) * 2 = i * 2 + 1 + 1 by omega]
    exact k
def zb : Bt := ⟨none, 0, 0, 0, []⟩
theorem cellsB_at : ∀ (bs : List Bt) (i : Nat), i < bs.length → (cellsB bs)[i * 2]? = some (.slice (bs.getD i zb).a (bs.getD i zb).l (bs.getD i zb).c) ∧ (cellsB bs)[i * 2 + 1]? = some (.int .u32 (bs.getD i zb).o)
  | [], i, h => absurd h (by simp)
  | x :: bs, 0, _ => ⟨rfl, rfl⟩
  | x :: bs, i + 1, h => by
    have k := cellsB_at bs i (by simpa using h)
    rw [show (i + 1) * 2 = i * 2 + 1 + 1 by omega]
    exact k
/-- The buffer while it is filled. -/
structure Buf (w wr : World) (L : Nat) (buf : List UInt8) : Prop where
  below : Below w.heap.size w wr
  blk : wr.heap[w.heap.size]? = some (.cells (bc buf) 5 (0, 0))
  len : buf.length = L
theorem Buf.start (w : World) (L : Nat) : Buf w (w.alloc (.cells (madeCells #[.int .u8 0] L) 5)) L (List.replicate L 0) :=
  ⟨(Below.refl _ _).alloc (Nat.le_refl _) _, by rw [bc_made]; exact heap_alloc_new _ _, by simp⟩
def fS (ss : List (ByteArray × Nat)) (L r : Nat) : List UInt8 := (absS (ss.take r)).foldl put (List.replicate L 0)
theorem fS_succ (ss : List (ByteArray × Nat)) (L r : Nat) (h : r < ss.length) : fS ss L (r + 1) = put (fS ss L r) ((ss.getD r (nl, 0)).1.data.toList, (ss.getD r (nl, 0)).2) := by
  unfold fS absS
  rw [List.take_succ_eq_append_getElem h, List.map_append, List.foldl_append]
  simp [List.getD, h]
def fB (ss : List (ByteArray × Nat)) (bs : List Bt) (L r : Nat) : List UInt8 := (absB (bs.take r)).foldl put (fS ss L ss.length)
theorem fB_succ (ss : List (ByteArray × Nat)) (bs : List Bt) (L r : Nat) (h : r < bs.length) : fB ss bs L (r + 1) = put (fB ss bs L r) ((bs.getD r zb).d, (bs.getD r zb).o) := by
  unfold fB absB
  rw [List.take_succ_eq_append_getElem h, List.map_append, List.foldl_append]
  simp [List.getD, h]
theorem getD_mem {α : Type} (l : List α) (i : Nat) (d : α) (h : i < l.length) : l.getD i d ∈ l := by
  have : l.getD i d = l[i] := by simp [List.getD, h]
  rw [this]
  exact List.getElem_mem h
theorem infoU : (Try.prog.info? 5).map (fun i => (i.zero, i.size, i.bytes)) = some (some (.int .u8 0), 1, 1) := by kernel_rfl
theorem sizeU : (Try.prog.info? 5).map (·.size) = some 1 := by kernel_rfl
set_option maxHeartbeats 4000000 in
theorem doneSlow (B J : Nat) (ss : List (ByteArray × Nat)) (bs : List Bt) (L : Nat) (c : Int) (w : World) (h : Jn B w J ss bs L c) (hn : (0 < ss.length ∧ ((ss.length : Int) == 0) = false) ∨ ss.length = 0 ∧ ((bs.length : Int) == 1) = false) :
    Calls Try.prog 14 #[.pointer (some ⟨J, 0, none⟩)] w fun e w' => e = .returned (.slice (some ⟨w.heap.size, 0, none⟩) L L) ∧ Buf w w' L (fB ss bs L bs.length) := by
  obtain ⟨sl, bl, hC⟩ := h.ex
  obtain ⟨a, cc, rfl⟩ := slice_form hC.o1
  obtain ⟨a1, c1, rfl⟩ := slice_form hC.o2
  have hJ := hC.row.lt
  have c0 : w.cell? ⟨J, 0, none⟩ = some (.slice a ss.length cc) := hC.row.cell (i := 0) (by omega)
  have e1 : w.cell? ⟨J, 1, none⟩ = some (.slice a1 bs.length c1) := hC.row.cell (i := 1) (by omega)
  have e2 : w.cell? ⟨J, 2, none⟩ = some (.int .u32 L) := hC.row.cell (i := 2) (by omega)
  have hLL := h.lL
  have hmk := run_make_row' (P := Try.prog) 32 5 (.int .u8 0) 1 Try.underlying32 infoU rfl .u32 .u32 L (by omega) (by omega)
  have hlS := h.lS
  have hlB := h.lB
  rcases hn with ⟨hn, hn2⟩ | ⟨hn, hn2⟩
  all_goals
    go_enter Try.func14, Try.ntmps14
    go_wp2_with fail
    clear hmk c0
    go_loopg [49] ss.length (fun gk i wr => ∃ r : Nat, r ≤ ss.length ∧ gk = ss.length - r ∧ i = .int .i64 r ∧ Buf w wr L (fS ss L r))
    case atStart => exact ⟨0, Nat.zero_le _, rfl, rfl, Buf.start w L⟩
    case round =>
      obtain ⟨r, hr, rfl, rfl, hF⟩ := hrel
      rcases Nat.lt_or_ge r ss.length with hlt | hge
      rotate_left
      · have hrn : r = ss.length := by omega
        subst hrn
        replace hn := Lib.hid hn
        have f1 : wr.cell? ⟨J, 1, none⟩ = some (.slice a1 bs.length c1) := (hF.below.cell (p := ⟨J, 1, none⟩) hJ).trans e1
        go_wp2_with fail
        go_loopg [66] bs.length (fun gk i wr => ∃ r : Nat, r ≤ bs.length ∧ gk = bs.length - r ∧ i = .int .i64 r ∧ Buf w wr L (fB ss bs L r))
        case atStart => exact ⟨0, Nat.zero_le _, rfl, rfl, hF⟩
        case round =>
          clear f1 hF
          obtain ⟨r, hr, rfl, rfl, hF⟩ := hrel
          rcases Nat.lt_or_ge r bs.length with hlt | hge
          rotate_left
          · have hrn : r = bs.length := by omega
            subst hrn
            go_wp2_with fail
            go_ret
            exact ⟨rfl, hF⟩
          all_goals
            obtain ⟨g, cap, e, _, hg⟩ := hC.o2.form (by omega)
            cases e
            have hmem := getD_mem bs r zb hlt
            have hfit := h.fitB _ hmem
            have hdat := hC.dat _ hmem
            have k1 := (hC.o2.cellAt (r * 2) (by omega)).trans (cellsB_at bs r hlt).1
            have k2 := (hC.o2.cellAt (r * 2 + 1) (by omega)).trans (cellsB_at bs r hlt).2
            have hsucc := Lib.hid (fB_succ ss bs L r hlt)
            generalize bs.getD r zb = x at hfit k1 k2 hsucc hdat
            clear hmem
            obtain ⟨xa, n, xc, o, d⟩ := x
            dsimp only at hfit k1 k2 hdat
            have g1 : wr.cell? ⟨g, r * 2, none⟩ = some (.slice xa n xc) := (hF.below.cell (p := ⟨g, r * 2, none⟩) hg).trans k1
            have g2 : wr.cell? ⟨g, r * 2 + 1, none⟩ = some (.int .u32 o) := (hF.below.cell (p := ⟨g, r * 2 + 1, none⟩) hg).trans k2
            have hsz : w.heap.size < wr.heap.size := (Array.getElem?_eq_some_iff.1 hF.blk).1
            have hlen := hF.len
            have hblk : Hid ((wr.alloc (.cells #[.slice xa n xc, .int .u32 o] 51)).drew.heap[w.heap.size]? = some (.cells (bc (fB ss bs L r)) 5 (0, 0))) := Lib.hid ((heap_alloc_old wr _ (by omega)).trans hF.blk)
            have hbel : Hid (Below w.heap.size w (wr.alloc (.cells #[.slice xa n xc, .int .u32 o] 51)).drew) := Lib.hid ((hF.below.alloc (by omega) _).drew)
            have hdl := hdat.1
            have hfit2 : o + d.length ≤ (fB ss bs L r).length := by omega
            have hdat2 := Lib.hid (hdat.keep (fun b cur fr hb => hbel.out.block b (Array.getElem?_eq_some_iff.1 hb).1))
            have hbc : Hid ((Lib.byteCells d).length = d.length) := Lib.hid (by simp [Lib.byteCells])
            have hfit3 : o + n ≤ (fB ss bs L r).length := by omega
            have hsn : n ≤ L - o := by omega
            clear k1 k2 hF hdat
            rcases Nat.lt_or_ge o L with hoL | hoL
            · have hoL1 : o ≤ L := by omega
              have hoL2 : ¬ L = o := by omega
              clear hoL
              go_wp2_with fail
              go_region_law ((refine step_copy_bts rfl (.tmp 73) (.tmp 75) _ _ rfl 5 Try.underlying32 sizeU _ _ _ _ _ _ d rfl rfl w.heap.size o (fB ss bs L r) 5 hblk.out hsn (fun _ => rfl) hfit3 hdat2.out w.heap.size w hbel.out (Nat.le_refl _) ?_; intro w4 hb4 hB4))
              all_goals
                clear hblk hbel g1 g2 hdat2
                go_wp2_with fail
                go_roundg (bs.length - (r + 1))
                case measure => omega
                case rel => exact ⟨r + 1, by omega, rfl, rfl, hB4, by rw [hsucc.out]; exact hb4.out, by rw [hsucc.out, put_len _ _ hfit2]; exact hlen⟩
            · obtain rfl : L = o := by omega
              clear hoL
              have hsn0 : n ≤ 0 := by omega
              go_wp2_with fail
              go_region_law ((refine step_copy_bts rfl (.tmp 73) (.tmp 75) _ _ rfl 5 Try.underlying32 sizeU _ _ _ _ _ _ d rfl rfl w.heap.size L (fB ss bs L r) 5 hblk.out hsn0 (fun hh => absurd hh (by omega)) hfit3 hdat2.out w.heap.size w hbel.out (Nat.le_refl _) ?_; intro w4 hb4 hB4))
              all_goals
                clear hblk hbel g1 g2 hdat2
                go_wp2_with fail
                go_roundg (bs.length - (r + 1))
                case measure => omega
                case rel => exact ⟨r + 1, by omega, rfl, rfl, hB4, by rw [hsucc.out]; exact hb4.out, by rw [hsucc.out, put_len _ _ hfit2]; exact hlen⟩
      all_goals try (exfalso; omega)
      all_goals
        obtain ⟨g, cap, e, _, hg⟩ := hC.o1.form (by omega)
        cases e
        have hmem := getD_mem ss r (nl, 0) hlt
        have hfit := h.fitS _ hmem
        have k1 := (hC.o1.cellAt (r * 2) (by omega)).trans (cellsS_at ss r hlt).1
        have k2 := (hC.o1.cellAt (r * 2 + 1) (by omega)).trans (cellsS_at ss r hlt).2
        have hsucc := Lib.hid (fS_succ ss L r hlt)
        generalize ss.getD r (nl, 0) = x at hfit k1 k2 hsucc
        clear hmem
        obtain ⟨s, o⟩ := x
        dsimp only at hfit k1 k2
        have g1 : wr.cell? ⟨g, r * 2, none⟩ = some (.string s) := (hF.below.cell (p := ⟨g, r * 2, none⟩) hg).trans k1
        have g2 : wr.cell? ⟨g, r * 2 + 1, none⟩ = some (.int .u32 o) := (hF.below.cell (p := ⟨g, r * 2 + 1, none⟩) hg).trans k2
        have hsz : w.heap.size < wr.heap.size := (Array.getElem?_eq_some_iff.1 hF.blk).1
        have hlen := hF.len
        have hblk : Hid ((wr.alloc (.cells #[.string s, .int .u32 o] 53)).drew.heap[w.heap.size]? = some (.cells (bc (fS ss L r)) 5 (0, 0))) := Lib.hid ((heap_alloc_old wr _ (by omega)).trans hF.blk)
        have hbel : Hid (Below w.heap.size w (wr.alloc (.cells #[.string s, .int .u32 o] 53)).drew) := Lib.hid ((hF.below.alloc (by omega) _).drew)
        have hfit2 : o + s.size ≤ (fS ss L r).length := by omega
        have hsn : s.size ≤ L - o := by omega
        clear k1 k2 hF
        replace hlen := hlen
        rcases Nat.lt_or_ge o L with hoL | hoL
        · have hoL1 : o ≤ L := by omega
          have hoL2 : ¬ L = o := by omega
          clear hoL
          go_wp2_with fail
          go_region_law ((refine step_copy_str rfl (.tmp 56) (.tmp 58) _ _ rfl 5 Try.underlying32 sizeU _ _ _ _ rfl rfl w.heap.size o (fS ss L r) 5 hblk.out hsn (fun _ => rfl) hfit2 w.heap.size w hbel.out (Nat.le_refl _) ?_; intro w4 hb4 hB4))
          all_goals
            clear hblk hbel g1 g2
            go_wp2_with fail
            go_roundg (ss.length - (r + 1))
            case measure => omega
            case rel => exact ⟨r + 1, by omega, rfl, rfl, hB4, by rw [hsucc.out]; exact hb4.out, by rw [hsucc.out, put_len _ _ hfit2]; exact hlen⟩
        · obtain rfl : L = o := by omega
          clear hoL
          have hsn0 : s.size ≤ 0 := by omega
          go_wp2_with fail
          go_region_law ((refine step_copy_str rfl (.tmp 56) (.tmp 58) _ _ rfl 5 Try.underlying32 sizeU _ _ _ _ rfl rfl w.heap.size L (fS ss L r) 5 hblk.out hsn0 (fun hh => absurd hh (by omega)) hfit2 w.heap.size w hbel.out (Nat.le_refl _) ?_; intro w4 hb4 hB4))
          all_goals
            clear hblk hbel g1 g2
            go_wp2_with fail
            go_roundg (ss.length - (r + 1))
            case measure => omega
            case rel => exact ⟨r + 1, by omega, rfl, rfl, hB4, by rw [hsucc.out]; exact hb4.out, by rw [hsucc.out, put_len _ _ hfit2]; exact hlen⟩
end Go.Proofs.Ytolfajalkbnnoaa.Join
