/-
  The small functions of the quoting statement. No condition beyond the values' bounds.
-/
import Derived.Test.YtgeijelkojgapaaQuoM
import Derived.Test.YtgeijelkojgapaaBuild2
import Derived.RegionTactic
import Derived.BigRegion
import Derived.Deep.RegionLaw
import Derived.Deep.QuietTactic
import Derived.BigQuiet
import Derived.StillTailTactics
namespace Go.Proofs.Ytgeijelkojgapaa.QuoP
open Go.RowKit Go.Lib Go.ChangeShapes Go.WideShapes Go.ChangeAt Go.Proofs.Ytgeijelkojgapaa.U8 Go.Proofs.Ytgeijelkojgapaa.QuoD Go.Proofs.Ytgeijelkojgapaa.QuoM

theorem info8 : (Try.prog.info? 5).map (fun i => (i.zero, i.size, i.bytes)) = some (some (.int .u8 0), 1, 1) := by kernel_rfl
theorem info_parts {x : Option TypeInfo} {z : Value} {s b : Nat} (h : x.map (fun i => (i.zero, i.size, i.bytes)) = some (some z, s, b)) : ∃ i, x = some i ∧ i.zero = some z ∧ i.size = s ∧ i.bytes = b := by
  cases x with
  | none => cases h
  | some i => simp at h; exact ⟨i, rfl, h.1, h.2.1, h.2.2⟩
abbrev cells8 (xs : List Int) : List Value := xs.map (Value.int .u8)
theorem wpList_append_many {P : Program} {ops : Array Oper} {rest : List Oper} {o : Oper} {a : Act} {Q : Exit → Act → World → Prop} (hgd : o.guard = none) (s x : Operand) (t : TypeId)
    (ho : o.op = .call { callee := .builtin .append, args := #[s, x], argTypes := #[t, t] })
    (B : Nat) (e : TypeId) (i : TypeInfo) (ht : P.underlying t = some (.slice e)) (hi : P.info? e = some i) (hz : i.zero = some (.int .u8 0)) (hsize : i.size = 1) (hby : i.bytes = 1)
    (v : Value) (n : Nat) (xs : List Value) (hs : a.eval s = v) (W0 w0 : World) (cs : List Int) (hb : OwnBuf B e v n xs W0 w0) (m : Nat) (hm : cs.length = m)
    (hx : a.eval x = .slice (some ⟨w0.heap.size, 0, none⟩) m m) (hlen : n + m ≤ 140737488355328)
    (h : ∀ v' w', OwnBuf B e v' (n + m) (xs ++ cells8 cs) W0 w' → wpList P ops Q rest (a.put o.dst v') w') : wpList P ops Q (o :: rest) a (w0.alloc (.cells (cells8 cs).toArray e)) := by
  have hb' := hb.alloc (.cells (cells8 cs).toArray e)
  refine wpList_append_ownF _ hgd s x t ho B e i (.int .u8 0) 1 1 ht hi hz hsize hby rfl (by decide) v n xs hs hb'.1 ⟨w0.heap.size, 0, none⟩ m m (cells8 cs) hx (by simp [hm]) ?_ ?_ (by unfold maxLen; omega) (by omega) hb'.2.2 ?_
  · intro j u hj
    rw [add_plain, Nat.zero_add, World.cell?_alloc_mark]
    simpa using hj
  · intro u hu
    simp only [cells8, List.mem_map] at hu
    obtain ⟨_, _, rfl⟩ := hu
    rfl
  · intro v' w' ho' hg _
    exact h v' w' (hb'.grown ho' hg)
theorem step_append_many {P : Program} {ops : Array Oper} {o : Oper} {a : Act} {K : Act → World → Prop} {Q : Exit → Act → World → Prop} {E : Prop} (hgd : o.guard = none) (s x : Operand) (t : TypeId)
    (ho : o.op = .call { callee := .builtin .append, args := #[s, x], argTypes := #[t, t] })
    (B : Nat) (e : TypeId) (i : TypeInfo) (ht : P.underlying t = some (.slice e)) (hi : P.info? e = some i) (hz : i.zero = some (.int .u8 0)) (hsize : i.size = 1) (hby : i.bytes = 1)
    (v : Value) (n : Nat) (xs : List Value) (hs : a.eval s = v) (W0 w0 : World) (cs : List Int) (hb : OwnBuf B e v n xs W0 w0) (m : Nat) (hm : cs.length = m)
    (hx : a.eval x = .slice (some ⟨w0.heap.size, 0, none⟩) m m) (hlen : n + m ≤ 140737488355328)
    (h : ∀ v' w', OwnBuf B e v' (n + m) (xs ++ cells8 cs) W0 w' → K (a.put o.dst v') w') :
    if Region.wanted o (yielded ops a.tmps) = true then Oper.wp P o a (w0.alloc (.cells (cells8 cs).toArray e)) K Q else E := by
  rw [if_pos (by simp [Region.wanted, hgd])]
  have hb' := hb.alloc (.cells (cells8 cs).toArray e)
  obtain ⟨v', w', hr, h2, h3, h4⟩ := run_append_ownF (P := P) (w := w0.alloc (.cells (cells8 cs).toArray e)) B t o.type e i (.int .u8 0) 1 1 ht hi hz hsize hby rfl (by decide) v n xs hb'.1 ⟨w0.heap.size, 0, none⟩ m m (cells8 cs) (by simp [hm]) (fun j u hj => by
    rw [add_plain, Nat.zero_add, World.cell?_alloc_mark]
    simpa using hj) (fun u hu => by
    simp only [cells8, List.mem_map] at hu
    obtain ⟨_, _, rfl⟩ := hu
    rfl) (by unfold maxLen; omega) (by omega) hb'.2.2
  unfold Oper.wp execOp
  simp only [ho, resolve, invoke, builtin, Sem.run_bind, Sem.run_pure, Result.andThen_ok, List.map_toArray, List.map_cons, List.map_nil, hs, hx, hr]
  exact h v' w' (hb'.grown h2 h3)
/-- The call hands back the row with cs behind it. -/
def Grew (B : Nat) (n : Nat) (xs : List Value) (cs : List Int) (W0 : World) (e : Ending) (w' : World) : Prop := ∃ v', e = .returned v' ∧ OwnBuf B 5 v' (n + cs.length) (xs ++ cells8 cs) W0 w'
theorem and15 (x : Nat) (hx : x < 2147483648) : bits .and .i32 (x : Int) 15 = ((x % 16 : Nat) : Int) := by
  have m := bits_mask .i32 31 (by decide) wraps_i32 4 (by decide) x (by omega) (by omega)
  rw [show ((2 : Int) ^ 4 - 1) = 15 from by decide] at m
  rw [m]
  simp
theorem hxe (n : Nat) (h : n < 16) : ((({ data := #[48, 49, 50, 51, 52, 53, 54, 55, 56, 57, 65, 66, 67, 68, 69, 70] } : ByteArray)[n]'(by show n < 16; exact h)).toNat : Int) = hx n := by
  have := bt_eq HX n (by show n < 16; exact h)
  exact congrArg (Nat.cast : Nat → Int) this
set_option maxRecDepth 20000 in
set_option maxHeartbeats 4000000 in
theorem appHex (B : Nat) (v : Value) (n : Nat) (xs : List Value) (W0 w : World) (c : Nat) (hc : c ≤ 65535) (hn : n ≤ 100000000) (hb : OwnBuf B 5 v n xs W0 w) :
    Calls Try.prog 20 #[v, .int .i32 c] w (Grew B n xs (hex4 c) W0) := by
  obtain ⟨i0, hi, hz0, hz1, hz2⟩ := info_parts info8
  have hb1 : OwnBuf B 5 v n xs W0 w.drew := hb.drewN 1
  obtain ⟨n1, e1⟩ : ∃ n1, n1 = c / 4096 % 16 := ⟨_, rfl⟩
  obtain ⟨n2, e2⟩ : ∃ n1, n1 = c / 256 % 16 := ⟨_, rfl⟩
  obtain ⟨n3, e3⟩ : ∃ n1, n1 = c / 16 % 16 := ⟨_, rfl⟩
  obtain ⟨n4, e4⟩ : ∃ n1, n1 = c % 16 := ⟨_, rfl⟩
  have l1 : n1 < 16 := by omega
  have l2 : n2 < 16 := by omega
  have l3 : n3 < 16 := by omega
  have l4 : n4 < 16 := by omega
  have m1 : bits .and .i32 ((c : Int) / 4096) 15 = (n1 : Int) := by rw [show (c : Int) / 4096 = ((c / 4096 : Nat) : Int) from by omega, and15 _ (by omega), e1]
  have m2 : bits .and .i32 ((c : Int) / 256) 15 = (n2 : Int) := by rw [show (c : Int) / 256 = ((c / 256 : Nat) : Int) from by omega, and15 _ (by omega), e2]
  have m3 : bits .and .i32 ((c : Int) / 16) 15 = (n3 : Int) := by rw [show (c : Int) / 16 = ((c / 16 : Nat) : Int) from by omega, and15 _ (by omega), e3]
  have m4 : bits .and .i32 (c : Int) 15 = (n4 : Int) := by rw [and15 _ (by omega), e4]
  have x1 := hxe n1 l1
  have x2 := hxe n2 l2
  have x3 := hxe n3 l3
  have x4 := hxe n4 l4
  have y1 : (n1 : Int) < 16 := by omega
  have y2 : (n2 : Int) < 16 := by omega
  have y3 : (n3 : Int) < 16 := by omega
  have y4 : (n4 : Int) < 16 := by omega
  have hh : Hid (hex4 c = [92, 117, hx n1, hx n2, hx n3, hx n4]) := Lib.hid (by rw [hex4, e1, e2, e3, e4])
  clear e1 e2 e3 e4
  replace hb := Lib.hid hb
  replace hb1 := Lib.hid hb1
  replace hi := Lib.hid hi
  go_enter Try.func20, Try.ntmps20
  go_wp2_with fail
  go_region_law ((refine step_append_many rfl (.tmp 5) (.tmp 21) _ rfl B 5 i0 Try.underlying24 hi.out hz0 hz1 hz2 v n xs rfl W0 w.drew [92, 117, hx n1, hx n2, hx n3, hx n4] hb1.out 6 rfl rfl (by omega) ?_; intro v' w' hb'))
  all_goals
    go_wp2_with fail
    go_ret
    rw [hh.out]
    exact ⟨v', rfl, hb'⟩
end Go.Proofs.Ytgeijelkojgapaa.QuoP
