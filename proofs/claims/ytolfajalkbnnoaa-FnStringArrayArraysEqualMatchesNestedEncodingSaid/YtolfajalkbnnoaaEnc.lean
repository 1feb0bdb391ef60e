/-
  zzItoa, zzEncode, zzEncode2: what they give. Condition: at most 2^20 in all.
-/
import Derived.Test.YtolfajalkbnnoaaStrRows
import Derived.Test.YtolfajalkbnnoaaEncLaw
import Derived.Test.YtolfajalkbnnoaaConv
import Derived.Lib.AppendStr
namespace Go.Proofs.Ytolfajalkbnnoaa.Enc
open Go.RowKit Go.ChangeShapes Go.WideShapes Go.ChangeAt Go.Proofs.Ytolfajalkbnnoaa.Ints Go.Proofs.Ytolfajalkbnnoaa.Join

theorem itoa0 (w : World) : Calls Try.prog 29 #[.int .i64 0] w fun e w' => e = .returned (.string (strB [48])) ∧ Below w.heap.size w w' := by
  go_enter Try.func29, Try.ntmps29
  go_wp2_with fail
  go_ret
  exact ⟨rfl, Below.refl _ _⟩
/-- The array while digits are written from its end: t stands there. -/
def tailRow (t : List UInt8) : Nat → Value := fun j => if j < 24 - t.length then .int .u8 0 else .int .u8 ((t.getD (j - (24 - t.length)) 0).toNat : Int)
theorem tail_set {w : World} {B T : Nat} {t : List UInt8} {b : UInt8} (h : w.rowIs B T 24 (tailRow t)) (ht : t.length < 24) : (w.setCell ⟨B, 24 - t.length - 1, none⟩ (.int .u8 (b.toNat : Int))).rowIs B T 24 (tailRow (b :: t)) := by
  refine (h.set (24 - t.length - 1) _).congr fun i hi => ?_
  simp only [tailRow, List.length_cons]
  by_cases e : i = 24 - t.length - 1
  · subst e
    rw [if_pos rfl, if_neg (by omega), show 24 - t.length - 1 - (24 - (t.length + 1)) = 0 by omega]
    rfl
  · rw [if_neg e]
    by_cases hlt : i < 24 - t.length
    · rw [if_pos hlt, if_pos (by omega)]
    · rw [if_neg hlt, if_neg (by omega), show i - (24 - (t.length + 1)) = (i - (24 - t.length)) + 1 by omega]
      rfl
theorem zero_row (w : World) (T : Nat) : (w.alloc (.cells #[.int .u8 0, .int .u8 0, .int .u8 0, .int .u8 0, .int .u8 0, .int .u8 0, .int .u8 0, .int .u8 0, .int .u8 0, .int .u8 0, .int .u8 0, .int .u8 0, .int .u8 0, .int .u8 0, .int .u8 0, .int .u8 0, .int .u8 0, .int .u8 0, .int .u8 0, .int .u8 0, .int .u8 0, .int .u8 0, .int .u8 0, .int .u8 0] T)).rowIs w.heap.size T 24 (tailRow []) :=
  World.rowIs_alloc w #[.int .u8 0, .int .u8 0, .int .u8 0, .int .u8 0, .int .u8 0, .int .u8 0, .int .u8 0, .int .u8 0, .int .u8 0, .int .u8 0, .int .u8 0, .int .u8 0, .int .u8 0, .int .u8 0, .int .u8 0, .int .u8 0, .int .u8 0, .int .u8 0, .int .u8 0, .int .u8 0, .int .u8 0, .int .u8 0, .int .u8 0, .int .u8 0] T _ (fun i hi => by
    have hi' : i < 24 := hi
    rw [show tailRow [] i = .int .u8 0 by simp [tailRow, hi']]
    match i, hi' with
    | 0, _ | 1, _ | 2, _ | 3, _ | 4, _ | 5, _ | 6, _ | 7, _ | 8, _ | 9, _ | 10, _ | 11, _ | 12, _ | 13, _ | 14, _ | 15, _ | 16, _ | 17, _ | 18, _ | 19, _ | 20, _ | 21, _ | 22, _ | 23, _ => rfl
    | k + 24, h => exact absurd h (by omega))
theorem conv0 (b off n cap : Nat) (l : List UInt8) (w : World) (hl : l.length = n) (hc : ∀ i, i < n → w.cell? ⟨b, off + i, none⟩ = some (.int .u8 ((l.getD i 0).toNat : Int))) : (convert 32 9 (.slice (some ⟨b, off, none⟩) n cap)).run Try.prog w = .ok (.string (strB l)) w := by
  rw [run_convert_bytes_arg w 32 5 Try.underlying32 Try.underlying5 b off n cap (l.map fun b => (b.toNat : Int)) (by simpa using hl) (fun i hi => by rw [hc i hi, getI]) 9 Try.underlying9, nums]
theorem pow_step {m k : Nat} (h : m < 2 ^ (21 - k)) (h0 : 0 < m) : k < 21 ∧ m / 10 < 2 ^ (21 - (k + 1)) := by
  have hk : k < 21 := by
    rcases Nat.lt_or_ge k 21 with h1 | h1
    · exact h1
    · rw [show 21 - k = 0 by omega] at h; simp at h; omega
  refine ⟨hk, ?_⟩
  rw [show 21 - k = (21 - (k + 1)) + 1 by omega, Nat.pow_succ] at h
  omega
set_option maxRecDepth 100000 in
theorem itoa1 (n : Nat) (h0 : 0 < n) (hn : n < 2097152) (w : World) : Calls Try.prog 29 #[.int .i64 n] w fun e w' => e = .returned (.string (strB (dg n))) ∧ Below w.heap.size w w' := by
  go_enter Try.func29, Try.ntmps29
  go_wp2_with fail
  go_loopg [0, 4] n (fun gk x i wr => ∃ (m : Nat) (t : List UInt8), gk = m ∧ x = .int .i64 m ∧ i = .int .i64 ((24 - t.length : Nat) : Int) ∧ pre m ++ t = pre n ∧ m < 2 ^ (21 - t.length) ∧ t.length ≤ 21 ∧ wr.rowIs w.heap.size 59 24 (tailRow t) ∧ Below w.heap.size w wr)
  case atStart => exact ⟨n, [], rfl, rfl, rfl, by simp, hn, by simp, zero_row w 59, (Below.refl _ _).alloc (Nat.le_refl _) _⟩
  case round =>
    obtain ⟨m, t, rfl, rfl, rfl, hp, hm, htl, hR, hB⟩ := hrel
    replace hp := Lib.hid hp
    have hgk0 : gk ≤ 2097152 := by have := Nat.pow_le_pow_right (show 0 < 2 by omega) (show 21 - t.length ≤ 21 by omega); omega
    rcases Nat.eq_zero_or_pos gk with hz | hz
    · subst hz
      have he : Hid (t = dg n) := Lib.hid (by have := hp.out; rw [pre_zero, List.nil_append] at this; rw [this, dg, if_neg (by omega)])
      have hlen : 0 < t.length := by
        rcases Nat.eq_zero_or_pos t.length with h1 | h1
        · exfalso
          have h2 : t = [] := List.eq_nil_of_length_eq_zero h1
          have := hp.out
          rw [h2, pre_zero] at this
          have h3 := val_pre n
          rw [← this] at h3
          have : val [] = 0 := rfl
          simp at h3
          omega
        · exact h1
      have hcell : ∀ i, i < t.length → wr.cell? ⟨w.heap.size, (24 - t.length) + i, none⟩ = some (.int .u8 ((t.getD i 0).toNat : Int)) := fun i hi => by
        rw [hR.cell (i := 24 - t.length + i) (by omega)]
        simp only [tailRow]
        rw [if_neg (by omega), Nat.add_sub_cancel_left]
      have hcv := conv0 w.heap.size (24 - t.length) t.length t.length t wr rfl hcell
      rw [he.out] at hcv
      replace hcv : (convert 32 9 (.slice (some ⟨w.heap.size, 24 - t.length, none⟩) t.length t.length)).run Try.prog wr = .ok (.string (strB (dg n))) wr := by rw [he.out]; exact hcv
      clear hcell he hp hR hm
      generalize t.length = k at *
      obtain ⟨q, hq, hqk⟩ : ∃ q : Nat, 24 - k = q ∧ k = 24 - q := ⟨24 - k, rfl, by omega⟩
      rw [hq] at hcv ⊢
      subst hqk
      have hq24 : q < 24 := by omega
      clear hq htl
      have hsl : (Instr.sliceAt 59 (.pointer (some ⟨w.heap.size, 0, none⟩)) (some (.int .i64 (q : Int))) none none).run Try.prog wr = .ok (.slice (some ⟨w.heap.size, q, none⟩) (24 - q) (24 - q)) wr := by
        have e1 : Try.prog.arrayLen 59 = 24 := by kernel_rfl
        have e2 : ∀ w : World, (sizeOf (Try.prog.elem 59)).run Try.prog w = .ok 1 w := fun w => by kernel_rfl
        rw [run_sliceAt_array_l wr 59 _ (by rw [e1]; exact Try.underlying59) .i64 q (by omega) (by rw [e1]; omega), e2]
        simp [slicedAt, e1, show ¬ 24 = q by omega, add_plain]
      go_wp2_with fail
      go_ret
      exact ⟨rfl, hB⟩
    · obtain ⟨hk, hm2⟩ := pow_step hm hz
      have hpre := pre_pos gk hz
      have hd := dig_nat gk
      have hset := tail_set (b := dig gk) hR (by omega)
      have hset2 : Hid (pre (gk / 10) ++ dig gk :: t = pre n) := Lib.hid (by rw [← hp.out, hpre]; simp)
      have hBs : Hid (Below w.heap.size w (wr.setCell ⟨w.heap.size, 24 - t.length - 1, none⟩ (.int .u8 ((dig gk).toNat : Int)))) := Lib.hid (hB.setCell (Nat.le_refl _) _)
      have hc : wr.cell? ⟨w.heap.size, 24 - t.length - 1, none⟩ = some (.int .u8 0) := by
        rw [hR.cell (i := 24 - t.length - 1) (by omega)]
        simp only [tailRow]
        rw [if_pos (by omega)]
      have hfz := hR.frozen (24 - t.length - 1)
      rw [hd] at hset hBs
      replace hset := Lib.hid hset
      have hlen1 : (dig gk :: t).length = t.length + 1 := rfl
      clear hpre hd hm hR
      obtain ⟨q, hq, hqk⟩ : ∃ q : Nat, 24 - t.length = q + 1 ∧ t.length = 23 - q := ⟨23 - t.length, by omega, by omega⟩
      rw [hq] at hset hBs hc hfz ⊢
      rw [Nat.add_sub_cancel] at hset hBs hc hfz
      have hq24 : q < 24 := by omega
      replace hlen1 : Hid (24 - (dig gk :: t).length = q) := Lib.hid (by rw [hlen1]; omega)
      replace hqk := Lib.hid hqk
      replace hq := Lib.hid hq
      have hgk : gk ≤ 2097152 := hgk0
      have jm : (gk : Int).tmod 10 = ((gk % 10 : Nat) : Int) := rfl
      have jd : (gk : Int).tdiv 10 = ((gk / 10 : Nat) : Int) := rfl
      go_wp2_with fail
      go_roundg (gk / 10)
      case measure => omega
      case rel => exact ⟨gk / 10, dig gk :: t, rfl, rfl, by rw [hlen1.out], hset2.out, hm2, by simp only [List.length_cons]; omega, hset.out, hBs.out⟩
/-- A buffer that the call owns: it holds l. -/
structure Buf (w wr : World) (v : Value) (l : List UInt8) : Prop where
  own : wr.ownsRow w.heap.size 5 1 v l.length (Lib.byteCells l)
  below : Below w.heap.size w wr
theorem itoa (n : Nat) (hn : n < 2097152) (w : World) : Calls Try.prog 29 #[.int .i64 n] w fun e w' => e = .returned (.string (strB (dg n))) ∧ Below w.heap.size w w' := by
  rcases Nat.eq_zero_or_pos n with h | h
  · subst h
    exact itoa0 w
  · exact itoa1 n h hn w
section
variable {w wr w1 : World} {v v' : Value} {l m : List UInt8}
theorem Buf.grow (h : Buf w wr v l) (hb : Below wr.heap.size wr w1) : Buf w w1 v l :=
  ⟨own_keep h.own (fun g cur hg => hb.block g (Array.getElem?_eq_some_iff.1 hg).1), h.below.trans (hb.mono h.below.size)⟩
theorem Buf.app (h : Buf w wr v l) (ho : w1.ownsRow w.heap.size 5 1 v' (l.length + m.length) (Lib.byteCells l ++ Lib.byteCells m)) (hg : wr.grownBy w1 v.ownBlock) : Buf w w1 v' (l ++ m) :=
  ⟨by rw [List.length_append, Lib.byteCells_append]; exact ho, h.below.grown hg h.below.size (fun k hk => (h.own.lt k hk).1)⟩
theorem Buf.appS {s : ByteArray} (h : Buf w wr v l) (ho : w1.ownsRow w.heap.size 5 1 v' (l.length + s.size) (Lib.byteCells l ++ Lib.strCells s)) (hg : wr.grownBy w1 v.ownBlock) : Buf w w1 v' (l ++ s.data.toList) :=
  h.app (m := s.data.toList) (by rw [Array.length_toList]; exact ho) hg
theorem Buf.new (w : World) : Buf w (w.alloc (.cells #[] 5)) (.slice (some ⟨w.heap.size, 0, none⟩) 0 0) [] :=
  ⟨World.ownsRow_made w #[] 0 (Nat.le_refl _) (Nat.zero_le _) rfl, (Below.refl _ _).alloc (Nat.le_refl _) _⟩
theorem Buf.str (h : Buf w wr v l) : (convert 32 9 v).run Try.prog wr = .ok (.string (strB l)) wr := by
  rcases h.own.2 with ⟨rfl, e⟩ | ⟨g, cap, cur, rfl, hb, hh, hle, _, hsz, htk⟩
  · rw [List.eq_nil_of_length_eq_zero e]
    exact run_convert_bytes_nil wr 32 5 Try.underlying32 Try.underlying5 0 0 9 Try.underlying9
  · refine conv0 g 0 l.length cap l wr rfl (fun i hi => ?_)
    have := h.own.cells (g := g) rfl i (.int .u8 ((l.getD i 0).toNat : Int)) (by simp [Lib.byteCells, hi, List.getD])
    rw [add_plain] at this
    exact this
end
def rowL (f : Nat → ByteArray) (n : Nat) : List (List UInt8) := (List.range n).map fun i => (f i).data.toList
theorem rowL_succ (f : Nat → ByteArray) (n : Nat) : rowL f (n + 1) = rowL f n ++ [(f n).data.toList] := by simp [rowL, List.range_succ]
theorem enc_len (f : Nat → ByteArray) : ∀ n, (∀ i, i < n → (f i).size < 2097152) → (enc (rowL f n)).length ≤ 22 * n + tot f n
  | 0, _ => by simp [rowL, enc]
  | n + 1, h => by
    have ih := enc_len f n (fun i hi => h i (by omega))
    have h2 := dg_len (f n).size (h n (by omega))
    have hsz : (f n).data.toList.length = (f n).size := Array.length_toList
    rw [rowL_succ, enc_snoc, List.length_append, List.length_append, List.length_cons, hsz, tot]
    omega
theorem info8b : (Try.prog.info? 5).map (fun i => (i.zero, i.size, i.bytes)) = some (some (.int .u8 0), 1, 1) := by kernel_rfl
theorem one_new (wr : World) (v : Value) (T : TypeId) : ∀ j u, ([v] : List Value)[j]? = some u → (wr.alloc (.cells #[v] T)).cell? ((⟨wr.heap.size, 0, none⟩ : Addr).add j) = some u := fun j u hu => by
  have hj : j = 0 := by
    rcases Nat.eq_zero_or_pos j with h | h
    · exact h
    · rw [List.getElem?_eq_none (by simp; omega)] at hu; cases hu
  subst hj
  cases hu
  rw [add_plain]
  go_simp
theorem one_cell (x : Int) : ∀ u ∈ ([Value.int .u8 x] : List Value), u.oneCell' = true := fun u hu => by
  simp at hu; subst hu; rfl
set_option maxRecDepth 100000 in
set_option maxHeartbeats 2000000 in
theorem encode (o : Option Addr) (n cap : Nat) (f : Nat → ByteArray) (w : World) (hI : StrT w o n f) (hn : n ≤ 1048576) (hs : ∀ i, i < n → (f i).size < 2097152) (ht : tot f n ≤ 1048576) :
    Calls Try.prog 30 #[.slice o n cap] w fun e w' => e = .returned (.string (strB (enc (rowL f n)))) ∧ Below w.heap.size w w' := by
  obtain ⟨i0, hi, hz0, hz1, hz2⟩ := info_parts info8b
  replace hs := Lib.hid hs
  replace ht := Lib.hid ht
  go_enter Try.func30, Try.ntmps30
  go_wp2_with fail
  go_loopg [3, 4] n (fun gk x i wr => ∃ r : Nat, r ≤ n ∧ gk = n - r ∧ i = .int .i64 r ∧ Buf w wr x (enc (rowL f r)))
  case atStart => exact ⟨0, Nat.zero_le _, rfl, rfl, Buf.new w⟩
  case round =>
    obtain ⟨r, hr, rfl, rfl, hB⟩ := hrel
    have hlen := enc_len f r (fun i hi => hs.out i (by omega))
    have htr := tot_mono f n r hr
    have hlen' : (enc (rowL f r)).length ≤ 33554432 := by have := ht.out; omega
    clear hlen htr
    rcases Nat.lt_or_ge r n with hlt | hge
    · have hA := hI
      rcases hA with h0 | ⟨b, off, rfl, ⟨cur, fr, hb⟩, hc⟩
      · omega
      have hbl : b < w.heap.size := (Array.getElem?_eq_some_iff.1 hb).1
      have g1 : wr.cell? ⟨b, off + r, none⟩ = some (.string (f r)) := (hB.below.cell (by exact hbl)).trans (hc r hlt)
      have hsz := hs.out r hlt
      have hnext : Hid (enc (rowL f (r + 1)) = (enc (rowL f r) ++ (strB (dg (f r).size)).data.toList) ++ [58] ++ (f r).data.toList) := Lib.hid (by rw [rowL_succ, enc_snoc, strB_data]; simp [Array.length_toList])
      generalize enc (rowL f r) = l at hB hlen' hnext
      have hdl := dg_len (f r).size hsz
      rw [← strB_size] at hdl
      have hcr := Lib.hid (hc r hlt)
      clear hb hc
      have k1 : l.length + (strB (dg (f r).size)).size ≤ maxLen := by simp only [maxLen]; omega
      have k2 : l.length + (strB (dg (f r).size)).size ≤ 140737488355328 := by omega
      have hl2 : Hid ((l ++ (strB (dg (f r).size)).data.toList).length = l.length + (strB (dg (f r).size)).size) := Lib.hid (by rw [List.length_append, Array.length_toList]; rfl)
      have hl3 : Hid ((l ++ (strB (dg (f r).size)).data.toList ++ [58]).length = l.length + (strB (dg (f r).size)).size + 1) := Lib.hid (by rw [List.length_append, hl2.out]; rfl)
      generalize hl2' : l ++ (strB (dg (f r).size)).data.toList = l2 at *
      generalize hl3' : l2 ++ [58] = l3 at *
      have k3 : l2.length + 1 ≤ maxLen := by rw [hl2.out]; simp only [maxLen]; omega
      have k4 : (l2.length + 1) * 1 ≤ 140737488355328 := by rw [hl2.out]; omega
      have k5 : l3.length + (f r).size ≤ maxLen := by rw [hl3.out]; simp only [maxLen]; omega
      have k6 : l3.length + (f r).size ≤ 140737488355328 := by rw [hl3.out]; omega
      replace hl2' := Lib.hid hl2'
      replace hl3' := Lib.hid hl3'
      replace k1 := Lib.hid k1
      replace k2 := Lib.hid k2
      replace k3 := Lib.hid k3
      replace k4 := Lib.hid k4
      replace k5 := Lib.hid k5
      replace k6 := Lib.hid k6
      go_wp2_with (first
        | (go_at_call 29; refine (itoa (f r).size hsz wr).mono ?_; rintro e w1 ⟨rfl, hb1⟩; have hB1 := hB.grow hb1)
        | (at_builtin; refine Lib.wpList_append_own_string _ rfl (.tmp 12) (.tmp 18) 32 9 rfl w.heap.size 5 i0 Try.underlying32 Try.underlying9 hi hz0 hz1 hz2 u3 l.length (Lib.byteCells l) rfl hB1.own (strB (dg (f r).size)) rfl k1.out k2.out hB1.below.size ?_; intro v1 w2 ho hg _; have hB2 := hB1.appS ho hg; rw [hl2'.out] at hB2; have hB2' := hB2.grow ((Below.refl _ _).alloc (Nat.le_refl _) (.cells #[.int .u8 58] 5)); clear ho hg)
        | (at_builtin; refine wpList_append_own _ rfl (.tmp 20) (.tmp 21) _ rfl w.heap.size 5 i0 (.int .u8 0) 1 1 Try.underlying32 hi hz0 hz1 hz2 rfl (by omega) v1 l2.length (Lib.byteCells l2) rfl hB2'.own ⟨w2.heap.size, 0, none⟩ 1 1 [.int .u8 58] rfl rfl (one_new _ _ _) (one_cell _) k3.out k4.out hB2'.below.size ?_; intro v2 w3 ho hg _; have hB3 := hB2'.app (m := [58]) ho hg; rw [hl3'.out] at hB3; have g3 := (hB3.below.cell (p := ⟨b, off + r, none⟩) (by exact hbl)).trans hcr.out; clear ho hg)
        | (at_builtin; refine Lib.wpList_append_own_string _ rfl (.tmp 23) (.tmp 27) 32 9 rfl w.heap.size 5 i0 Try.underlying32 Try.underlying9 hi hz0 hz1 hz2 v2 l3.length (Lib.byteCells l3) rfl hB3.own (f r) rfl k5.out k6.out hB3.below.size ?_; intro v3 w4 ho hg _; have hB4 := hB3.appS ho hg; clear ho hg))
      rw [← hnext.out] at hB4
      go_roundg (n - (r + 1))
      case measure => omega
      case rel => exact ⟨r + 1, by omega, rfl, rfl, hB4⟩
    · have hrn : r = n := by omega
      subst hrn
      have hcv := hB.str
      go_wp2_with fail
      go_ret
      exact ⟨rfl, hB.below⟩
end Go.Proofs.Ytolfajalkbnnoaa.Enc
