/-
  zzEncode2, the sizes, StringArrayArraysEqual: what they give. Condition: at most 2^20 in all.
-/
import Derived.Test.YtolfajalkbnnoaaEnc
namespace Go.Proofs.Ytolfajalkbnnoaa.Enc
open Go.RowKit Go.ChangeShapes Go.WideShapes Go.ChangeAt Go.Proofs.Ytolfajalkbnnoaa.Ints Go.Proofs.Ytolfajalkbnnoaa.Join

def rowsL (F : Nat → Nat → ByteArray) (L : Nat → Nat) (n : Nat) : List (List (List UInt8)) := (List.range n).map fun i => rowL (F i) (L i)
theorem rowsL_succ (F : Nat → Nat → ByteArray) (L : Nat → Nat) (n : Nat) : rowsL F L (n + 1) = rowsL F L n ++ [rowL (F n) (L n)] := by simp [rowsL, List.range_succ]
theorem rowL_length (f : Nat → ByteArray) (n : Nat) : (rowL f n).length = n := by simp [rowL]
def cost (F : Nat → Nat → ByteArray) (L : Nat → Nat) : Nat → Nat
  | 0 => 0
  | r + 1 => cost F L r + (24 + 16 * L r + tot (F r) (L r))
theorem cost_mono (F : Nat → Nat → ByteArray) (L : Nat → Nat) : ∀ n r, r ≤ n → cost F L r ≤ cost F L n
  | 0, r, h => by rw [Nat.le_zero.1 h]; exact Nat.le_refl _
  | n + 1, r, h => by
    rcases Nat.lt_or_ge n r with h1 | h1
    · rw [show r = n + 1 by omega]; exact Nat.le_refl _
    · exact Nat.le_trans (cost_mono F L n r h1) (Nat.le_add_right _ _)
theorem cost_at {F : Nat → Nat → ByteArray} {L : Nat → Nat} {n r : Nat} (h : r < n) : 24 + 16 * L r + tot (F r) (L r) ≤ cost F L n := by
  have := cost_mono F L n (r + 1) h
  have e : cost F L (r + 1) = cost F L r + (24 + 16 * L r + tot (F r) (L r)) := rfl
  omega
theorem tot_at (f : Nat → ByteArray) : ∀ n i, i < n → (f i).size ≤ tot f n
  | 0, i, h => by omega
  | n + 1, i, h => by
    rcases Nat.lt_or_ge i n with h1 | h1
    · exact Nat.le_trans (tot_at f n i h1) (Nat.le_add_right _ _)
    · rw [show i = n by omega]; exact Nat.le_add_left _ _
theorem enc2_len (F : Nat → Nat → ByteArray) (L : Nat → Nat) : ∀ n, cost F L n ≤ 1048576 → (enc2 (rowsL F L n)).length ≤ 2 * cost F L n
  | 0, _ => by simp [rowsL, enc2]
  | n + 1, h => by
    have e : cost F L (n + 1) = cost F L n + (24 + 16 * L n + tot (F n) (L n)) := rfl
    have ih := enc2_len F L n (by omega)
    have h2 := dg_len (L n) (by omega)
    have h3 := enc_len (F n) (L n) (fun i hi => by have := tot_at (F n) (L n) i hi; omega)
    rw [rowsL_succ, enc2_snoc]
    simp only [List.length_append, List.length_cons, rowL_length]
    omega
set_option maxRecDepth 100000 in
set_option maxHeartbeats 2000000 in
theorem encode2 (o : Option Addr) (n cap : Nat) (A : Nat → Option Addr) (L : Nat → Nat) (F : Nat → Nat → ByteArray) (w : World) (hI : Two w o n A L F) (hn : n ≤ 65536) (ht : cost F L n ≤ 1048576) :
    Calls Try.prog 24 #[.slice o n cap] w fun e w' => e = .returned (.string (strB (enc2 (rowsL F L n)))) ∧ Below w.heap.size w w' := by
  obtain ⟨i0, hi, hz0, hz1, hz2⟩ := info_parts info8b
  replace ht := Lib.hid ht
  go_enter Try.func24, Try.ntmps24
  go_wp2_with fail
  go_loopg [3, 4] n (fun gk x i wr => ∃ r : Nat, r ≤ n ∧ gk = n - r ∧ i = .int .i64 r ∧ Buf w wr x (enc2 (rowsL F L r)))
  case atStart => exact ⟨0, Nat.zero_le _, rfl, rfl, Buf.new w⟩
  case round =>
    obtain ⟨r, hr, rfl, rfl, hB⟩ := hrel
    have htr := cost_mono F L n r hr
    have hlen := enc2_len F L r (by have := ht.out; omega)
    have hlen' : (enc2 (rowsL F L r)).length ≤ 33554432 := by have := ht.out; omega
    clear hlen htr
    rcases Nat.lt_or_ge r n with hlt | hge
    · have hA := hI.heads
      rcases hA with h0 | ⟨b, off, rfl, hbl, hc⟩
      · omega
      have hcr := hc r hlt
      have g1 : wr.cell? ⟨b, off + r, none⟩ = some (.slice (A r) (L r) (L r)) := (hB.below.cell (by exact hbl)).trans hcr
      have hcost := cost_at (F := F) (L := L) hlt
      have hLr : L r ≤ 1048576 := by have := ht.out; omega
      have hTr : Hid (tot (F r) (L r) ≤ 1048576) := Lib.hid (by have := ht.out; omega)
      have hel := enc_len (F r) (L r) (fun i hi => by have := tot_at (F r) (L r) i hi; have := hTr.out; omega)
      have hrow := hI.rows r hlt
      have hnext : Hid (enc2 (rowsL F L (r + 1)) = ((enc2 (rowsL F L r) ++ [91]) ++ (strB (dg (L r))).data.toList ++ [93]) ++ (strB (enc (rowL (F r) (L r)))).data.toList) := Lib.hid (by rw [rowsL_succ, enc2_snoc, strB_data, strB_data, rowL_length]; simp)
      generalize enc2 (rowsL F L r) = l at hB hlen' hnext
      have hdl := dg_len (L r) (by omega)
      rw [← strB_size] at hdl hel
      generalize hs1 : strB (dg (L r)) = s1 at *
      generalize hs2 : strB (enc (rowL (F r) (L r))) = s2 at *
      have e1 : (l ++ [91]).length = l.length + 1 := by simp
      have e2 : ((l ++ [91]) ++ s1.data.toList).length = l.length + 1 + s1.size := by rw [List.length_append, e1, Array.length_toList]; rfl
      have e3 : (((l ++ [91]) ++ s1.data.toList) ++ [93]).length = l.length + 1 + s1.size + 1 := by rw [List.length_append, e2]; rfl
      generalize h1 : l ++ [91] = l1 at *
      generalize h2 : l1 ++ s1.data.toList = l2 at *
      generalize h3 : l2 ++ [93] = l3 at *
      have k1 := Lib.hid (show l.length + 1 ≤ maxLen by simp only [maxLen]; omega)
      have k1b := Lib.hid (show (l.length + 1) * 1 ≤ 140737488355328 by omega)
      have k2 := Lib.hid (show l1.length + s1.size ≤ maxLen by simp only [maxLen]; omega)
      have k2b := Lib.hid (show l1.length + s1.size ≤ 140737488355328 by omega)
      have k3 := Lib.hid (show l2.length + 1 ≤ maxLen by simp only [maxLen]; omega)
      have k3b := Lib.hid (show (l2.length + 1) * 1 ≤ 140737488355328 by omega)
      have k4 := Lib.hid (show l3.length + s2.size ≤ maxLen by have := hTr.out; simp only [maxLen]; omega)
      have k4b := Lib.hid (show l3.length + s2.size ≤ 140737488355328 by have := hTr.out; omega)
      replace h1 := Lib.hid h1
      replace h2 := Lib.hid h2
      replace h3 := Lib.hid h3
      replace hs1 := Lib.hid hs1
      replace hs2 := Lib.hid hs2
      replace hcr := Lib.hid hcr
      have hB0 := hB.grow ((Below.refl _ _).alloc (Nat.le_refl _) (.cells #[.int .u8 91] 5))
      clear hc e1 e2 e3 hcost hel
      have hn2 : L r < 2097152 := by omega
      go_wp2_with (first
        | (at_builtin; refine wpList_append_own _ rfl (.tmp 12) (.tmp 13) _ rfl w.heap.size 5 i0 (.int .u8 0) 1 1 Try.underlying32 hi hz0 hz1 hz2 rfl (by omega) u3 l.length (Lib.byteCells l) rfl hB0.own ⟨wr.heap.size, 0, none⟩ 1 1 [.int .u8 91] rfl rfl (one_new _ _ _) (one_cell _) k1.out k1b.out hB0.below.size ?_; intro v1 w1 ho hg _; have hB1 := hB0.app (m := [91]) ho hg; rw [h1.out] at hB1; have g2 := (hB1.below.cell (p := ⟨b, off + r, none⟩) (by exact hbl)).trans hcr.out; clear ho hg)
        | (go_at_call 29; refine (itoa (L r) hn2 w1).mono ?_; rintro e w2 ⟨rfl, hb1⟩; rw [hs1.out]; have hB1' := hB1.grow hb1)
        | (at_builtin; refine Lib.wpList_append_own_string _ rfl (.tmp 15) (.tmp 21) 32 9 rfl w.heap.size 5 i0 Try.underlying32 Try.underlying9 hi hz0 hz1 hz2 v1 l1.length (Lib.byteCells l1) rfl hB1'.own s1 rfl k2.out k2b.out hB1'.below.size ?_; intro v2 w3 ho hg _; have hB2 := hB1'.appS ho hg; rw [h2.out] at hB2; have hB2' := hB2.grow ((Below.refl _ _).alloc (Nat.le_refl _) (.cells #[.int .u8 93] 5)); clear ho hg)
        | (at_builtin; refine wpList_append_own _ rfl (.tmp 23) (.tmp 24) _ rfl w.heap.size 5 i0 (.int .u8 0) 1 1 Try.underlying32 hi hz0 hz1 hz2 rfl (by omega) v2 l2.length (Lib.byteCells l2) rfl hB2'.own ⟨w3.heap.size, 0, none⟩ 1 1 [.int .u8 93] rfl rfl (one_new _ _ _) (one_cell _) k3.out k3b.out hB2'.below.size ?_; intro v3 w4 ho hg _; have hB3 := hB2'.app (m := [93]) ho hg; rw [h3.out] at hB3; have g4 := (hB3.below.cell (p := ⟨b, off + r, none⟩) (by exact hbl)).trans hcr.out; clear ho hg)
        | (go_at_call 30; refine (encode (A r) (L r) (L r) (F r) w4 (hrow.below hB3.below) hLr (fun i hi => by have := tot_at (F r) (L r) i hi; have := hTr.out; omega) hTr.out).mono ?_; rintro e w5 ⟨rfl, hb5⟩; rw [hs2.out]; have hB3' := hB3.grow hb5)
        | (at_builtin; refine Lib.wpList_append_own_string _ rfl (.tmp 26) (.tmp 31) 32 9 rfl w.heap.size 5 i0 Try.underlying32 Try.underlying9 hi hz0 hz1 hz2 v3 l3.length (Lib.byteCells l3) rfl hB3'.own s2 rfl k4.out k4b.out hB3'.below.size ?_; intro v4 w6 ho hg _; have hB4 := hB3'.appS ho hg; clear ho hg))
      rw [← hnext.out] at hB4
      go_roundg (n - (r + 1))
      case measure => omega
      case rel => exact ⟨r + 1, by omega, rfl, rfl, hB4⟩
    · have hrn : r = n := by omega
      subst hrn
      have hcv := hB.str
      go_wp2_with fail
      go_ret
      exact ⟨rfl, hB.below⟩
def Sized1 (w : World) (p : Nat) (e : Ending) (w' : World) : Prop := ∃ t : Nat, e = .returned (.int .i64 t) ∧ w = w' ∧ t ≤ 1048577 ∧ (t ≤ 1048576 → t = p)
set_option maxRecDepth 100000 in
theorem size1 (o : Option Addr) (n cap : Nat) (f : Nat → ByteArray) (w : World) (hI : StrsAt w o n f) (hf : ∀ i, i < n → (f i).size ≤ maxLen) (hn : n ≤ maxLen) :
    Calls Try.prog 26 #[.slice o n cap] w (Sized1 w (16 * n + tot f n)) := by
  have hm1 : maxLen = 9223372036854775807 := rfl
  rw [hm1] at hf hn
  go_enter Try.func26, Try.ntmps26
  go_wp2_with fail
  go_loopg [3, 4] n (fun gk t i wr => w = wr ∧ ∃ r T : Nat, r ≤ n ∧ gk = n - r ∧ i = .int .i64 r ∧ t = .int .i64 T ∧ T = 16 * r + tot f r ∧ T ≤ 1048576)
  case atStart => exact ⟨rfl, 0, 0, Nat.zero_le _, rfl, rfl, rfl, rfl, by omega⟩
  case round =>
    obtain ⟨rfl, r, T, hr, rfl, rfl, rfl, hT, hTl⟩ := hrel
    rcases Nat.lt_or_ge r n with hlt | hge
    · have hA := hI
      rcases hA with h0 | ⟨b, off, rfl, _, hc⟩
      · omega
      have g1 := hc r hlt
      have hfr := hf r hlt
      have hsucc : tot f (r + 1) = tot f r + (f r).size := rfl
      clear hc
      replace hsucc := Lib.hid hsucc
      replace hT := Lib.hid hT
      generalize hl : (f r).size = l at *
      by_cases h1 : 1048576 < l
      · go_wp2_with fail
        go_ret
        exact ⟨1048577, rfl, rfl, by omega, fun h => by omega⟩
      have j0 : IntKind.i64.wrap (16 + (l : Int)) = 16 + (l : Int) := by simp [IntKind.wrap, IntKind.bits, IntKind.signed]; omega
      have j1 : IntKind.i64.wrap ((T : Int) + (16 + (l : Int))) = (T : Int) + (16 + (l : Int)) := by simp [IntKind.wrap, IntKind.bits, IntKind.signed]; omega
      by_cases h2 : (1048576 : Int) < (T : Int) + (16 + (l : Int))
      · go_wp2_with fail
        go_ret
        exact ⟨1048577, rfl, rfl, by omega, fun h => by omega⟩
      go_wp2_with fail
      go_roundg (n - (r + 1))
      case measure => omega
      case rel => exact ⟨rfl, r + 1, T + (16 + l), by omega, rfl, rfl, by simp, by rw [hsucc.out, hT.out]; omega, by omega⟩
    · have hrn : r = n := by omega
      subst hrn
      replace hT := Lib.hid hT
      go_wp2_with fail
      go_ret
      exact ⟨T, rfl, rfl, by omega, fun h => hT.out⟩
theorem cost_ge (F : Nat → Nat → ByteArray) (L : Nat → Nat) : ∀ n, 24 * n ≤ cost F L n
  | 0 => by simp [cost]
  | n + 1 => by have := cost_ge F L n; simp only [cost]; omega
set_option maxRecDepth 100000 in
theorem size2 (o : Option Addr) (n cap : Nat) (A : Nat → Option Addr) (L C : Nat → Nat) (F : Nat → Nat → ByteArray) (w : World) (hI : HeadsAt w o n A L C) (hR : ∀ r, r < n → StrRow w (A r) (L r) (C r) (F r)) (hn : n ≤ maxLen) :
    Calls Try.prog 21 #[.slice o n cap] w (Sized1 w (cost F L n)) := by
  have hm1 : maxLen = 9223372036854775807 := rfl
  rw [hm1] at hn
  go_enter Try.func21, Try.ntmps21
  go_wp2_with fail
  go_loopg [3, 4] n (fun gk t i wr => w = wr ∧ ∃ r T : Nat, r ≤ n ∧ gk = n - r ∧ i = .int .i64 r ∧ t = .int .i64 T ∧ T = cost F L r ∧ T ≤ 1048576)
  case atStart => exact ⟨rfl, 0, 0, Nat.zero_le _, rfl, rfl, rfl, rfl, by omega⟩
  case round =>
    obtain ⟨rfl, r, T, hr, rfl, rfl, rfl, hT, hTl⟩ := hrel
    rcases Nat.lt_or_ge r n with hlt | hge
    · have hA := hI
      rcases hA with h0 | ⟨b, off, rfl, _, hc⟩
      · omega
      have g1 := hc r hlt
      have hrow := hR r hlt
      have hsucc : cost F L (r + 1) = cost F L r + (24 + 16 * L r + tot (F r) (L r)) := rfl
      clear hc
      replace hR := Lib.hid hR
      replace hsucc := Lib.hid hsucc
      replace hT := Lib.hid hT
      go_wp2_with fail
      go_at_call 26
      refine (size1 (A r) (L r) (C r) (F r) w hrow.strs hrow.sz hrow.le).mono ?_
      rintro e w' ⟨l, rfl, rfl, hl1, hl2⟩
      replace hl2 := Lib.hid hl2
      have j0 : IntKind.i64.wrap (24 + (l : Int)) = 24 + (l : Int) := by simp [IntKind.wrap, IntKind.bits, IntKind.signed]; omega
      have j1 : IntKind.i64.wrap ((T : Int) + (24 + (l : Int))) = (T : Int) + (24 + (l : Int)) := by simp [IntKind.wrap, IntKind.bits, IntKind.signed]; omega
      by_cases h2 : (1048576 : Int) < (T : Int) + (24 + (l : Int))
      · go_wp2_with fail
        go_ret
        exact ⟨1048577, rfl, rfl, by omega, fun h => by omega⟩
      go_wp2_with fail
      go_roundg (n - (r + 1))
      case measure => omega
      case rel => exact ⟨rfl, r + 1, T + (24 + l), by omega, rfl, rfl, by simp, by rw [hsucc.out, hT.out, hl2.out (by omega)]; omega, by omega⟩
    · have hrn : r = n := by omega
      subst hrn
      replace hT := Lib.hid hT
      go_wp2_with fail
      go_ret
      exact ⟨T, rfl, rfl, by omega, fun h => hT.out⟩
/-- The comparison of two slices of string slices. -/
def Eqs2 (n m : Nat) (L K : Nat → Nat) (F G : Nat → Nat → ByteArray) : Prop := n = m ∧ ∀ i, i < n → Eqs (L i) (K i) (F i) (G i)
set_option maxHeartbeats 1000000 in
theorem eq2 (o o2 : Option Addr) (n m c c2 : Nat) (A B : Nat → Option Addr) (L K : Nat → Nat) (F G : Nat → Nat → ByteArray) (w : World) (hn : n ≤ 1048576) (hm : m ≤ 1048576) (h1 : Two w o n A L F) (h2 : Two w o2 m B K G) (hL : ∀ i, i < n → L i ≤ 1048576) (hK : ∀ i, i < m → K i ≤ 1048576) :
    Calls Try.prog 23 #[.slice o n c, .slice o2 m c2] w (Said (Eqs2 n m L K F G) w) := by
  by_cases hnm : n = m
  · subst hnm
    replace hL := Lib.hid hL
    replace hK := Lib.hid hK
    go_enter Try.func23, Try.ntmps23
    go_wp2_with fail
    go_loopg [14] n (fun gk i wr => w = wr ∧ ∃ r : Nat, r ≤ n ∧ gk = n - r ∧ i = .int .i64 r ∧ ∀ q, q < r → Eqs (L q) (K q) (F q) (G q))
    case atStart => exact ⟨rfl, 0, Nat.zero_le _, rfl, rfl, fun q hq => absurd hq (by omega)⟩
    case round =>
      obtain ⟨rfl, r, hr, rfl, rfl, hq⟩ := hrel
      replace hq := Lib.hid hq
      rcases Nat.lt_or_ge r n with hlt | hge
      · have hA := h1.heads
        have hB := h2.heads
        rcases hA with h0 | ⟨b, off, rfl, _, hc⟩
        · omega
        rcases hB with h0 | ⟨b2, off2, rfl, _, hc2⟩
        · omega
        have g1 := hc r hlt
        have g2 := hc2 r hlt
        clear hc hc2
        go_wp2_with fail
        go_at_call 28
        refine (eq1 (A r) (B r) (L r) (K r) (L r) (K r) (F r) (G r) w (hL.out r hlt) (hK.out r hlt) (h1.rows r hlt).strs (h2.rows r hlt).strs).mono ?_
        rintro e w' ⟨x, rfl, rfl, hx⟩
        replace hx := Lib.hid hx
        cases x with
        | true =>
          go_wp2_with fail
          go_roundg (n - (r + 1))
          case measure => omega
          case rel => exact ⟨rfl, r + 1, by omega, rfl, rfl, fun q hq' => by
            rcases Nat.lt_or_ge q r with h | h
            · exact hq.out q h
            · (obtain rfl : q = r := by omega); exact hx.out.1 trivial⟩
        | false =>
          go_wp2_with fail
          go_ret
          exact ⟨false, rfl, rfl, by simp only [Bool.false_eq_true, false_iff]; exact fun h => absurd (hx.out.2 (h.2 r hlt)) (by simp)⟩
      · have hrn : n = r := by omega
        subst hrn
        go_wp2_with fail
        go_ret
        exact ⟨true, rfl, rfl, by simp only [true_iff]; exact ⟨rfl, hq.out⟩⟩
  · go_enter Try.func23, Try.ntmps23
    go_wp2_with fail
    go_ret
    exact ⟨false, rfl, rfl, by simp [Eqs2, hnm]⟩
theorem range_map_inj {α : Type} {n m : Nat} {f g : Nat → α} : (List.range n).map f = (List.range m).map g ↔ n = m ∧ ∀ i, i < n → f i = g i := by
  constructor
  · intro h
    have hl := congrArg List.length h
    simp at hl
    subst hl
    refine ⟨rfl, fun i hi => ?_⟩
    have := congrArg (fun l => l[i]?) h
    simpa [hi] using this
  · rintro ⟨rfl, h⟩
    exact List.map_congr_left (fun i hi => h i (List.mem_range.1 hi))
theorem rowL_eq {n m : Nat} {f g : Nat → ByteArray} : rowL f n = rowL g m ↔ Eqs n m f g := by
  unfold rowL Eqs
  rw [range_map_inj]
  constructor
  · rintro ⟨h1, h2⟩
    exact ⟨h1, fun i hi => ByteArray.ext (Array.ext' (h2 i hi))⟩
  · rintro ⟨h1, h2⟩
    exact ⟨h1, fun i hi => by rw [h2 i hi]⟩
theorem rowsL_eq {n m : Nat} {L K : Nat → Nat} {F G : Nat → Nat → ByteArray} : rowsL F L n = rowsL G K m ↔ Eqs2 n m L K F G := by
  unfold rowsL Eqs2
  rw [range_map_inj]
  constructor
  · rintro ⟨h1, h2⟩
    exact ⟨h1, fun i hi => rowL_eq.1 (h2 i hi)⟩
  · rintro ⟨h1, h2⟩
    exact ⟨h1, fun i hi => rowL_eq.2 (h2 i hi)⟩
theorem enc2_eq {n m : Nat} {L K : Nat → Nat} {F G : Nat → Nat → ByteArray} : enc2 (rowsL F L n) = enc2 (rowsL G K m) ↔ Eqs2 n m L K F G :=
  ⟨fun h => rowsL_eq.1 (enc2_inj h), fun h => congrArg enc2 (rowsL_eq.2 h)⟩
end Go.Proofs.Ytolfajalkbnnoaa.Enc
