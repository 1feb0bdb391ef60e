/-
  strings.LastIndexAny of a text and the two slashes: the last place of a slash. Condition: utf8's two tables as their initialisers lay them; a length.
-/
import Derived.Test.YtkaingdohdgedaaDoorInsC
import Derived.Deep.DeepCutAuto
namespace Go.Proofs.YtkaingdohdgedaaDoor.Ins
open Go.RowKit Go.Lib Go.Proofs.YtkaingdohdgedaaDoor.U8 Go.Proofs.YtkaingdohdgedaaDoor.Pct

theorem ch_ne : CH.toList.isEmpty = false := by decide +kernel
/-- r is the last place of a slash below n, or none. -/
def LastAt (b : Nat → Nat) (n : Nat) (r : Int) : Prop := (r = -1 ∧ ∀ j, j < n → ¬ Sl (b j)) ∨ ∃ l : Nat, l < n ∧ r = l ∧ Sl (b l) ∧ ∀ j, l < j → j < n → ¬ Sl (b j)
def Lia (s : ByteArray) (w : World) (e : Ending) (w' : World) : Prop := ∃ r : Int, e = .returned (.int .i64 r) ∧ LastAt (bt s) s.size r ∧ Below w.heap.size w w'
theorem lastRune_lt {s : ByteArray} {c wd : Nat} (h0 : 0 < s.size) (h : decodeLastL s.data.toList = (c, wd)) : c < 2147483648 := by
  have hl : s.data.toList.length = s.size := (size_eq s).symm
  have hne : s.data.toList ≠ [] := fun h => by rw [h] at hl; simp at hl; omega
  by_cases ha : bt s (s.size - 1) < 128
  · rcases last_facts s h0 with ⟨_, h2⟩ | ⟨h1, _⟩
    · rw [h] at h2
      injection h2 with h2 _
      omega
    · omega
  · rw [decodeLastL_eq s h0 (Nat.le_of_not_lt ha)] at h
    have hst := lastStart_lt _ hne
    rw [hl] at hst
    generalize lastStart s.data.toList = st at hst h
    have hd : decodeGo (s.extract st s.size) = Utf8.decode s st := by
      have e : (s.extract st s.size).size = s.size - st := by simp
      rw [decodeGo, if_neg (by omega), sub_dec]
    unfold lastOf at h
    rw [hd] at h
    have hf := (Dec.dec_facts s st hst).2.1
    split at h
    · injection h with h _
      omega
    · injection h with h _
      omega
set_option maxRecDepth 100000 in
set_option maxHeartbeats 4000000 in
theorem lia1 (s : ByteArray) (w : World) (hs : s.size = 1) : Calls Tryd.prog 6 #[.string s, .string CH] w (Lia s w) := by
  have e0 := bt_eq s 0 (by omega)
  have hz : CH.size = 2 := rfl
  have hq := ch_ne
  have hb := bt_lt s 0
  by_cases hh : bt s 0 < 128
  · have n1 : ¬ 128 ≤ (bt s 0 : Int) := by omega
    go_enter Tryd.func6, Tryd.ntmps6
    go_wp2_with fail
    go_at_call 7
    refine (idx (bt s 0) (by omega) _).mono ?_
    rintro e w1 ⟨x, rfl, hx, B1⟩
    replace B1 := Lib.hid B1
    by_cases hp : 0 ≤ x
    · have hsl := Lib.hid (hx.1 hp)
      clear hx
      go_wp2_with fail
      go_ret
      exact ⟨0, rfl, .inr ⟨0, by omega, rfl, hsl.out, fun j h1 h2 => by omega⟩, B1.out⟩
    · have hsl := Lib.hid (fun h => hp (hx.2 h))
      clear hx
      go_wp2_with fail
      go_ret
      exact ⟨-1, rfl, .inl ⟨rfl, fun j h => by rw [show j = 0 by omega]; exact hsl.out⟩, B1.out⟩
  · have n1 : 128 ≤ (bt s 0 : Int) := by omega
    have hsl : ¬ Sl (bt s 0) := by unfold Sl; omega
    replace hsl := Lib.hid hsl
    go_enter Tryd.func6, Tryd.ntmps6
    go_wp2_with fail
    go_at_call 7
    refine (idx 65533 (by omega) _).mono ?_
    rintro e w1 ⟨x, rfl, hx, B1⟩
    replace B1 := Lib.hid B1
    have hp : ¬ 0 ≤ x := fun h => absurd (hx.1 h) (by decide)
    clear hx
    go_wp2_with fail
    go_ret
    exact ⟨-1, rfl, .inl ⟨rfl, fun j h => by rw [show j = 0 by omega]; exact hsl.out⟩, B1.out⟩
set_option maxRecDepth 100000 in
set_option maxHeartbeats 4000000 in
theorem lia8 (s : ByteArray) (w : World) (h1 : s.size ≠ 1) (h8 : s.size ≤ 8) (hT : Utf8Tabs 1 2 w) : Calls Tryd.prog 6 #[.string s, .string CH] w (Lia s w) := by
  have hz : CH.size = 2 := rfl
  have hq := ch_ne
  have n1 : ((s.size : Int) == 1) = false := by simp; omega
  have n8 : decide ((8 : Int) < (s.size : Int)) = false := by simp; omega
  have hTB : ∀ W', Below w.heap.size w W' → Utf8Tabs 1 2 W' := fun _ h => Utf8Tabs_below hT h
  replace hTB := Lib.hid hTB
  replace hT := Lib.hid hT
  go_enter Tryd.func6, Tryd.ntmps6
  go_wp2_with fail
  go_at_call 8
  refine (Tryd.strings_shouldUseASCIISet _ _).mono ?_
  rintro e w' ⟨rfl, rfl⟩
  rw [n8]
  go_wp2_with fail
  go_loopg [13] s.size (fun g iv wr => Below w'.heap.size w' wr ∧ ∃ i : Nat, i ≤ s.size ∧ g = i ∧ iv = .int .i64 i ∧ ∀ j, i ≤ j → j < s.size → ¬ Sl (bt s j))
  case atStart => exact ⟨Below.refl _ _, s.size, Nat.le_refl _, rfl, rfl, fun j g1 g2 => by omega⟩
  case round =>
    obtain ⟨hB, i, hi, rfl, rfl, hno⟩ := hrel
    replace hno := Lib.hid hno
    rcases Nat.eq_zero_or_pos gk with h0 | hpos
    · subst h0
      replace hB := Lib.hid hB
      go_wp2_with fail
      go_ret
      exact ⟨-1, rfl, .inl ⟨rfl, fun j h => hno.out j (Nat.zero_le _) h⟩, hB.out⟩
    · have hsz : (s.extract 0 gk).size = gk := by rw [ext_size s 0 gk (by omega) hi]; omega
      have hbt : ∀ j, j < gk → bt (s.extract 0 gk) j = bt s j := fun j h => by rw [ext_bt s 0 gk j hi (by omega), Nat.zero_add]
      have hf := last_facts (s.extract 0 gk) (by omega)
      rw [hsz] at hf
      have cD := Tryd.utf8_DecodeLastRuneInString (s.extract 0 gk) _ (by rw [hsz]; omega) (hTB.out _ hB)
      obtain ⟨c, wd, hcw⟩ : ∃ c wd, decodeLastL (s.extract 0 gk).data.toList = (c, wd) := ⟨_, _, rfl⟩
      rw [hcw] at hf cD
      have hf2 : c < 2147483648 ∧ 1 ≤ wd ∧ wd ≤ gk ∧ ((wd = 1 ∧ c = bt s (gk - 1)) ∨ (¬ Sl c ∧ ∀ j, gk - wd ≤ j → j < gk → ¬ Sl (bt s j))) := by
        rcases hf with ⟨a1, a2⟩ | ⟨a1, a2, a3, a4, a5⟩
        · injection a2 with a2 a3
          rw [hbt _ (by omega)] at a1 a2
          exact ⟨by omega, by omega, by omega, .inl ⟨a3, a2⟩⟩
        · have a2 : 128 ≤ c := a2
          have a3 : 1 ≤ wd := a3
          have a4 : wd ≤ gk := a4
          have hcl : c < 2147483648 := lastRune_lt (by omega) hcw
          refine ⟨hcl, a3, a4, .inr ⟨by unfold Sl; omega, fun j g1 g2 => ?_⟩⟩
          have := a5 j g1 g2
          rw [hbt j g2] at this
          unfold Sl
          omega
      obtain ⟨b1, b2, b3, b4⟩ := hf2
      have l0 : (0 : Int) < (gk : Int) := by omega
      have l1 : (gk : Int) ≤ (s.size : Int) := by omega
      have hszB := hB.size
      replace hB := Lib.hid hB
      replace b4 := Lib.hid b4
      clear hf hbt hsz hcw
      go_wp2_with fail
      go_at_call 11
      refine cD.mono ?_
      rintro e w5 ⟨rfl, B5⟩
      have B6 := hB.out.trans (B5.mono hszB)
      have hszC := B6.size
      replace B6 := Lib.hid B6
      clear B5 cD
      have hsub : (gk : Int) - (wd : Int) = ((gk - wd : Nat) : Int) := by omega
      go_wp2_with fail
      go_at_call 7
      refine (idx c b1 _).mono ?_
      rintro e w6 ⟨x, rfl, hx, B7⟩
      have B8 := B6.out.trans (B7.mono hszC)
      replace B8 := Lib.hid B8
      clear B7
      by_cases hp : 0 ≤ x
      · have hsl := hx.1 hp
        have hfin : wd = 1 ∧ Sl (bt s (gk - 1)) := by
          rcases b4.out with ⟨h1, h2⟩ | ⟨h1, _⟩
          · exact ⟨h1, h2 ▸ hsl⟩
          · exact absurd hsl h1
        obtain ⟨rfl, hfin⟩ := hfin
        replace hfin := Lib.hid hfin
        clear hx hsl
        go_wp2_with fail
        go_ret
        exact ⟨((gk - 1 : Nat) : Int), by first | rfl | (congr 3; omega), .inr ⟨gk - 1, by omega, rfl, hfin.out, fun j g1 g2 => hno.out j (by omega) g2⟩, B8.out⟩
      · have hnew : ∀ j, gk - wd ≤ j → j < s.size → ¬ Sl (bt s j) := fun j g1 g2 => by
          rcases Nat.lt_or_ge j gk with h | h
          · rcases b4.out with ⟨h1, h2⟩ | ⟨_, h2⟩
            · subst h1
              rw [show j = gk - 1 by omega, ← h2]
              exact fun h => hp (hx.2 h)
            · exact h2 j g1 h
          · exact hno.out j h g2
        replace hnew := Lib.hid hnew
        clear hx
        go_wp2_with fail
        go_roundg (gk - wd)
        case measure => omega
        case rel => exact ⟨B8.out, gk - wd, by omega, rfl, by first | rfl | (congr 1; omega), hnew.out⟩
theorem setRow_at {w : World} {N : Nat} {cs : Array Value} {t : TypeId} {fr : Nat × Nat} (h : w.heap[N]? = some (.cells cs t fr)) (ds : Array Value) : (w.setRow N ds).heap[N]? = some (.cells ds t fr) := by
  simp only [World.setRow, Array.getElem?_modify, if_true, h, Option.map_some]
theorem below_setRow {B N : Nat} {w v : World} (h : Below B w v) (hN : B ≤ N) (ds : Array Value) : Below B w (v.setRow N ds) := by
  refine ⟨h.os, h.tape, h.output, by simpa [World.setRow] using h.size, fun k hk => ?_⟩
  rw [← h.block k hk]
  simp only [World.setRow, Array.getElem?_modify]
  rw [if_neg (by omega)]
theorem zeroSet (w : World) : (zeroValue 28).run Tryd.prog w = .ok (.agg (Array.replicate 256 (.bool false))) w := by kernel_rfl
theorem chAscii (j : Nat) (b : UInt8) (h : CH.data.toList[j]? = some b) : b.toNat < 128 := by
  match j, h with
  | 0, h => have : (47 : UInt8) = b := Option.some.inj h; subst this; decide
  | 1, h => have : (92 : UInt8) = b := Option.some.inj h; subst this; decide
theorem slT : ∀ x : Fin 256, CH.data.toList.contains x.val.toUInt8 = decide (Sl x.val) := by decide +kernel
set_option maxRecDepth 100000 in
set_option maxHeartbeats 4000000 in
theorem lia9 (s : ByteArray) (w : World) (h8 : 8 < s.size) (hs : s.size ≤ 2000000) : Calls Tryd.prog 6 #[.string s, .string CH] w (Lia s w) := by
  have hz : CH.size = 2 := rfl
  have hq := ch_ne
  have n1 : ((s.size : Int) == 1) = false := by simp; omega
  have n8 : decide ((8 : Int) < (s.size : Int)) = true := by simp; omega
  have cM := fun w => Tryd.strings_makeASCIISet zeroSet CH w (by omega) chAscii
  go_enter Tryd.func6, Tryd.ntmps6
  go_wp2_with fail
  go_at_call 8
  refine (Tryd.strings_shouldUseASCIISet _ _).mono ?_
  rintro e w' ⟨rfl, rfl⟩
  rw [n8]
  go_wp2_with fail
  go_at_call 9
  refine (cM _).mono ?_
  rintro e w1 ⟨rfl, rfl⟩
  have hA1 := setCells_size CH.data.toList
  have hA2 := setCells_one CH.data.toList
  have hA3 : ∀ x : Nat, x < 256 → (setCells CH.data.toList)[x]? = some (.bool (decide (Sl x))) := fun x hx => by
    have h := setCells_at CH.data.toList x.toUInt8
    rw [show x.toUInt8.toNat = x by simp; omega, slT ⟨x, hx⟩] at h
    exact h
  generalize setCells CH.data.toList = A at *
  have hB1 : Below w'.heap.size w' (w'.alloc (.cells A 28)) := (Below.refl _ _).alloc (Nat.le_refl _) _
  generalize w'.alloc (.cells A 28) = w1 at *
  replace hA1 := Lib.hid hA1
  replace hA2 := Lib.hid hA2
  replace hA3 := Lib.hid hA3
  replace hB1 := Lib.hid hB1
  clear cM
  have hC : (w1.alloc (.cells (Array.replicate 256 (.bool false)) 28 (0, 0))).heap[w1.heap.size]? = some (.cells (Array.replicate 256 (.bool false)) 28 (0, 0)) := heap_alloc_new _ _
  have hR : ((w1.alloc (.cells (Array.replicate 256 (.bool false)) 28 (0, 0))).setRow w1.heap.size A).heap[w1.heap.size]? = some (.cells A 28 (0, 0)) := setRow_at hC _
  have hB2 : Below w'.heap.size w' ((w1.alloc (.cells (Array.replicate 256 (.bool false)) 28 (0, 0))).setRow w1.heap.size A) := below_setRow (hB1.out.alloc hB1.out.size _) hB1.out.size _
  have hi : (Tryd.prog.info? 28).map (·.size) = some A.size := by rw [hA1.out]; kernel_rfl
  have ho : (Array.replicate 256 (Value.bool false)).size = A.size := by rw [hA1.out]; exact Array.size_replicate
  replace hC := Lib.hid hC
  replace hR := Lib.hid hR
  replace hB2 := Lib.hid hB2
  replace hi := Lib.hid hi
  replace ho := Lib.hid ho
  go_upto_region 12 with fail
  rw [zeroSet]
  simp only [Result.andThen]
  rw [Oper.upon_value]
  go_upto_region 12 with (refine wpList_store_row rfl 28 (.tmp 6) (.tmp 36) rfl w1.heap.size A rfl rfl 28 _ hC.out hi.out ho.out hA2.out ?_; clear hC hi ho; generalize (w1.alloc _).setRow w1.heap.size A = w2 at *; generalize w1.heap.size = Z at *)
  go_wp2_with fail
  go_loopg [8] s.size (fun g iv wr => wr = w2 ∧ ∃ i : Nat, i ≤ s.size ∧ g = i ∧ iv = .int .i64 ((i : Int) - 1) ∧ ∀ j, i ≤ j → j < s.size → ¬ Sl (bt s j))
  case atStart => exact ⟨rfl, s.size, Nat.le_refl _, rfl, rfl, fun j g1 g2 => by omega⟩
  case round =>
    obtain ⟨rfl, i, hi, rfl, rfl, hno⟩ := hrel
    replace hno := Lib.hid hno
    cases gk with
    | zero =>
      go_wp2_with fail
      go_ret
      exact ⟨-1, rfl, .inl ⟨rfl, fun j h => hno.out j (Nat.zero_le _) h⟩, hB2.out⟩
    | succ k =>
      have e1 := bt_eq s k (by omega)
      have l1 : (k : Int) < (s.size : Int) := by omega
      have l2 : ((k + 1 : Nat) : Int) - 1 = (k : Int) := by omega
      have hcell : wr.cell? ⟨Z, (s.get! k).toNat, none⟩ = some (.bool (decide (Sl (bt s k)))) := by
        rw [World.cell?, hR.out]
        exact hA3.out _ (bt_lt s k)
      have cC := Tryd.asciiSet_contains Z (s.get! k) _ _ hcell
      replace hcell := Lib.hid hcell
      rw [l2]
      by_cases hs1 : Sl (bt s k)
      · rw [decide_eq_true hs1] at cC
        replace hs1 := Lib.hid hs1
        go_wp2_with fail
        go_at_call 10
        refine cC.mono ?_
        rintro e w6 ⟨rfl, rfl⟩
        go_wp2_with fail
        go_ret
        exact ⟨(k : Int), rfl, .inr ⟨k, by omega, rfl, hs1.out, fun j g1 g2 => hno.out j (by omega) g2⟩, hB2.out⟩
      · rw [decide_eq_false hs1] at cC
        replace hs1 := Lib.hid hs1
        go_wp2_with fail
        go_at_call 10
        refine cC.mono ?_
        rintro e w6 ⟨rfl, rfl⟩
        go_wp2_with fail
        go_roundg k
        case measure => omega
        case rel =>
          refine ⟨rfl, k, by omega, rfl, by first | rfl | simp, fun j g1 g2 => ?_⟩
          rcases Nat.lt_or_ge k j with h | h
          · exact hno.out j h g2
          · rw [show j = k by omega]; exact hs1.out
theorem lia (s : ByteArray) (w : World) (hs : s.size ≤ 2000000) (hT : Utf8Tabs 1 2 w) : Calls Tryd.prog 6 #[.string s, .string CH] w (Lia s w) := by
  by_cases h1 : s.size = 1
  · exact lia1 s w h1
  rcases Nat.lt_or_ge 8 s.size with h | h
  · exact lia9 s w h hs
  · exact lia8 s w h1 h hT
end Go.Proofs.YtkaingdohdgedaaDoor.Ins
