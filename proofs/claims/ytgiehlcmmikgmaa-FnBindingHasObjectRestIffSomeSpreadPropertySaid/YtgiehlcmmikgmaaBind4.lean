/-
  bindingHasObjectRest: true exactly when a property is a spread. Condition: at most 65536 elements a pattern.
-/
import Derived.Test.YtgiehlcmmikgmaaBind3
namespace Go.Proofs.Ytgiehlcmmikgmaa.Bind
open Go.RowKit Go.ChangeShapes Go.WideShapes Go.ChangeAt Go.Proofs.Ytgiehlcmmikgmaa.Ints

theorem ta_BArray (t : TypeId) (v : Value) (w : World) : (Instr.typeAssert (.iface t v) 26 81 true).run Try.prog w = .ok (if t = 81 then .tuple #[v, .bool true] else .tuple #[.pointer none, .bool false]) w :=
  ta_ptr Try.underlying81 (fun _ => by kernel_rfl) _ _ _ _
theorem ta_BObject (t : TypeId) (v : Value) (w : World) : (Instr.typeAssert (.iface t v) 26 87 true).run Try.prog w = .ok (if t = 87 then .tuple #[v, .bool true] else .tuple #[.pointer none, .bool false]) w :=
  ta_ptr Try.underlying87 (fun _ => by kernel_rfl) _ _ _ _
theorem cellsA_len (D : Nat → Value) : ∀ n, (cellsA D n).length = n * 5
  | 0 => rfl
  | n + 1 => by rw [cellsA_succ, List.length_append, cellsA_len D n]; simp; omega
theorem cellsA_get (D : Nat → Value) (j : Nat) (v : Nat → Value) (hv : ∀ i, ([D i, .int .i32 0, .nilIface, .int .i32 0, .int .i32 0] : List Value)[j]? = some (v i)) (hj : j < 5) : ∀ n i, i < n → (cellsA D n)[i * 5 + j]? = some (v i)
  | 0, i, h => by omega
  | n + 1, i, h => by
    rw [cellsA_succ]
    rcases Nat.lt_or_ge i n with h1 | h1
    · rw [List.getElem?_append_left (by rw [cellsA_len]; omega)]
      exact cellsA_get D j v hv hj n i h1
    · obtain rfl : i = n := by omega
      rw [List.getElem?_append_right (by rw [cellsA_len]; omega), cellsA_len, Nat.add_sub_cancel_left]
      exact hv i
theorem cellsP_len (D : Nat → Value) (H : Nat → Bool) : ∀ n, (cellsP D H n).length = n * 11
  | 0 => rfl
  | n + 1 => by rw [cellsP_succ, List.length_append, cellsP_len D H n]; simp; omega
theorem cellsP_get (D : Nat → Value) (H : Nat → Bool) (j : Nat) (v : Nat → Value) (hv : ∀ i, ([.nilIface, .int .i32 0, D i, .int .i32 0, .nilIface, .int .i32 0, .int .i32 0, .int .i32 0, .bool false, .bool (H i), .bool false] : List Value)[j]? = some (v i)) (hj : j < 11) : ∀ n i, i < n → (cellsP D H n)[i * 11 + j]? = some (v i)
  | 0, i, h => by omega
  | n + 1, i, h => by
    rw [cellsP_succ]
    rcases Nat.lt_or_ge i n with h1 | h1
    · rw [List.getElem?_append_left (by rw [cellsP_len]; omega)]
      exact cellsP_get D H j v hv hj n i h1
    · obtain rfl : i = n := by omega
      rw [List.getElem?_append_right (by rw [cellsP_len]; omega), cellsP_len, Nat.add_sub_cancel_left]
      exact hv i
theorem own_cell {w : World} {lo e size G n cap k : Nat} {xs : List Value} {u : Value} (h : w.ownsRow lo e size (.slice (some ⟨G, 0, none⟩) n cap) n xs) (hu : xs[k]? = some u) : w.cell? ⟨G, k, none⟩ = some u := by
  have := h.cells (g := G) rfl k u hu
  rwa [add_plain, Nat.zero_add] at this
theorem sumK_zero {K : Nat → Nat} {n : Nat} (h : ∀ i, i < n → K i = 0) : sumK K n = 0 := by
  induction n with
  | zero => rfl
  | succ n ih => simp only [sumK]; rw [ih (fun i hi => h i (by omega)), h n (by omega)]
theorem sumK_pos {K : Nat → Nat} : ∀ {n i : Nat}, i < n → 0 < K i → 0 < sumK K n
  | n + 1, i, h, hk => by
    simp only [sumK]
    rcases Nat.lt_or_ge i n with h1 | h1
    · have := sumK_pos h1 hk; omega
    · obtain rfl : i = n := by omega
      omega
def Has (k : Nat) (w : World) (e : Ending) (w' : World) : Prop := e = .returned (.bool (decide (0 < k))) ∧ Below w.heap.size w w'
set_option maxRecDepth 100000 in
theorem hasLeaf (t : TypeId) (p : Value) (w : World) (h1 : t ≠ 81) (h2 : t ≠ 87) :
    Calls Try.prog 22 #[.agg #[.iface t p, .int .i32 0]] w (Has 0 w) := by
  have a1 := ta_BArray t p
  have a2 := ta_BObject t p
  simp only [if_neg h1, if_neg h2] at a1 a2
  go_enter Try.func22, Try.ntmps22
  go_wp2_with fail
  go_ret
  exact ⟨rfl, (Below.refl _ _).alloc (Nat.le_refl _) _⟩
set_option maxRecDepth 100000 in
set_option maxHeartbeats 1000000 in
theorem hasArr (lo B G n cap : Nat) (D : Nat → Value) (K : Nat → Nat) (q : Bool) (w : World) (hr : w.rowIs B 83 4 (fun j => (#[.slice (some ⟨G, 0, none⟩) n cap, .int .i32 0, .bool q, .bool false] : Array Value).getD j undef))
    (ho : w.ownsRow lo 80 5 (.slice (some ⟨G, 0, none⟩) n cap) n (cellsA D n)) (hn : n ≤ 7) (hD : ∀ i, i < n → ∃ t v, D i = .iface t v)
    (ih : ∀ i, i < n → ∀ w', Below w.heap.size w w' → Calls Try.prog 22 #[.agg #[D i, .int .i32 0]] w' (Has (K i) w')) :
    Calls Try.prog 22 #[.agg #[.iface 81 (.pointer (some ⟨B, 0, none⟩)), .int .i32 0]] w (Has (sumK K n) w) := by
  have a1 := ta_BArray 81 (.pointer (some ⟨B, 0, none⟩))
  have a2 := ta_BObject 81 (.pointer (some ⟨B, 0, none⟩))
  simp only [if_true] at a1
  rw [if_neg (by decide)] at a2
  have b0 : w.cell? ⟨B, 0, none⟩ = some (.slice (some ⟨G, 0, none⟩) n cap) := hr.cell (i := 0) (by omega)
  have hBl := hr.lt
  have hGl : G < w.heap.size := (ho.lt G rfl).2
  replace hD := Lib.hid hD
  replace ih := Lib.hid ih
  go_enter Try.func22, Try.ntmps22
  go_wp2_with fail
  have hb1 : Below w.heap.size w (w.alloc (.cells #[.iface 81 (.pointer (some ⟨B, 0, none⟩)), .int .i32 0] 30)) := (Below.refl _ _).alloc (Nat.le_refl _) _
  go_loopg [19] n (fun gk i wr => ∃ r : Nat, r ≤ n ∧ gk = n - r ∧ i = .int .i64 r ∧ (∀ q, q < r → K q = 0) ∧ Below w.heap.size w wr)
  case atStart => exact ⟨0, Nat.zero_le _, rfl, rfl, fun q hq => absurd hq (by omega), hb1⟩
  case round =>
    obtain ⟨r, hr, rfl, rfl, hz, hB⟩ := hrel
    replace hz := Lib.hid hz
    rcases Nat.lt_or_ge r n with hlt | hge
    · obtain ⟨dt, dv, hd⟩ := hD.out r hlt
      have k0 := (hB.cell (p := ⟨G, r * 5 + 0, none⟩) hGl).trans (own_cell ho (cellsA_get D 0 _ (fun _ => rfl) (by omega) n r hlt))
      have k1 := (hB.cell (p := ⟨G, r * 5 + 1, none⟩) hGl).trans (own_cell ho (cellsA_get D 1 _ (fun _ => rfl) (by omega) n r hlt))
      have k2 := (hB.cell (p := ⟨G, r * 5 + 2, none⟩) hGl).trans (own_cell ho (cellsA_get D 2 _ (fun _ => rfl) (by omega) n r hlt))
      have k3 := (hB.cell (p := ⟨G, r * 5 + 3, none⟩) hGl).trans (own_cell ho (cellsA_get D 3 _ (fun _ => rfl) (by omega) n r hlt))
      have k4 := (hB.cell (p := ⟨G, r * 5 + 4, none⟩) hGl).trans (own_cell ho (cellsA_get D 4 _ (fun _ => rfl) (by omega) n r hlt))
      have hGl2 : G < wr.heap.size := Nat.lt_of_lt_of_le hGl hB.size
      have hih := ih.out r hlt
      rw [hd] at k0 hih
      rw [Nat.add_zero] at k0
      replace hih := Lib.hid hih
      replace hd := Lib.hid hd
      go_wp2_with fail
      refine (hih.out _ (hB.trans ((Below.refl _ _).alloc hB.size _))).mono ?_
      rintro e w3 ⟨rfl, b3⟩
      have hB3 : Below w.heap.size w w3 := hB.trans (((Below.refl wr.heap.size wr).alloc (Nat.le_refl _) _).mono hB.size |>.trans (b3.mono (Nat.le_trans hB.size (by simp))))
      clear k0 k1 k2 k3 k4 b3
      by_cases hk : 0 < K r
      · rw [decide_eq_true hk]
        replace hk := Lib.hid hk
        go_wp2_with fail
        go_ret
        exact ⟨by rw [decide_eq_true (sumK_pos hlt hk.out)]; rfl, hB3⟩
      · rw [decide_eq_false hk]
        replace hk := Lib.hid hk
        go_wp2_with fail
        go_roundg (n - (r + 1))
        case measure => omega
        case rel => exact ⟨r + 1, by omega, rfl, rfl, fun q hq => by
          rcases Nat.lt_or_ge q r with h | h
          · exact hz.out q h
          · (obtain rfl : q = r := by omega); have := hk.out; omega, hB3⟩
    · have hrn : n = r := by omega
      subst hrn
      go_wp2_with fail
      go_ret
      exact ⟨by rw [sumK_zero hz.out]; rfl, hB⟩
set_option maxRecDepth 100000 in
set_option maxHeartbeats 1000000 in
theorem hasObj (lo B G n cap : Nat) (D : Nat → Value) (K : Nat → Nat) (H : Nat → Bool) (w : World) (hr : w.rowIs B 89 3 (fun j => (#[.slice (some ⟨G, 0, none⟩) n cap, .int .i32 0, .bool false] : Array Value).getD j undef))
    (ho : w.ownsRow lo 86 11 (.slice (some ⟨G, 0, none⟩) n cap) n (cellsP D H n)) (hn : n ≤ 7) (hD : ∀ i, i < n → ∃ t v, D i = .iface t v)
    (ih : ∀ i, i < n → ∀ w', Below w.heap.size w w' → Calls Try.prog 22 #[.agg #[D i, .int .i32 0]] w' (Has (K i) w')) :
    Calls Try.prog 22 #[.agg #[.iface 87 (.pointer (some ⟨B, 0, none⟩)), .int .i32 0]] w (Has (sumK (flagN H K) n) w) := by
  have a1 := ta_BArray 87 (.pointer (some ⟨B, 0, none⟩))
  have a2 := ta_BObject 87 (.pointer (some ⟨B, 0, none⟩))
  simp only [if_true] at a2
  rw [if_neg (by decide)] at a1
  have b0 : w.cell? ⟨B, 0, none⟩ = some (.slice (some ⟨G, 0, none⟩) n cap) := hr.cell (i := 0) (by omega)
  have hBl := hr.lt
  have hGl : G < w.heap.size := (ho.lt G rfl).2
  replace hD := Lib.hid hD
  replace ih := Lib.hid ih
  go_enter Try.func22, Try.ntmps22
  go_wp2_with fail
  have hb1 : Below w.heap.size w (w.alloc (.cells #[.iface 87 (.pointer (some ⟨B, 0, none⟩)), .int .i32 0] 30)) := (Below.refl _ _).alloc (Nat.le_refl _) _
  go_loopg [35] n (fun gk i wr => ∃ r : Nat, r ≤ n ∧ gk = n - r ∧ i = .int .i64 r ∧ (∀ q, q < r → flagN H K q = 0) ∧ Below w.heap.size w wr)
  case atStart => exact ⟨0, Nat.zero_le _, rfl, rfl, fun q hq => absurd hq (by omega), hb1⟩
  case round =>
    obtain ⟨r, hr, rfl, rfl, hz, hB⟩ := hrel
    replace hz := Lib.hid hz
    rcases Nat.lt_or_ge r n with hlt | hge
    · obtain ⟨dt, dv, hd⟩ := hD.out r hlt
      have k0 := (hB.cell (p := ⟨G, r * 11 + 0, none⟩) hGl).trans (own_cell ho (cellsP_get D H 0 _ (fun _ => rfl) (by omega) n r hlt))
      have k1 := (hB.cell (p := ⟨G, r * 11 + 1, none⟩) hGl).trans (own_cell ho (cellsP_get D H 1 _ (fun _ => rfl) (by omega) n r hlt))
      have k2 := (hB.cell (p := ⟨G, r * 11 + 2, none⟩) hGl).trans (own_cell ho (cellsP_get D H 2 _ (fun _ => rfl) (by omega) n r hlt))
      have k3 := (hB.cell (p := ⟨G, r * 11 + 3, none⟩) hGl).trans (own_cell ho (cellsP_get D H 3 _ (fun _ => rfl) (by omega) n r hlt))
      have k4 := (hB.cell (p := ⟨G, r * 11 + 4, none⟩) hGl).trans (own_cell ho (cellsP_get D H 4 _ (fun _ => rfl) (by omega) n r hlt))
      have k5 := (hB.cell (p := ⟨G, r * 11 + 5, none⟩) hGl).trans (own_cell ho (cellsP_get D H 5 _ (fun _ => rfl) (by omega) n r hlt))
      have k6 := (hB.cell (p := ⟨G, r * 11 + 6, none⟩) hGl).trans (own_cell ho (cellsP_get D H 6 _ (fun _ => rfl) (by omega) n r hlt))
      have k7 := (hB.cell (p := ⟨G, r * 11 + 7, none⟩) hGl).trans (own_cell ho (cellsP_get D H 7 _ (fun _ => rfl) (by omega) n r hlt))
      have k8 := (hB.cell (p := ⟨G, r * 11 + 8, none⟩) hGl).trans (own_cell ho (cellsP_get D H 8 _ (fun _ => rfl) (by omega) n r hlt))
      have k9 := (hB.cell (p := ⟨G, r * 11 + 9, none⟩) hGl).trans (own_cell ho (cellsP_get D H 9 _ (fun _ => rfl) (by omega) n r hlt))
      have k10 := (hB.cell (p := ⟨G, r * 11 + 10, none⟩) hGl).trans (own_cell ho (cellsP_get D H 10 _ (fun _ => rfl) (by omega) n r hlt))
      have hGl2 : G < wr.heap.size := Nat.lt_of_lt_of_le hGl hB.size
      have hih := ih.out r hlt
      rw [hd] at k2 hih
      rw [Nat.add_zero] at k0
      replace hih := Lib.hid hih
      replace hd := Lib.hid hd
      cases hH : H r with
      | true =>
        have hpos : 0 < flagN H K r := by simp [flagN, hH]
        rw [hH] at k9
        replace hH := Lib.hid hH
        replace hpos := Lib.hid hpos
        go_wp2_with fail
        go_ret
        exact ⟨by rw [decide_eq_true (sumK_pos hlt hpos.out)]; rfl, hB.trans (((Below.refl wr.heap.size wr).alloc (Nat.le_refl _) _).mono hB.size)⟩
      | false =>
        have hfl : flagN H K r = K r := by simp [flagN, hH]
        rw [hH] at k9
        replace hH := Lib.hid hH
        replace hfl := Lib.hid hfl
        go_wp2_with fail
        refine (hih.out _ (hB.trans ((Below.refl _ _).alloc hB.size _))).mono ?_
        rintro e w3 ⟨rfl, b3⟩
        have hB3 : Below w.heap.size w w3 := hB.trans (((Below.refl wr.heap.size wr).alloc (Nat.le_refl _) _).mono hB.size |>.trans (b3.mono (Nat.le_trans hB.size (by simp))))
        clear k0 k1 k2 k3 k4 k5 k6 k7 k8 k9 k10 b3
        by_cases hk : 0 < K r
        · rw [decide_eq_true hk]
          replace hk := Lib.hid hk
          go_wp2_with fail
          go_ret
          exact ⟨by rw [decide_eq_true (sumK_pos hlt (by rw [hfl.out]; exact hk.out))]; rfl, hB3⟩
        · rw [decide_eq_false hk]
          replace hk := Lib.hid hk
          go_wp2_with fail
          go_roundg (n - (r + 1))
          case measure => omega
          case rel => exact ⟨r + 1, by omega, rfl, rfl, fun q hq => by
            rcases Nat.lt_or_ge q r with h | h
            · exact hz.out q h
            · (obtain rfl : q = r := by omega); rw [hfl.out]; have := hk.out; omega, hB3⟩
    · have hrn : n = r := by omega
      subst hrn
      go_wp2_with fail
      go_ret
      exact ⟨by rw [sumK_zero hz.out]; rfl, hB⟩
/-- bindingHasObjectRest on a pattern. -/
theorem has {lo : Nat} {w0 : World} {d : Value} {k : Nat} (h : Tree lo w0 d k) : ∀ w, Below w0.heap.size w0 w → Calls Try.prog 22 #[.agg #[d, .int .i32 0]] w (Has k w) := by
  induction h with
  | leaf t p h1 h2 => exact fun w _ => hasLeaf t p w h1 h2
  | arr B G n cap D K q hB h7 hr ho hT ih =>
    intro w hw
    exact hasArr 0 B G n cap D K q w (hr.of_block (hw.block B hr.lt)) (own_gen ho (Nat.zero_le _) (fun b _ h2 => hw.block b h2)) h7 (fun i hi => isIface (hT i hi)) (fun i hi w' hw' => ih i hi w' (hw.trans (hw'.mono hw.size)))
  | obj B G n cap D K H hB h7 hr ho hT ih =>
    intro w hw
    exact hasObj 0 B G n cap D K H w (hr.of_block (hw.block B hr.lt)) (own_gen ho (Nat.zero_le _) (fun b _ h2 => hw.block b h2)) h7 (fun i hi => isIface (hT i hi)) (fun i hi w' hw' => ih i hi w' (hw.trans (hw'.mono hw.size)))
end Go.Proofs.Ytgiehlcmmikgmaa.Bind
