/-
  zzBuild: a script of pieces laid into a joiner, strings or bytes as the kinds say. Condition: at most 65536 pieces and 2^20 bytes.
-/
import Derived.Test.YtolfajalkbnnoaaJoin6
import Derived.Test.YtolfajalkbnnoaaBools
import Derived.Lib.ConvBytes
namespace Go.Proofs.Ytolfajalkbnnoaa.Join
open Go.RowKit Go.ChangeShapes Go.WideShapes Go.ChangeAt Go.Proofs.Ytolfajalkbnnoaa.Ints

theorem Jn.below {B J : Nat} {w w' : World} {ss : List (ByteArray × Nat)} {bs : List Bt} {L : Nat} {c : Int} (h : Jn B w J ss bs L c) (hb : Below w.heap.size w w') : Jn B w' J ss bs L c := by
  obtain ⟨sl, bl, hC⟩ := h.ex
  exact ⟨⟨sl, bl, hC.below hb⟩, h.ge, h.fitS, h.fitB, h.lL, h.lS, h.lB⟩
/-- The joiner at J holds what the script made. -/
def Made (B : Nat) (w : World) (J : Nat) (x : Sc) : Prop := ∃ bs, absB bs = x.T ∧ Jn B w J x.S bs x.L x.c
theorem Made.below {B J : Nat} {w w' : World} {x : Sc} (h : Made B w J x) (hb : Below w.heap.size w w') : Made B w' J x := by
  obtain ⟨bs, e, hJ⟩ := h
  exact ⟨bs, e, hJ.below hb⟩
theorem scr_len (f : Nat → ByteArray) (k : Nat → Bool) : ∀ r, (scr f k r).S.length ≤ r ∧ (scr f k r).T.length ≤ r
  | 0 => ⟨Nat.le_refl _, Nat.le_refl _⟩
  | r + 1 => by
    have ih := scr_len f k r
    simp only [scr, Sc.step]
    split <;> simp <;> omega
theorem tot_mono (f : Nat → ByteArray) : ∀ n r, r ≤ n → tot f r ≤ tot f n
  | 0, r, h => by rw [Nat.le_zero.1 h]; exact Nat.le_refl _
  | n + 1, r, h => by
    rcases Nat.lt_or_ge n r with h1 | h1
    · rw [show r = n + 1 by omega]; exact Nat.le_refl _
    · exact Nat.le_trans (tot_mono f n r h1) (Nat.le_add_right _ _)
theorem bytesWorld_below (w : World) (e : TypeId) (s : ByteArray) : Below w.heap.size w (Lib.bytesWorld w e s) :=
  ⟨rfl, rfl, rfl, by rw [Lib.bytesWorld_size]; omega, fun j hj => Lib.bytesWorld_at_old w e s j hj⟩
theorem bytesAt_conv (w : World) (s : ByteArray) : BytesAt (Lib.bytesWorld w 5 s) (some ⟨w.heap.size, 0, none⟩) s.size s.data.toList :=
  ⟨Array.length_toList, .inr ⟨w.heap.size, 0, rfl, ⟨_, _, Lib.bytesWorld_at_new w _ s⟩, fun i hi => by rw [Nat.zero_add]; exact Lib.bytesWorld_cell w _ s i hi⟩⟩
def kindAt (m : Nat) (k : Nat → Bool) (i : Nat) : Bool := decide (i < m) && k i
theorem made_S {B J : Nat} {w w' : World} {bs : List Bt} {f : Nat → ByteArray} {k : Nat → Bool} {r : Nat} (hT : absB bs = (scr f k r).T) (hk : k r = false)
    (h : Jn B w' J ((scr f k r).S ++ [(f r, (scr f k r).L)]) bs ((scr f k r).L + (f r).size) (lastV (f r).data.toList (scr f k r).c)) : Made B w' J (scr f k (r + 1)) := by
  simp only [scr, Sc.step, hk, Bool.false_eq_true, if_false]
  exact ⟨bs, hT, h⟩
theorem made_B {B J : Nat} {w w' : World} {bs : List Bt} {f : Nat → ByteArray} {k : Nat → Bool} {r : Nat} {a : Option Addr} {n c : Nat} (hT : absB bs = (scr f k r).T) (hk : k r = true)
    (h : Jn B w' J (scr f k r).S (bs ++ [⟨a, n, c, (scr f k r).L, (f r).data.toList⟩]) ((scr f k r).L + (f r).size) (lastV (f r).data.toList (scr f k r).c)) : Made B w' J (scr f k (r + 1)) := by
  simp only [scr, Sc.step, hk, if_true]
  refine ⟨_, ?_, h⟩
  simp only [absB, List.map_append] at hT ⊢
  rw [hT]
  rfl
def Built (B : Nat) (w : World) (J : Nat) (x : Sc) (e : Ending) (w' : World) : Prop := e = .returned (.tuple #[]) ∧ Made B w' J x ∧ Below B w w'
set_option maxHeartbeats 4000000 in
theorem build (B J : Nat) (o o2 : Option Addr) (n m cap cap2 : Nat) (f : Nat → ByteArray) (k : Nat → Bool) (W w : World) (h : Made B w J ⟨[], [], 0, 0⟩) (hI : StrsAt W o n f) (hK : BoolsAt W o2 m k) (hW : Below B W w) (hWB : W.heap.size ≤ B) (hBw : B ≤ w.heap.size)
    (hn : n ≤ 65536) (hm : m ≤ 65536) (ht : tot f n ≤ 1048576) :
    Calls Try.prog 17 #[.pointer (some ⟨J, 0, none⟩), .slice o n cap, .slice o2 m cap2] w (Built B w J (scr f (kindAt m k) n)) := by
  go_enter Try.func17, Try.ntmps17
  go_wp2_with fail
  go_loopg [6] n (fun gk i wr => ∃ r : Nat, r ≤ n ∧ gk = n - r ∧ i = .int .i64 r ∧ Made B wr J (scr f (kindAt m k) r) ∧ Below B w wr)
  case atStart => exact ⟨0, Nat.zero_le _, rfl, rfl, h, Below.refl _ _⟩
  case round =>
    obtain ⟨r, hr, rfl, rfl, ⟨bs, hT, hJ⟩, hB⟩ := hrel
    rcases Nat.lt_or_ge r n with hlt | hge
    · have hA := hI
      rcases hA with h0 | ⟨b, off, rfl, hb, hc⟩
      · omega
      have hWr := hW.trans hB
      have g1 : wr.cell? ⟨b, off + r, none⟩ = some (.string (f r)) := (hWr.cell (p := ⟨b, off + r, none⟩) (by show b < B; omega)).trans (hc r hlt)
      have hL : (scr f (kindAt m k) r).L + (f r).size ≤ 2097152 := by
        rw [scr_L]
        have := tot_mono f n (r + 1) hlt
        have e : tot f (r + 1) = tot f r + (f r).size := rfl
        omega
      have hl1 : (scr f (kindAt m k) r).S.length + 1 ≤ 1048576 := by
        have := (scr_len f (kindAt m k) r).1
        omega
      have hl2 : bs.length + 1 ≤ 1048576 := by
        have := (scr_len f (kindAt m k) r).2
        rw [← hT] at this
        simp only [absB, List.length_map] at this
        omega
      have hsz : wr.heap.size ≥ B := Nat.le_trans hBw hB.size
      have hcv := Lib.run_convert_string_bytes (P := Try.prog) wr 9 32 5 (f r) (u := .string) Try.underlying9 Try.underlying32 Try.underlying5
      clear hc
      replace hL := Lib.hid hL
      replace hl1 := Lib.hid hl1
      replace hl2 := Lib.hid hl2
      replace hT := Lib.hid hT
      rcases Nat.lt_or_ge r m with hrm | hrm
      · have hA := hK
        rcases hA with h0 | ⟨b2, off2, rfl, hb2, hc2⟩
        · omega
        have g2 : wr.cell? ⟨b2, off2 + r, none⟩ = some (.bool (k r)) := (hWr.cell (p := ⟨b2, off2 + r, none⟩) (by show b2 < B; omega)).trans (hc2 r hrm)
        clear hc2
        cases hkr : k r
        · have hki : Hid (kindAt m k r = false) := Lib.hid (by simp [kindAt, hkr])
          rw [hkr] at g2
          clear hkr
          go_wp2_with fail
          go_at_call 10
          refine (addS B J _ bs _ _ wr (f r) hJ hL.out hl1.out).mono ?_
          rintro e w' ⟨rfl, hJ', hB'⟩
          clear g1 g2 hcv hJ
          go_wp2_with fail
          go_roundg (n - (r + 1))
          case measure => omega
          case rel => exact ⟨r + 1, by omega, rfl, rfl, made_S (w := wr) hT.out hki.out hJ', hB.trans hB'⟩
        · have hki : Hid (kindAt m k r = true) := Lib.hid (by simp [kindAt, hkr, hrm])
          rw [hkr] at g2
          clear hkr
          go_wp2_with fail
          have hbw := bytesWorld_below wr 5 (f r)
          have hJw := hJ.below hbw
          have hBW : Below B wr (Lib.bytesWorld wr 5 (f r)) := hbw.mono hsz
          refine (addB B J _ bs _ _ (Lib.bytesWorld wr 5 (f r)) _ _ _ (f r).data.toList (bytesAt_conv wr (f r)) hJw hL.out hl2.out).mono ?_
          rintro e w' ⟨rfl, hJ', hB'⟩
          have hBf := (hB.trans hBW).trans hB'
          clear g1 g2 hcv hJ hbw hJw hBW hB'
          go_wp2_with fail
          go_roundg (n - (r + 1))
          case measure => omega
          case rel => exact ⟨r + 1, by omega, rfl, rfl, made_B (w := wr) hT.out hki.out hJ', hBf⟩
      · have hki : Hid (kindAt m k r = false) := Lib.hid (by simp [kindAt, show ¬ r < m by omega])
        go_wp2_with fail
        go_at_call 10
        refine (addS B J _ bs _ _ wr (f r) hJ hL.out hl1.out).mono ?_
        rintro e w' ⟨rfl, hJ', hB'⟩
        clear g1 hcv hJ
        go_wp2_with fail
        go_roundg (n - (r + 1))
        case measure => omega
        case rel => exact ⟨r + 1, by omega, rfl, rfl, made_S (w := wr) hT.out hki.out hJ', hB.trans hB'⟩
    · have hrn : r = n := by omega
      subst hrn
      go_wp2_with fail
      go_end0
      exact ⟨rfl, ⟨bs, hT, hJ⟩, hB⟩
end Go.Proofs.Ytolfajalkbnnoaa.Join
