/-
  The walk of FnHashCombineStringInvalidBytesCollide: it returns true for every seed and string. No condition.
-/
import Derived.Test.YtgdcnkghjphmmaaRRHash
import Derived.Test.YtgdcnkghjphmmaaRRRowsI
import Derived.Laws.BytesArg
import Derived.Deep.RegionHeld3
namespace Go.Proofs.YtgdcnkghjphmmaaRR.fnHashCombineStringInvalidBytesCollide
open Go.RowKit Go.Proofs.YtgdcnkghjphmmaaRR.Ints Go.Proofs.YtgdcnkghjphmmaaRR.Hash

def sw (b : Nat) : Nat := if b = 255 then 254 else b
def byt (s : ByteArray) (i : Nat) : Int := sw (s.get! i).toNat
def tOf (s : ByteArray) : ByteArray := strOfNums ((List.range s.size).map (byt s))

theorem tOf_size (s : ByteArray) : (tOf s).size = s.size := by simp [tOf, strOfNums_size]
theorem get_out (s : ByteArray) (i : Nat) (h : ¬ i < s.size) : (s.get! i).toNat = 0 := by
  have : s.data[i]! = default := by rw [getElem!_neg]; exact h
  simp only [ByteArray.get!]
  rw [this]
  rfl
theorem tOf_at (s : ByteArray) (i : Nat) : ((tOf s).get! i).toNat = sw (s.get! i).toNat := by
  by_cases h : i < s.size
  · have hb : (s.get! i).toNat < 256 := (s.get! i).toNat_lt
    have hsw : sw (s.get! i).toNat < 256 := by unfold sw; split <;> omega
    have e : (tOf s).get! i = UInt8.ofNat (sw (s.get! i).toNat) := by
      simp only [ByteArray.get!, tOf, strOfNums]
      rw [getElem!_pos _ _ (by simpa using h)]
      simp [byt, ByteArray.get!]
    rw [e]
    simp [Nat.mod_eq_of_lt hsw]
  · rw [get_out s i h, get_out (tOf s) i (by rw [tOf_size]; exact h)]
    rfl

theorem dec (s : ByteArray) (i : Nat) : Utf8.decode (tOf s) i = Utf8.decode s i := by
  unfold Utf8.decode
  rw [tOf_size]
  dsimp only
  simp only [tOf_at, Nat.add_zero]
  have e255 : sw 255 = 254 := rfl
  by_cases h0 : (s.get! i).toNat = 255
  · simp [h0, e255]
  · simp only [show sw (s.get! i).toNat = (s.get! i).toNat from if_neg h0]
    by_cases h1 : (s.get! (i + 1)).toNat = 255
    · simp [h1, e255]
    · simp only [show sw (s.get! (i + 1)).toNat = (s.get! (i + 1)).toNat from if_neg h1]
      by_cases h2 : (s.get! (i + 2)).toNat = 255
      · simp [h2, e255]
      · simp only [show sw (s.get! (i + 2)).toNat = (s.get! (i + 2)).toNat from if_neg h2]
        by_cases h3 : (s.get! (i + 3)).toNat = 255
        · simp [h3, e255]
        · simp only [show sw (s.get! (i + 3)).toNat = (s.get! (i + 3)).toNat from if_neg h3]

theorem hgo_eq (s : ByteArray) : ∀ (g pos : Nat) (h : Int), hgo (tOf s) g pos h = hgo s g pos h := by
  intro g
  induction g with
  | zero => intro _ _; rfl
  | succ g ih => intro pos h; simp only [hgo, dec, tOf_size, ih]
theorem hash_eq (a : Int) (s : ByteArray) : hashOf a (tOf s) = hashOf a s := by simp only [hashOf, tOf_size, hgo_eq]

def SomeBool (w : World) (e : Ending) (w' : World) : Prop := ∃ r : Bool, e = .returned (.bool r) ∧ w = w'
theorem bytes (x : Value) (s : ByteArray) (w : World) (m1 : s.size ≤ maxLen) :
    Calls Try.prog 15 #[x, .string s] w (SomeBool w) := by
  unfold maxLen at m1
  go_enter Try.func15, Try.ntmps15
  go_wp2
  all_goals
    go_ret
    exact ⟨_, rfl, rfl⟩

theorem conv {b : Nat} {s : ByteArray} {wr w' : World} (h : wr.rowIs b 5 s.size (fun i => .int .u8 (byt s i))) (hB : Below wr.heap.size wr w') :
    (convert 33 9 (.slice (some ⟨b, 0, none⟩) s.size s.size)).run Try.prog w' = .ok (.string (tOf s)) w' :=
  run_convert_bytes_arg w' 33 5 Try.underlying33 Try.underlying5 b 0 s.size s.size ((List.range s.size).map (byt s)) (by simp) (fun i hi => by
    rw [hB.cell (p := ⟨b, 0 + i, none⟩) h.lt, Nat.zero_add, h.cell hi]
    simp [List.getD, hi]) 9 Try.underlying9
theorem keep {v v2 : Value} {wr W w1 : World} (hc : ∀ w', Below wr.heap.size wr w' → (convert 33 9 v).run Try.prog w' = .ok v2 w')
    (h : (convert 33 9 v).run Try.prog W = .ok v2 W ∧ Below wr.heap.size wr W) (hb : Below W.heap.size W w1) : (convert 33 9 v).run Try.prog w1 = .ok v2 w1 ∧ Below wr.heap.size wr w1 := by
  have := h.2.trans (hb.mono h.2.size)
  exact ⟨hc _ this, this⟩

theorem info8 : (Try.prog.info? 5).map (fun i => (i.zero, i.size, i.bytes)) = some (some (.int .u8 0), 1, 1) := by kernel_rfl

set_option maxHeartbeats 2000000 in
theorem walk (a0 : Int) (_w0 : (Lit.int .u32 a0).wf = true) (s : ByteArray) (m1 : s.size ≤ maxLen) (w : World) :
    Calls Try.prog 6 #[.int .u32 a0, .string s] w fun e w' => e = .returned (.bool true) ∧ Below w.heap.size w w' := by
  have hm1 := m1
  unfold maxLen at hm1
  go_enter Try.func6, Try.ntmps6
  go_wp2_with fail
  go_at_call 15
  refine (bytes _ _ _ m1).mono ?_
  rintro e w' ⟨r, rfl, rfl⟩
  cases r with
  | false =>
    go_wp2
    go_ret
    exact ⟨rfl, Below.refl _ _⟩
  | true =>
    by_cases big : s.size ≤ 1048576
    · have hmk := run_make_row' (P := Try.prog) 33 5 (.int .u8 0) 1 Try.underlying33 info8 rfl .i64 .i64 s.size (by omega) (by omega)
      go_wp2
      clear hmk
      go_loopg [6] s.size (fun g i wr => ∃ r : Nat, r ≤ s.size ∧ g = s.size - r ∧ i = .int .i64 r ∧ Filling w wr 5 .u8 s.size r (byt s))
      case atStart => exact ⟨0, Nat.zero_le _, rfl, rfl, filling_start _ _ _ _ _⟩
      case round =>
        obtain ⟨r, hr, rfl, rfl, hF⟩ := hrel
        rcases Nat.lt_or_ge r s.size with hlt | hge
        · have g4 : wr.cell? ⟨w.heap.size, r, none⟩ = some (.int .u8 0) := by simpa [fillTo] using hF.row.cell hlt
          have g5 := hF.row.frozen r
          by_cases hx : (s[r]'hlt).toNat = 255
          · have hb : byt s r = 254 := by
              simp only [byt, sw]
              rw [show s.get! r = s[r]'hlt from get_at s r hlt, if_pos hx]
              rfl
            have hF' := filling_step hF
            rw [hb] at hF'
            replace hF' := Lib.hid hF'
            clear hF hb
            go_wp2
            go_roundg (s.size - (r + 1))
            case measure => omega
            case rel => exact ⟨r + 1, by omega, rfl, rfl, hF'.out⟩
          · have hb : byt s r = ((s[r]'hlt).toNat : Int) := by
              simp only [byt, sw]
              rw [show s.get! r = s[r]'hlt from get_at s r hlt, if_neg hx]
            have hF' := filling_step hF
            rw [hb] at hF'
            replace hF' := Lib.hid hF'
            clear hF hb
            go_wp2
            go_roundg (s.size - (r + 1))
            case measure => omega
            case rel => exact ⟨r + 1, by omega, rfl, rfl, hF'.out⟩
        · have hrn : r = s.size := by omega
          have hR : wr.rowIs w.heap.size 5 s.size (fun i => .int .u8 (byt s i)) := hF.row.congr fun i hi => by simp [fillTo, hrn, hi]
          have hB := hF.below
          have hcv := fun w' (h : Below wr.heap.size wr w') => conv hR h
          have hS : (convert 33 9 (.slice (some ⟨w.heap.size, 0, none⟩) s.size s.size)).run Try.prog wr = .ok (.string (tOf s)) wr ∧ Below wr.heap.size wr wr := ⟨hcv _ (Below.refl _ _), Below.refl _ _⟩
          have HE := Lib.hid (hash_eq a0 s)
          have L2 : (tOf s).size ≤ 1048576 := by rw [tOf_size]; exact big
          replace hcv := Lib.hid hcv
          clear hF hR
          go_wp2_with fail
          go_region_held3 (fun w' => (convert 33 9 (.slice (some ⟨w.heap.size, 0, none⟩) s.size s.size)).run Try.prog w' = .ok (.string (tOf s)) w' ∧ Below wr.heap.size wr w')
            (first | exact hS | exact keep hcv.out (by assumption) (by first | assumption | exact (Below.refl _ _).drew | exact (Below.refl _ _).alloc (Nat.le_refl _) _ | exact below_drewN (Below.refl _ _) _))
            (first | (go_at_call 16; with_reducible refine (hashStr _ s big _).mono ?_; rintro e w1 ⟨rfl, hb⟩) | (go_at_call 16; with_reducible refine (hashStr _ (tOf s) L2 _).mono ?_; rintro e w1 ⟨rfl, hb⟩))
          rename_i hb hH
          have hBB := hB.trans (hH.2.mono hB.size)
          clear hH hb hS
          go_wp2
          go_ret
          exact ⟨congrArg (fun b => Ending.returned (.bool b)) (by rw [HE.out]; exact beq_self_eq_true _), hBB⟩
    · go_wp2
      all_goals first | omega | (go_ret; exact ⟨rfl, Below.refl _ _⟩)
end Go.Proofs.YtgdcnkghjphmmaaRR.fnHashCombineStringInvalidBytesCollide
