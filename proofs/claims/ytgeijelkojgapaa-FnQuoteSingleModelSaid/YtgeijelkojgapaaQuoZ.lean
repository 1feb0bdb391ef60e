/-
  zzValidUTF8: where it says true every rune is good. Condition: at most 2^20 bytes.
-/
import Derived.Test.YtgeijelkojgapaaQuoA
namespace Go.Proofs.Ytgeijelkojgapaa.QuoZ
open Go.RowKit Go.Lib Go.ChangeShapes Go.WideShapes Go.ChangeAt Go.Proofs.Ytgeijelkojgapaa.U8 Go.Proofs.Ytgeijelkojgapaa.QuoD Go.Proofs.Ytgeijelkojgapaa.QuoM Go.Proofs.Ytgeijelkojgapaa.QuoL Go.Proofs.Ytgeijelkojgapaa.QuoP Go.Proofs.Ytgeijelkojgapaa.QuoA

def Vd (s : ByteArray) (w : World) (e : Ending) (w' : World) : Prop := ∃ ok : Bool, e = .returned (.bool ok) ∧ (ok = true → Valid s) ∧ w = w'
theorem valid_of {s : ByteArray} {k : Nat} (hk : ¬ ps s k < s.size) (h : ∀ j, j < k → GoodR s (ps s j)) : Valid s := fun j hj => by
  by_cases hjk : j < k
  · exact h j hjk
  · have := ps_mono s k j (by omega)
    omega
set_option maxRecDepth 20000 in
theorem valid (s : ByteArray) (w : World) (hs : s.size ≤ 1048576) : Calls Try.prog 6 #[.string s] w (Vd s w) := by
  go_enter Try.func6, Try.ntmps6
  go_wp2_with fail
  go_loopg [3] s.size (fun g iv wr => ∃ k : Nat, iv = .int .i64 (ps s k) ∧ ps s k ≤ s.size ∧ s.size ≤ ps s k + g ∧ (∀ j, j < k → GoodR s (ps s j)) ∧ w = wr)
  case atStart => exact ⟨0, rfl, Nat.zero_le _, by simp [ps], fun j hj => by omega, rfl⟩
  case round =>
    obtain ⟨k, rfl, hle, hg, hc, rfl⟩ := hrel
    replace hc := Lib.hid hc
    by_cases hp : ps s k < s.size
    · have hw := Hash.width_pos s (ps s k) hp
      have hle2 := ps_le s k hp
      have e1 : ps s (k + 1) = ps s k + (Utf8.decode s (ps s k)).2 := rfl
      rw [e1] at hle2
      replace e1 := Lib.hid e1
      obtain ⟨g', rfl⟩ : ∃ g', gk = g' + 1 := ⟨gk - 1, by omega⟩
      have hz := zd s (ps s k) w hs hp
      replace hz := Lib.hid hz
      have e2 : GoodR s (ps s k) → ∀ j, j < k + 1 → GoodR s (ps s j) := fun h j hj => by
        by_cases hjk : j = k
        · rw [hjk]; exact h
        · exact hc.out j (by omega)
      replace e2 := Lib.hid e2
      have c0 : (ps s k : Int) < (s.size : Int) := by omega
      generalize hD : Utf8.decode s (ps s k) = D at *
      replace hD := Lib.hid hD
      generalize hpk : ps s k = p at *
      replace hpk := Lib.hid hpk
      go_wp2_with fail
      go_at_call 18
      refine hz.out.mono ?_
      rintro e w' ⟨rfl, ⟨hgd, rfl⟩ | ⟨hgd, c, n, rfl⟩⟩
      · have e3 := Lib.hid (e2.out hgd)
        rw [hD.out]
        clear hgd hz
        go_wp2_with fail
        go_roundg g'
        case measure => omega
        case rel => exact ⟨k + 1, by rw [e1.out]; simp, by rw [e1.out]; omega, by rw [e1.out]; omega, e3.out, rfl⟩
      · clear hgd hz
        go_wp2_with fail
        go_ret
        exact ⟨false, rfl, (fun h => by cases h), rfl⟩
    · have hv := Lib.hid (valid_of hp hc.out)
      have c0 : ¬ (ps s k : Int) < (s.size : Int) := by omega
      go_wp2_with fail
      go_ret
      exact ⟨true, rfl, fun _ => hv.out, rfl⟩
end Go.Proofs.Ytgeijelkojgapaa.QuoZ
