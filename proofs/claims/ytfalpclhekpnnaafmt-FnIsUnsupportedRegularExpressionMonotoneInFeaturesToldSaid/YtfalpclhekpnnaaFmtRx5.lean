/-
  The exported call of the scan. Condition: at most 2^20 bytes, a slash past the first byte.
-/
import Derived.Test.YtfalpclhekpnnaaFmtRx4
namespace Go.Proofs.YtfalpclhekpnnaaFmt.Rx
open Go.RowKit Go.Proofs.YtfalpclhekpnnaaFmt.Ints Go.Proofs.YtfalpclhekpnnaaFmt.Lg Go.Proofs.YtfalpclhekpnnaaFmt.U8
open Go.Extern.Stop Go.Stop Go.Extern

def pz (s : ByteArray) : Nat := (Lib.lastIndexByte s 47).toNat
def patO (s : ByteArray) : ByteArray := s.extract 1 (pz s)
def flO (s : ByteArray) : ByteArray := s.extract (pz s + 1) s.size
def uO (s : ByteArray) : Bool := decide (0 ≤ Lib.indexByte (flO s).data.toList 117)
theorem pz_spec (s : ByteArray) (h : ¬ Lib.lastIndexByte s 47 < 1) : Lib.lastIndexByte s 47 = (pz s : Int) ∧ 1 ≤ pz s ∧ pz s < s.size := by
  rcases Lib.lastIndexByte_spec s 47 with ⟨e, _⟩ | ⟨i, hi, e, _⟩
  · rw [e] at h; omega
  · unfold pz
    rw [e] at h ⊢
    refine ⟨by omega, by omega, by omega⟩
set_option maxHeartbeats 1000000 in
theorem thin {I : Interp} (B P K M H G n : Nat) (e : Bool) (v : Value) (xs : List Value) (F : Int) (l : Int) (s : ByteArray) (w : World) (hI : I.answers w.tape) (hL : Lg B K M H G e n v xs w) (hB : B ≤ w.heap.size) (hn : n ≤ 65536) (hP : Px P K M H G F w)
    (h1 : ¬ Lib.lastIndexByte s 47 < 1) (h3 : s.size ≤ 1048576) :
    Calls Tryf.prog 7 #[pt P, .int .i32 l, .string s] w (Ans B K M H G e v w F (uO s) (patO s) (flO s)) := by
  obtain ⟨g1, g2, g3⟩ := pz_spec s h1
  have c := Lib.hid (scan10 B P K M H G n e v xs F l s w hI hL hB hn hP (pz s) g1 g2 g3 h3 (uO s) (patO s) (flO s) rfl rfl rfl)
  clear g1 g2 g3 h1 hI hL hP
  unfold pt at *
  go_enter Tryf.func7, Tryf.ntmps7
  go_wp2_with fail
  refine c.out.mono ?_
  rintro y w' hA
  have e0 := hA.1
  subst e0
  replace hA := Lib.hid hA
  go_wp2_with fail
  go_ret3
  exact hA.out
end Go.Proofs.YtfalpclhekpnnaaFmt.Rx
