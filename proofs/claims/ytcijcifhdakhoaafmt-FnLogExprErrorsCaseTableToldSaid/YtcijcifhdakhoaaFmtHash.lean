/-
  HashCombine and HashCombineString: the hash is a fold over the decoded runes. No condition beyond a string's own length.
-/
import Derived.Test.YtcijcifhdakhoaaFmtRows
import Derived.WalkKit
import Derived.Below
import Derived.WalkLawsBesides
import Derived.WalkSpells
import Derived.Lib.Hide
import Derived.Deep.LoopGhost
import Derived.Laws.RangeAny
namespace Go.Proofs.YtcijcifhdakhoaaFmt.Hash
open Go.RowKit

theorem width_pos (s : ByteArray) (pos : Nat) (h : pos < s.size) : 1 ≤ (Utf8.decode s pos).2 := by
  by_cases ha : (s[pos]'h).toNat < 128
  · rw [decode_ascii s pos h ha]; exact Nat.le_refl _
  · exact (decode_high s pos h (by omega)).2

end Go.Proofs.YtcijcifhdakhoaaFmt.Hash
