/- Walks: oned.zzIndex at one byte. -/
import Derived.Test.YtpgddedhhjbgoaaDoorBarP
import Derived.Test.YtpgddedhhjbgoaaDoorProg
namespace Go.Proofs.YtpgddedhhjbgoaaDoor
open Go.RowKit

theorem one_extract (s : ByteArray) (k : Nat) (c : UInt8) (hk : k < s.size) : ((s.extract k (k + 1)).toList == [c]) = (nthU (bl s) k == c) := by
  rw [ByteArray.toList_eq]
  show (bl (s.extract k (k + 1)) == [c]) = _
  rw [bl_extract1 s k (k + 1) hk rfl]
  by_cases h : nthU (bl s) k = c <;> simp [h]

/-- Where a byte stands; -1: nowhere. -/
def zzIdx (l : List UInt8) (c : UInt8) : Int := if c ∈ l then (idxU l c : Int) else -1

end Go.Proofs.YtpgddedhhjbgoaaDoor
