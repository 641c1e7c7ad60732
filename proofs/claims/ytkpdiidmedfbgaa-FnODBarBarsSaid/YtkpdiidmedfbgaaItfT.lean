/- Walks: the tables of the writer of Interleaved 2 of 5. -/
import Derived.Test.YtkpdiidmedfbgaaPlain
import Derived.Test.YtkpdiidmedfbgaaProg
namespace Go.Proofs.Ytkpdiidmedfbgaa
open Go.RowKit

set_option maxHeartbeats 1000000 in
set_option maxRecDepth 100000 in
theorem itfPATTERNS_any (w : World) :
    Calls Try.prog 61 #[] w fun e w' => (∃ a c, e = .returned (.slice a 10 c) ∧ TblAt w' (.slice a 10 c) itfTbl) ∧ Below w.heap.size w w' := by
  go_enter Try.func61, Try.ntmps61
  go_wp2
  go_ret
  have h := tbl_lit w 3 35 itfTbl (by decide) (by decide)
  exact ⟨⟨_, _, rfl, h.1⟩, h.2⟩
theorem itfSTART_any (w : World) :
    Calls Try.prog 60 #[] w fun e w' => (∃ v, e = .returned v ∧ SlAt w' v ([1, 1, 1, 1].map I64) ∧ v.ownBlock = some w.heap.size) ∧ Below w.heap.size w w' := by
  go_enter Try.func60, Try.ntmps60
  go_wp2
  go_ret
  exact ⟨⟨_, rfl, SlAt.of_own (own_lit w 3 ([1, 1, 1, 1].map I64) (by decide)), rfl⟩, below_alloc _ _⟩
theorem itfEND_any (w : World) :
    Calls Try.prog 62 #[] w fun e w' => (∃ v, e = .returned v ∧ SlAt w' v ([3, 1, 1].map I64) ∧ v.ownBlock = some w.heap.size) ∧ Below w.heap.size w w' := by
  go_enter Try.func62, Try.ntmps62
  go_wp2
  go_ret
  exact ⟨⟨_, rfl, SlAt.of_own (own_lit w 3 ([3, 1, 1].map I64) (by decide)), rfl⟩, below_alloc _ _⟩
end Go.Proofs.Ytkpdiidmedfbgaa
