/- Walks: exceptions of the writers. -/
import Derived.Test.YtpgddedhhjbgoaaDoorBase
import Derived.Test.YtpgddedhhjbgoaaDoorProg
import Derived.Handy
namespace Go.Proofs.YtpgddedhhjbgoaaDoor
open Go.RowKit

set_option maxHeartbeats 1000000 in
set_option maxRecDepth 100000 in
theorem NewWriterException_any (v : Value) (w : World) :
    Calls Tryd.prog 31 #[v] w fun e w' => (∃ u x, e = .returned (.iface u x)) ∧ Below w.heap.size w w' := by
  go_enter Tryd.func31, Tryd.ntmps31
  go_wp2
  go_ret
  exact ⟨⟨_, _, rfl⟩, by go_grown⟩
end Go.Proofs.YtpgddedhhjbgoaaDoor
