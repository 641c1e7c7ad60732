/- Walks: exceptions of the writers. -/
import Derived.Test.YtpgddedhhjbgoaaBase
import Derived.Test.YtpgddedhhjbgoaaProg
import Derived.Handy
namespace Go.Proofs.Ytpgddedhhjbgoaa
open Go.RowKit

set_option maxHeartbeats 1000000 in
set_option maxRecDepth 100000 in
theorem NewWriterException_any (v : Value) (w : World) :
    Calls Try.prog 40 #[v] w fun e w' => (∃ u x, e = .returned (.iface u x)) ∧ Below w.heap.size w w' := by
  go_enter Try.func40, Try.ntmps40
  go_wp2
  go_ret
  exact ⟨⟨_, _, rfl⟩, by go_grown⟩
end Go.Proofs.Ytpgddedhhjbgoaa
