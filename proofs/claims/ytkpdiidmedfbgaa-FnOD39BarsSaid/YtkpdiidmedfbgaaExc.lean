/- Walks: exceptions of the writers. -/
import Derived.Test.YtkpdiidmedfbgaaBase
import Derived.Test.YtkpdiidmedfbgaaProg
import Derived.Handy
namespace Go.Proofs.Ytkpdiidmedfbgaa
open Go.RowKit

set_option maxHeartbeats 1000000 in
set_option maxRecDepth 100000 in
theorem NewWriterException_any (v : Value) (w : World) :
    Calls Try.prog 56 #[v] w fun e w' => (∃ u x, e = .returned (.iface u x)) ∧ Below w.heap.size w w' := by
  go_enter Try.func56, Try.ntmps56
  go_wp2
  go_ret
  exact ⟨⟨_, _, rfl⟩, by go_grown⟩

set_option maxHeartbeats 1000000 in
set_option maxRecDepth 100000 in
theorem WrapWriterException_any (v : Value) (hv : v = .nilIface ∨ ∃ u x, v = .iface u x) (w : World) :
    Calls Try.prog 58 #[v] w fun e w' => (∃ u x, e = .returned (.iface u x)) ∧ Below w.heap.size w w' := by
  rcases hv with rfl | ⟨u, x, rfl⟩
  all_goals
    go_enter Try.func58, Try.ntmps58
    go_wp2
    go_ret
    exact ⟨⟨_, _, rfl⟩, by go_grown⟩
end Go.Proofs.Ytkpdiidmedfbgaa
