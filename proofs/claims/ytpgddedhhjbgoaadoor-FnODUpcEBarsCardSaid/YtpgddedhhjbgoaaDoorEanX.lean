/- Walks: the format exception. -/
import Derived.Test.YtpgddedhhjbgoaaDoorBase
import Derived.Test.YtpgddedhhjbgoaaDoorProg
import Derived.Handy
namespace Go.Proofs.YtpgddedhhjbgoaaDoor
open Go.RowKit

set_option maxHeartbeats 1000000 in
set_option maxRecDepth 100000 in
theorem NewFormatException_any (v : Value) (w : World) :
    Calls Tryd.prog 44 #[v] w fun e w' => e = .returned (.iface 74 (.agg #[.string ⟨#[70, 111, 114, 109, 97, 116, 69, 120, 99, 101, 112, 116, 105, 111, 110]⟩, .nilIface])) ∧ Below w.heap.size w w' := by
  go_enter Tryd.func44, Tryd.ntmps44
  go_wp2
  go_ret
  exact ⟨rfl, by go_grown⟩

set_option maxHeartbeats 1000000 in
set_option maxRecDepth 100000 in
theorem excError_any (m : ByteArray) (w : World) :
    Calls Tryd.prog 77 #[.agg #[.string m, .nilIface]] w fun e w' => e = .returned (.string m) ∧ Below w.heap.size w w' := by
  go_enter Tryd.func77, Tryd.ntmps77
  go_wp2
  go_ret
  exact ⟨rfl, by go_grown⟩

theorem exc_size : Tryd.prog.types[70]!.size = 2 := by kernel_rfl
theorem exc_take (a b : Value) (h : 70 < Tryd.prog.types.size) : (List.take (Tryd.prog.types[70]'h).size [a, b]).toArray = #[a, b] := by
  have h2 := exc_size
  rw [getElem!_pos Tryd.prog.types 70 h] at h2
  rw [h2]; rfl
end Go.Proofs.YtpgddedhhjbgoaaDoor
