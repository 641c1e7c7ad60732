/- Walks: spec.odElements, the elements of a character. -/
import Derived.Test.YtpgddedhhjbgoaaDoorPlain
import Derived.Test.YtpgddedhhjbgoaaDoorProg
namespace Go.Proofs.YtpgddedhhjbgoaaDoor
open Go.RowKit

theorem info_int : (Tryd.prog.info? 3).map (fun i => (i.zero, i.size, i.bytes)) = some (some (.int .i64 0), 1, 8) := by kernel_rfl
theorem info_bool : (Tryd.prog.info? 4).map (fun i => (i.zero, i.size, i.bytes)) = some (some (.bool false), 1, 1) := by kernel_rfl

end Go.Proofs.YtpgddedhhjbgoaaDoor
