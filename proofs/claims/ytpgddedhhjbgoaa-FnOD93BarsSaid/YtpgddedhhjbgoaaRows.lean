/-
  No cell of these rows narrows 'for every input' (looked for: loops, veiled, ifaces, maps, wideKeys, modest, calm, conditions, laid).
  DERIVED. THE GIVEN ROWS OF THIS SEAT. 4 by the template 'for every input the law returns true; each argument reads behind the call as it read before'; 0 by the template 'total and deterministic' (their statements: YtpgddedhhjbgoaaTotals.lean).
  GIVEN WITH THE SEED: the statements are not yours to turn. If you find one false, say at which input.
  Laid BY PROGRAM, IN A SANDBOX (cutbox-rows.mjs): the forced cells as the released guide's own fill.sh prints them over the translation a8271da93efcf340… (all of the seat's roots in one cut). By AI agents, Wed Nov 11 2026. No macro, syntax, notation, axiom, sorry.
-/
import Derived.Test.YtpgddedhhjbgoaaChecked
import GoSem.Claim
import GoSem.ClaimJoined
import GoSem.ClaimMapViews
import Derived.JoinedTies
import Derived.KernelRfl
namespace Go.Proofs.Ytpgddedhhjbgoaa
/- THE CELL 'sum', in the pinned program and in every row, IS THE sha256 OF THE DUMP (.gsa) THAT YtpgddedhhjbgoaaProg.lean LOADS. Nothing in Lean hashes anything: it is a label: what it is worth is what the hold of that sum in a sandbox is worth. -/
noncomputable def Try.pinned : Pinned := { name := "ytpgddedhhjbgoaa", sum := "a8271da93efcf340a63a3d704aec135f2d5e7096d7e728608ad213beee66437e", checked := Try.checked }
namespace Rows
def none {H : Type} : Left H := { results := [], args := [] }

/-- 'laws.FnOD39Full': WHATEVER THE INPUT: true; the input reads as it did. -/
def fnOD39FullSpec : ChangeSpec := { name := "fnOD39Full", fn := fun _ => fun
  | [d1, d2] => { results := [.lit (.bool true)], args := [d1, d2] }
  | _ => none }
def fnOD39FullRow : OpenClaim := { program := "ytpgddedhhjbgoaa", sum := "a8271da93efcf340a63a3d704aec135f2d5e7096d7e728608ad213beee66437e", func := "given.example/pub-quietlane/laws.FnOD39Full", spec := "fnOD39Full", apart := false }
def FnOD39FullSaid : Prop := fnOD39FullRow.holds Try.pinned (OpenSpec.ofChange fnOD39FullSpec)

/-- ITS FALSE NEIGHBOUR: 'it returns false'. Refute it at one input. -/
def fnOD39FullWrong : ChangeSpec := { name := "fnOD39Full", fn := fun _ => fun
  | [d1, d2] => { results := [.lit (.bool false)], args := [d1, d2] }
  | _ => none }
def FnOD39FullWrongFalsely : Prop := fnOD39FullRow.holds Try.pinned (OpenSpec.ofChange fnOD39FullWrong)

/-- 'laws.FnOD93Bars': WHATEVER THE INPUT: true; the input reads as it did. -/
def fnOD93BarsSpec : ChangeSpec := { name := "fnOD93Bars", fn := fun _ => fun
  | [d1, d2] => { results := [.lit (.bool true)], args := [d1, d2] }
  | _ => none }
def fnOD93BarsRow : OpenClaim := { program := "ytpgddedhhjbgoaa", sum := "a8271da93efcf340a63a3d704aec135f2d5e7096d7e728608ad213beee66437e", func := "given.example/pub-quietlane/laws.FnOD93Bars", spec := "fnOD93Bars", apart := false }
def FnOD93BarsSaid : Prop := fnOD93BarsRow.holds Try.pinned (OpenSpec.ofChange fnOD93BarsSpec)

/-- ITS FALSE NEIGHBOUR: 'it returns false'. Refute it at one input. -/
def fnOD93BarsWrong : ChangeSpec := { name := "fnOD93Bars", fn := fun _ => fun
  | [d1, d2] => { results := [.lit (.bool false)], args := [d1, d2] }
  | _ => none }
def FnOD93BarsWrongFalsely : Prop := fnOD93BarsRow.holds Try.pinned (OpenSpec.ofChange fnOD93BarsWrong)

/-- 'laws.FnOD128Bars': WHATEVER THE INPUT: true; the input reads as it did. -/
def fnOD128BarsSpec : ChangeSpec := { name := "fnOD128Bars", fn := fun _ => fun
  | [d] => { results := [.lit (.bool true)], args := [d] }
  | _ => none }
def fnOD128BarsRow : OpenClaim := { program := "ytpgddedhhjbgoaa", sum := "a8271da93efcf340a63a3d704aec135f2d5e7096d7e728608ad213beee66437e", func := "given.example/pub-quietlane/laws.FnOD128Bars", spec := "fnOD128Bars", apart := false }
def FnOD128BarsSaid : Prop := fnOD128BarsRow.holds Try.pinned (OpenSpec.ofChange fnOD128BarsSpec)

/-- ITS FALSE NEIGHBOUR: 'it returns false'. Refute it at one input. -/
def fnOD128BarsWrong : ChangeSpec := { name := "fnOD128Bars", fn := fun _ => fun
  | [d] => { results := [.lit (.bool false)], args := [d] }
  | _ => none }
def FnOD128BarsWrongFalsely : Prop := fnOD128BarsRow.holds Try.pinned (OpenSpec.ofChange fnOD128BarsWrong)

/-- 'laws.FnOD128Brief': WHATEVER THE INPUT: true; the input reads as it did. -/
def fnOD128BriefSpec : ChangeSpec := { name := "fnOD128Brief", fn := fun _ => fun
  | [d] => { results := [.lit (.bool true)], args := [d] }
  | _ => none }
def fnOD128BriefRow : OpenClaim := { program := "ytpgddedhhjbgoaa", sum := "a8271da93efcf340a63a3d704aec135f2d5e7096d7e728608ad213beee66437e", func := "given.example/pub-quietlane/laws.FnOD128Brief", spec := "fnOD128Brief", apart := false }
def FnOD128BriefSaid : Prop := fnOD128BriefRow.holds Try.pinned (OpenSpec.ofChange fnOD128BriefSpec)

/-- ITS FALSE NEIGHBOUR: 'it returns false'. Refute it at one input. -/
def fnOD128BriefWrong : ChangeSpec := { name := "fnOD128Brief", fn := fun _ => fun
  | [d] => { results := [.lit (.bool false)], args := [d] }
  | _ => none }
def FnOD128BriefWrongFalsely : Prop := fnOD128BriefRow.holds Try.pinned (OpenSpec.ofChange fnOD128BriefWrong)

/- THE SECOND FORM. 'bulk': how many values and letters a reading holds, each counted each time it is reached (what is shared counts as often as it is met; a slice's spare places count too). A statement '..UptoSaid' is the law's where the arguments, and the package variables that the reading takes, are together of bulk at most 1048576: NARROWER than '..Said'. Prove '..Said' where nothing that the law and all that it calls make is longer than what came in: it says more and counts as full. Else prove '..UptoSaid'. A law counts once. -/
mutual
def uptoBulk {H : Type} : DataW H → Nat
  | .lit (.string bytes) => bytes.length + 1
  | .lit _ => 1
  | .nil => 1
  | .ptr d => uptoBulk d + 1
  | .slice elems spare => uptoBulkAll elems + uptoBulkAll spare + 1
  | .agg parts => uptoBulkAll parts + 1
  | .iface _ d => uptoBulk d + 1
  | .map entries => uptoBulkEntries entries + 1
  | .held _ => 1
def uptoBulkAll {H : Type} : List (DataW H) → Nat
  | [] => 0
  | d :: r => uptoBulk d + uptoBulkAll r
def uptoBulkEntries {H : Type} : List (Lit × DataW H) → Nat
  | [] => 0
  | x :: r => uptoBulkEntry x + uptoBulkEntries r
def uptoBulkEntry {H : Type} : Lit × DataW H → Nat
  | (.string bytes, d) => bytes.length + uptoBulk d + 1
  | (_, d) => uptoBulk d + 1
 end
def uptoSmall : (H : Type) → List (DataW H) → Bool := fun _ ds => decide (uptoBulkAll ds ≤ 1048576)
def OpenSpec.upto (s : _root_.Go.ChangeSpec) : _root_.Go.OpenSpec := { _root_.Go.OpenSpec.ofChange s with cond := some uptoSmall }

/-- 'laws.FnOD39Full', WHERE WHAT IT READS IS OF BULK AT MOST 1048576: true; the input reads as it did. -/
def fnOD39FullUptoRow : OpenClaim := { program := "ytpgddedhhjbgoaa", sum := "a8271da93efcf340a63a3d704aec135f2d5e7096d7e728608ad213beee66437e", func := "given.example/pub-quietlane/laws.FnOD39Full", spec := "fnOD39Full", apart := false, narrowed := true }
def FnOD39FullUptoSaid : Prop := fnOD39FullUptoRow.holds Try.pinned (OpenSpec.upto fnOD39FullSpec)

/-- 'laws.FnOD93Bars', WHERE WHAT IT READS IS OF BULK AT MOST 1048576: true; the input reads as it did. -/
def fnOD93BarsUptoRow : OpenClaim := { program := "ytpgddedhhjbgoaa", sum := "a8271da93efcf340a63a3d704aec135f2d5e7096d7e728608ad213beee66437e", func := "given.example/pub-quietlane/laws.FnOD93Bars", spec := "fnOD93Bars", apart := false, narrowed := true }
def FnOD93BarsUptoSaid : Prop := fnOD93BarsUptoRow.holds Try.pinned (OpenSpec.upto fnOD93BarsSpec)

/-- 'laws.FnOD128Bars', WHERE WHAT IT READS IS OF BULK AT MOST 1048576: true; the input reads as it did. -/
def fnOD128BarsUptoRow : OpenClaim := { program := "ytpgddedhhjbgoaa", sum := "a8271da93efcf340a63a3d704aec135f2d5e7096d7e728608ad213beee66437e", func := "given.example/pub-quietlane/laws.FnOD128Bars", spec := "fnOD128Bars", apart := false, narrowed := true }
def FnOD128BarsUptoSaid : Prop := fnOD128BarsUptoRow.holds Try.pinned (OpenSpec.upto fnOD128BarsSpec)

/-- 'laws.FnOD128Brief', WHERE WHAT IT READS IS OF BULK AT MOST 1048576: true; the input reads as it did. -/
def fnOD128BriefUptoRow : OpenClaim := { program := "ytpgddedhhjbgoaa", sum := "a8271da93efcf340a63a3d704aec135f2d5e7096d7e728608ad213beee66437e", func := "given.example/pub-quietlane/laws.FnOD128Brief", spec := "fnOD128Brief", apart := false, narrowed := true }
def FnOD128BriefUptoSaid : Prop := fnOD128BriefUptoRow.holds Try.pinned (OpenSpec.upto fnOD128BriefSpec)

end Rows
end Go.Proofs.Ytpgddedhhjbgoaa
