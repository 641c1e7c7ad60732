/-
  DERIVED. GIVEN WITH THE SEED: THE CARDS: each row of YtpgddedhhjbgoaaDoorRows.lean that lists a variable, with what it lists TIED to the program's text (the seventh form; the later family's looks); each row that meets fmt, with fmt's text TOLD by the authors' own Lean function (tested against real Go, not proved from fmt's source: count such statements apart). THE CARD IS WHAT COUNTS. Prove the row's statement (the work); the ties are given (YtpgddedhhjbgoaaDoorTie.lean); close each card by the builder's one call (the guide's Derived/Test/ToyasCard.lean, 'card_holds'). Laid BY PROGRAM, IN A SANDBOX (cutbox-door.mjs). By AI agents, Wed Nov 11 2026. No macro, syntax, notation, axiom, sorry.
-/
import Derived.Test.YtpgddedhhjbgoaaDoorRows
import GoSem.ClaimSeven
namespace Go.Proofs.YtpgddedhhjbgoaaDoor
namespace Rows

/-- THE TIED CARD OF 'laws.FnODEan8Bars'. -/
def fnODEan8BarsCard : Claim7 := { stood := { row := fnODEan8BarsRow, standIns := [], harness := (true, "c78484ac9ffa235843610691e1bce115492bc6172b6ed564c322b26f6160e275"), looks := false }, kinds := [], alts := [], laidByText := true, laidKinds := [.data, .data, .data], laidTests := true, laidLooks := .later }
def FnODEan8BarsCardSaid : Prop := Claim7.holds Tryd.pinned (.plain (OpenSpec.ofChange fnODEan8BarsSpec)) fnODEan8BarsCard

/-- THE TIED CARD OF 'laws.FnODEan13Bars'. -/
def fnODEan13BarsCard : Claim7 := { stood := { row := fnODEan13BarsRow, standIns := [], harness := (true, "c78484ac9ffa235843610691e1bce115492bc6172b6ed564c322b26f6160e275"), looks := false }, kinds := [], alts := [], laidByText := true, laidKinds := [.data, .data, .data], laidTests := true, laidLooks := .later }
def FnODEan13BarsCardSaid : Prop := Claim7.holds Tryd.pinned (.plain (OpenSpec.ofChange fnODEan13BarsSpec)) fnODEan13BarsCard

/-- THE TIED CARD OF 'laws.FnODUpcEBars'. -/
def fnODUpcEBarsCard : Claim7 := { stood := { row := fnODUpcEBarsRow, standIns := [], harness := (true, "c78484ac9ffa235843610691e1bce115492bc6172b6ed564c322b26f6160e275"), looks := false }, kinds := [], alts := [], laidByText := true, laidKinds := [.data, .data, .data], laidTests := true, laidLooks := .later }
def FnODUpcEBarsCardSaid : Prop := Claim7.holds Tryd.pinned (.plain (OpenSpec.ofChange fnODUpcEBarsSpec)) fnODUpcEBarsCard

/-- THE SECOND FORM's CARD OF 'laws.FnODEan8Bars'. -/
def fnODEan8BarsUptoCard : Claim7 := { stood := { row := fnODEan8BarsUptoRow, standIns := [], harness := (true, "c78484ac9ffa235843610691e1bce115492bc6172b6ed564c322b26f6160e275"), looks := false }, kinds := [], alts := [], laidByText := true, laidKinds := [.data, .data, .data], laidTests := true, laidLooks := .later }
def FnODEan8BarsUptoCardSaid : Prop := Claim7.holds Tryd.pinned (.plain (OpenSpec.upto fnODEan8BarsSpec)) fnODEan8BarsUptoCard

/-- THE SECOND FORM's CARD OF 'laws.FnODEan13Bars'. -/
def fnODEan13BarsUptoCard : Claim7 := { stood := { row := fnODEan13BarsUptoRow, standIns := [], harness := (true, "c78484ac9ffa235843610691e1bce115492bc6172b6ed564c322b26f6160e275"), looks := false }, kinds := [], alts := [], laidByText := true, laidKinds := [.data, .data, .data], laidTests := true, laidLooks := .later }
def FnODEan13BarsUptoCardSaid : Prop := Claim7.holds Tryd.pinned (.plain (OpenSpec.upto fnODEan13BarsSpec)) fnODEan13BarsUptoCard

/-- THE SECOND FORM's CARD OF 'laws.FnODUpcEBars'. -/
def fnODUpcEBarsUptoCard : Claim7 := { stood := { row := fnODUpcEBarsUptoRow, standIns := [], harness := (true, "c78484ac9ffa235843610691e1bce115492bc6172b6ed564c322b26f6160e275"), looks := false }, kinds := [], alts := [], laidByText := true, laidKinds := [.data, .data, .data], laidTests := true, laidLooks := .later }
def FnODUpcEBarsUptoCardSaid : Prop := Claim7.holds Tryd.pinned (.plain (OpenSpec.upto fnODUpcEBarsSpec)) fnODUpcEBarsUptoCard
end Rows
end Go.Proofs.YtpgddedhhjbgoaaDoor
