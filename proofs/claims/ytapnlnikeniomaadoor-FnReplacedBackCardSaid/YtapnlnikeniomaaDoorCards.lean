/-
  DERIVED. GIVEN WITH THE SEED: THE CARDS: each row of YtapnlnikeniomaaDoorRows.lean that lists a variable, with what it lists TIED to the program's text (the seventh form; the later family's looks); each row that meets fmt, with fmt's text TOLD by the authors' own Lean function (tested against real Go, not proved from fmt's source: count such statements apart). THE CARD IS WHAT COUNTS. Prove the row's statement (the work); the ties are given (YtapnlnikeniomaaDoorTie.lean); close each card by the builder's one call (the guide's Derived/Test/ToyasCard.lean, 'card_holds'). Laid BY PROGRAM, IN A SANDBOX (cutbox-door.mjs). By AI agents, Wed Nov 11 2026. No macro, syntax, notation, axiom, sorry.
-/
import Derived.Test.YtapnlnikeniomaaDoorRows
import GoSem.ClaimSeven
namespace Go.Proofs.YtapnlnikeniomaaDoor
namespace Rows

/-- THE TIED CARD OF 'laws.FnPositional'. -/
def fnPositionalCard : Claim7 := { stood := { row := fnPositionalRow, standIns := [], harness := (true, "d0ff865f097355f79bcde5199bef63d76d1d84c4eaf918ce076bf4a3ae47f21b"), looks := false }, kinds := [], alts := [], laidByText := true, laidKinds := [.data, .data, .data, .sentinel], laidTests := true, laidLooks := .later }
def FnPositionalCardSaid : Prop := Claim7.holds Tryd.pinned (.plain (OpenSpec.ofChange fnPositionalSpec)) fnPositionalCard

/-- THE TIED CARD OF 'laws.FnRebuffed'. -/
def fnRebuffedCard : Claim7 := { stood := { row := fnRebuffedRow, standIns := [], harness := (true, "d0ff865f097355f79bcde5199bef63d76d1d84c4eaf918ce076bf4a3ae47f21b"), looks := false }, kinds := [], alts := [], laidByText := true, laidKinds := [.data, .data, .data, .sentinel], laidTests := true, laidLooks := .later }
def FnRebuffedCardSaid : Prop := Claim7.holds Tryd.pinned (.plain (OpenSpec.ofChange fnRebuffedSpec)) fnRebuffedCard

/-- THE TIED CARD OF 'laws.FnReplaced'. -/
def fnReplacedCard : Claim7 := { stood := { row := fnReplacedRow, standIns := [], harness := (true, "d0ff865f097355f79bcde5199bef63d76d1d84c4eaf918ce076bf4a3ae47f21b"), looks := false }, kinds := [], alts := [], laidByText := true, laidKinds := [.data, .data, .data, .data], laidTests := true, laidLooks := .later }
def FnReplacedCardSaid : Prop := Claim7.holds Tryd.pinned (.plain (OpenSpec.ofChange fnReplacedSpec)) fnReplacedCard

/-- THE TIED CARD OF 'laws.FnReplacedBack'. -/
def fnReplacedBackCard : Claim7 := { stood := { row := fnReplacedBackRow, standIns := [], harness := (true, "d0ff865f097355f79bcde5199bef63d76d1d84c4eaf918ce076bf4a3ae47f21b"), looks := false }, kinds := [], alts := [], laidByText := true, laidKinds := [.data, .data, .data, .data], laidTests := true, laidLooks := .later }
def FnReplacedBackCardSaid : Prop := Claim7.holds Tryd.pinned (.plain (OpenSpec.ofChange fnReplacedBackSpec)) fnReplacedBackCard

/-- THE TIED CARD OF 'laws.FnReplacedParts'. -/
def fnReplacedPartsCard : Claim7 := { stood := { row := fnReplacedPartsRow, standIns := [], harness := (true, "d0ff865f097355f79bcde5199bef63d76d1d84c4eaf918ce076bf4a3ae47f21b"), looks := false }, kinds := [], alts := [], laidByText := true, laidKinds := [.data, .data, .data, .data], laidTests := true, laidLooks := .later }
def FnReplacedPartsCardSaid : Prop := Claim7.holds Tryd.pinned (.plain (OpenSpec.ofChange fnReplacedPartsSpec)) fnReplacedPartsCard

/-- THE SECOND FORM's CARD OF 'laws.FnPositional'. -/
def fnPositionalUptoCard : Claim7 := { stood := { row := fnPositionalUptoRow, standIns := [], harness := (true, "d0ff865f097355f79bcde5199bef63d76d1d84c4eaf918ce076bf4a3ae47f21b"), looks := false }, kinds := [], alts := [], laidByText := true, laidKinds := [.data, .data, .data, .sentinel], laidTests := true, laidLooks := .later }
def FnPositionalUptoCardSaid : Prop := Claim7.holds Tryd.pinned (.plain (OpenSpec.upto fnPositionalSpec)) fnPositionalUptoCard

/-- THE SECOND FORM's CARD OF 'laws.FnRebuffed'. -/
def fnRebuffedUptoCard : Claim7 := { stood := { row := fnRebuffedUptoRow, standIns := [], harness := (true, "d0ff865f097355f79bcde5199bef63d76d1d84c4eaf918ce076bf4a3ae47f21b"), looks := false }, kinds := [], alts := [], laidByText := true, laidKinds := [.data, .data, .data, .sentinel], laidTests := true, laidLooks := .later }
def FnRebuffedUptoCardSaid : Prop := Claim7.holds Tryd.pinned (.plain (OpenSpec.upto fnRebuffedSpec)) fnRebuffedUptoCard

/-- THE SECOND FORM's CARD OF 'laws.FnReplaced'. -/
def fnReplacedUptoCard : Claim7 := { stood := { row := fnReplacedUptoRow, standIns := [], harness := (true, "d0ff865f097355f79bcde5199bef63d76d1d84c4eaf918ce076bf4a3ae47f21b"), looks := false }, kinds := [], alts := [], laidByText := true, laidKinds := [.data, .data, .data, .data], laidTests := true, laidLooks := .later }
def FnReplacedUptoCardSaid : Prop := Claim7.holds Tryd.pinned (.plain (OpenSpec.upto fnReplacedSpec)) fnReplacedUptoCard

/-- THE SECOND FORM's CARD OF 'laws.FnReplacedBack'. -/
def fnReplacedBackUptoCard : Claim7 := { stood := { row := fnReplacedBackUptoRow, standIns := [], harness := (true, "d0ff865f097355f79bcde5199bef63d76d1d84c4eaf918ce076bf4a3ae47f21b"), looks := false }, kinds := [], alts := [], laidByText := true, laidKinds := [.data, .data, .data, .data], laidTests := true, laidLooks := .later }
def FnReplacedBackUptoCardSaid : Prop := Claim7.holds Tryd.pinned (.plain (OpenSpec.upto fnReplacedBackSpec)) fnReplacedBackUptoCard

/-- THE SECOND FORM's CARD OF 'laws.FnReplacedParts'. -/
def fnReplacedPartsUptoCard : Claim7 := { stood := { row := fnReplacedPartsUptoRow, standIns := [], harness := (true, "d0ff865f097355f79bcde5199bef63d76d1d84c4eaf918ce076bf4a3ae47f21b"), looks := false }, kinds := [], alts := [], laidByText := true, laidKinds := [.data, .data, .data, .data], laidTests := true, laidLooks := .later }
def FnReplacedPartsUptoCardSaid : Prop := Claim7.holds Tryd.pinned (.plain (OpenSpec.upto fnReplacedPartsSpec)) fnReplacedPartsUptoCard
end Rows
end Go.Proofs.YtapnlnikeniomaaDoor
