/-
  DERIVED. GIVEN WITH THE SEED: THE CARDS: each row of YtabaldpjahcilaaDoorRows.lean that lists a variable, with what it lists TIED to the program's text (the seventh form; the later family's looks); each row that meets fmt, with fmt's text TOLD by the authors' own Lean function (tested against real Go, not proved from fmt's source: count such statements apart). THE CARD IS WHAT COUNTS. Prove the row's statement (the work); the ties are given (YtabaldpjahcilaaDoorTie.lean); close each card by the builder's one call (the guide's Derived/Test/ToyasCard.lean, 'card_holds'). Laid BY PROGRAM, IN A SANDBOX (cutbox-door.mjs). By AI agents, Wed Nov 11 2026. No macro, syntax, notation, axiom, sorry.
-/
import Derived.Test.YtabaldpjahcilaaDoorRows
import GoSem.ClaimSeven
namespace Go.Proofs.YtabaldpjahcilaaDoor
namespace Rows

/-- THE TIED CARD OF 'laws.FnDebug'. -/
def fnDebugCard : Claim7 := { stood := { row := fnDebugRow, standIns := [], harness := (true, "5ae228827b1f1302f7341d904c6ad5b1c8017a36e253fe1cc3ca357d7d5ea385"), looks := true }, kinds := [], alts := [], laidByText := true, laidKinds := [.data, .data, .data, .sentinel], laidTests := true, laidLooks := .later }
def FnDebugCardSaid : Prop := Claim7.holds Tryd.pinned (.plain (OpenSpec.ofChange fnDebugSpec)) fnDebugCard

/-- THE TIED CARD OF 'laws.FnDebugRefused'. -/
def fnDebugRefusedCard : Claim7 := { stood := { row := fnDebugRefusedRow, standIns := [], harness := (true, "5ae228827b1f1302f7341d904c6ad5b1c8017a36e253fe1cc3ca357d7d5ea385"), looks := true }, kinds := [], alts := [], laidByText := true, laidKinds := [.data, .data, .data, .sentinel], laidTests := true, laidLooks := .later }
def FnDebugRefusedCardSaid : Prop := Claim7.holds Tryd.pinned (.plain (OpenSpec.ofChange fnDebugRefusedSpec)) fnDebugRefusedCard

/-- THE TIED CARD OF 'laws.FnDebugEq'. -/
def fnDebugEqCard : Claim7 := { stood := { row := fnDebugEqRow, standIns := [], harness := (true, "5ae228827b1f1302f7341d904c6ad5b1c8017a36e253fe1cc3ca357d7d5ea385"), looks := true }, kinds := [], alts := [], laidByText := true, laidKinds := [.data, .data, .data, .sentinel], laidTests := true, laidLooks := .later }
def FnDebugEqCardSaid : Prop := Claim7.holds Tryd.pinned (.plain (OpenSpec.ofChange fnDebugEqSpec)) fnDebugEqCard

/-- THE SECOND FORM's CARD OF 'laws.FnDebug'. -/
def fnDebugUptoCard : Claim7 := { stood := { row := fnDebugUptoRow, standIns := [], harness := (true, "5ae228827b1f1302f7341d904c6ad5b1c8017a36e253fe1cc3ca357d7d5ea385"), looks := true }, kinds := [], alts := [], laidByText := true, laidKinds := [.data, .data, .data, .sentinel], laidTests := true, laidLooks := .later }
def FnDebugUptoCardSaid : Prop := Claim7.holds Tryd.pinned (.plain (OpenSpec.upto fnDebugSpec)) fnDebugUptoCard

/-- THE SECOND FORM's CARD OF 'laws.FnDebugRefused'. -/
def fnDebugRefusedUptoCard : Claim7 := { stood := { row := fnDebugRefusedUptoRow, standIns := [], harness := (true, "5ae228827b1f1302f7341d904c6ad5b1c8017a36e253fe1cc3ca357d7d5ea385"), looks := true }, kinds := [], alts := [], laidByText := true, laidKinds := [.data, .data, .data, .sentinel], laidTests := true, laidLooks := .later }
def FnDebugRefusedUptoCardSaid : Prop := Claim7.holds Tryd.pinned (.plain (OpenSpec.upto fnDebugRefusedSpec)) fnDebugRefusedUptoCard

/-- THE SECOND FORM's CARD OF 'laws.FnDebugEq'. -/
def fnDebugEqUptoCard : Claim7 := { stood := { row := fnDebugEqUptoRow, standIns := [], harness := (true, "5ae228827b1f1302f7341d904c6ad5b1c8017a36e253fe1cc3ca357d7d5ea385"), looks := true }, kinds := [], alts := [], laidByText := true, laidKinds := [.data, .data, .data, .sentinel], laidTests := true, laidLooks := .later }
def FnDebugEqUptoCardSaid : Prop := Claim7.holds Tryd.pinned (.plain (OpenSpec.upto fnDebugEqSpec)) fnDebugEqUptoCard
end Rows
end Go.Proofs.YtabaldpjahcilaaDoor
