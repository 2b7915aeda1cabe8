/-
  DERIVED. GIVEN WITH THE SEED: THE CARDS: each row of YtnmhoghmhglimaaDoorRows.lean that lists a variable, with what it lists TIED to the program's text (the seventh form; the later family's looks); each row that meets fmt, with fmt's text TOLD by the authors' own Lean function (tested against real Go, not proved from fmt's source: count such statements apart). THE CARD IS WHAT COUNTS. Prove the row's statement (the work); the ties are given (YtnmhoghmhglimaaDoorTie.lean); close each card by the builder's one call (the guide's Derived/Test/ToyasCard.lean, 'card_holds'). Laid BY PROGRAM, IN A SANDBOX (cutbox-door.mjs). By AI agents, Wed Nov 11 2026. No macro, syntax, notation, axiom, sorry.
-/
import Derived.Test.YtnmhoghmhglimaaDoorRows
import GoSem.ClaimSeven
namespace Go.Proofs.YtnmhoghmhglimaaDoor
namespace Rows

/-- THE TIED CARD OF 'laws.FnRepeated'. -/
def fnRepeatedCard : Claim7 := { stood := { row := fnRepeatedRow, standIns := [], harness := (true, "81845d5590679b3428ec288074baf3890fa7e64331975ce807ad5172a5d44b49"), looks := true }, kinds := [], alts := [], laidByText := true, laidKinds := [.sentinel], laidTests := true, laidLooks := .later }
def FnRepeatedCardSaid : Prop := Claim7.holds Tryd.pinned (.plain (OpenSpec.ofChange fnRepeatedSpec)) fnRepeatedCard

/-- THE TIED CARD OF 'laws.FnRepeatedTwice'. -/
def fnRepeatedTwiceCard : Claim7 := { stood := { row := fnRepeatedTwiceRow, standIns := [], harness := (true, "81845d5590679b3428ec288074baf3890fa7e64331975ce807ad5172a5d44b49"), looks := true }, kinds := [], alts := [], laidByText := true, laidKinds := [.sentinel], laidTests := true, laidLooks := .later }
def FnRepeatedTwiceCardSaid : Prop := Claim7.holds Tryd.pinned (.plain (OpenSpec.ofChange fnRepeatedTwiceSpec)) fnRepeatedTwiceCard

/-- THE TIED CARD OF 'laws.FnRebound'. -/
def fnReboundCard : Claim7 := { stood := { row := fnReboundRow, standIns := [], harness := (true, "81845d5590679b3428ec288074baf3890fa7e64331975ce807ad5172a5d44b49"), looks := true }, kinds := [], alts := [], laidByText := true, laidKinds := [.data, .data, .data], laidTests := true, laidLooks := .later }
def FnReboundCardSaid : Prop := Claim7.holds Tryd.pinned (.plain (OpenSpec.ofChange fnReboundSpec)) fnReboundCard

/-- THE TIED CARD OF 'laws.FnCompiled'. -/
def fnCompiledCard : Claim7 := { stood := { row := fnCompiledRow, standIns := [], harness := (true, "81845d5590679b3428ec288074baf3890fa7e64331975ce807ad5172a5d44b49"), looks := true }, kinds := [], alts := [], laidByText := true, laidKinds := [.data, .data, .data], laidTests := true, laidLooks := .later }
def FnCompiledCardSaid : Prop := Claim7.holds Tryd.pinned (.plain (OpenSpec.ofChange fnCompiledSpec)) fnCompiledCard

/-- THE TIED CARD OF 'laws.FnCompiledAgain'. -/
def fnCompiledAgainCard : Claim7 := { stood := { row := fnCompiledAgainRow, standIns := [], harness := (true, "81845d5590679b3428ec288074baf3890fa7e64331975ce807ad5172a5d44b49"), looks := true }, kinds := [], alts := [], laidByText := true, laidKinds := [.data, .data, .data], laidTests := true, laidLooks := .later }
def FnCompiledAgainCardSaid : Prop := Claim7.holds Tryd.pinned (.plain (OpenSpec.ofChange fnCompiledAgainSpec)) fnCompiledAgainCard

/-- THE TIED CARD OF 'laws.FnCompiledWritten'. -/
def fnCompiledWrittenCard : Claim7 := { stood := { row := fnCompiledWrittenRow, standIns := [], harness := (true, "81845d5590679b3428ec288074baf3890fa7e64331975ce807ad5172a5d44b49"), looks := true }, kinds := [], alts := [], laidByText := true, laidKinds := [.data, .data, .data], laidTests := true, laidLooks := .later }
def FnCompiledWrittenCardSaid : Prop := Claim7.holds Tryd.pinned (.plain (OpenSpec.ofChange fnCompiledWrittenSpec)) fnCompiledWrittenCard

/-- THE TIED CARD OF 'laws.FnCompiledKinds'. -/
def fnCompiledKindsCard : Claim7 := { stood := { row := fnCompiledKindsRow, standIns := [], harness := (true, "81845d5590679b3428ec288074baf3890fa7e64331975ce807ad5172a5d44b49"), looks := true }, kinds := [], alts := [], laidByText := true, laidKinds := [.data, .data, .data], laidTests := true, laidLooks := .later }
def FnCompiledKindsCardSaid : Prop := Claim7.holds Tryd.pinned (.plain (OpenSpec.ofChange fnCompiledKindsSpec)) fnCompiledKindsCard

/-- THE TIED CARD OF 'laws.FnNamedOf'. -/
def fnNamedOfCard : Claim7 := { stood := { row := fnNamedOfRow, standIns := [], harness := (true, "81845d5590679b3428ec288074baf3890fa7e64331975ce807ad5172a5d44b49"), looks := true }, kinds := [], alts := [], laidByText := true, laidKinds := [.data, .data, .data, .sentinel], laidTests := true, laidLooks := .later }
def FnNamedOfCardSaid : Prop := Claim7.holds Tryd.pinned (.plain (OpenSpec.ofChange fnNamedOfSpec)) fnNamedOfCard

/-- THE TIED CARD OF 'laws.FnNamed'. -/
def fnNamedCard : Claim7 := { stood := { row := fnNamedRow, standIns := [], harness := (true, "81845d5590679b3428ec288074baf3890fa7e64331975ce807ad5172a5d44b49"), looks := true }, kinds := [], alts := [], laidByText := true, laidKinds := [.data, .data, .data, .sentinel], laidTests := true, laidLooks := .later }
def FnNamedCardSaid : Prop := Claim7.holds Tryd.pinned (.plain (OpenSpec.ofChange fnNamedSpec)) fnNamedCard

/-- THE TIED CARD OF 'laws.FnNamedOrder'. -/
def fnNamedOrderCard : Claim7 := { stood := { row := fnNamedOrderRow, standIns := [], harness := (true, "81845d5590679b3428ec288074baf3890fa7e64331975ce807ad5172a5d44b49"), looks := true }, kinds := [], alts := [], laidByText := true, laidKinds := [.data, .data, .data, .sentinel], laidTests := true, laidLooks := .later }
def FnNamedOrderCardSaid : Prop := Claim7.holds Tryd.pinned (.plain (OpenSpec.ofChange fnNamedOrderSpec)) fnNamedOrderCard

/-- THE TIED CARD OF 'laws.FnNamedTwo'. -/
def fnNamedTwoCard : Claim7 := { stood := { row := fnNamedTwoRow, standIns := [], harness := (true, "81845d5590679b3428ec288074baf3890fa7e64331975ce807ad5172a5d44b49"), looks := true }, kinds := [], alts := [], laidByText := true, laidKinds := [.data, .data, .data, .sentinel], laidTests := true, laidLooks := .later }
def FnNamedTwoCardSaid : Prop := Claim7.holds Tryd.pinned (.plain (OpenSpec.ofChange fnNamedTwoSpec)) fnNamedTwoCard

/-- THE TIED CARD OF 'laws.FnNamedManyOf'. -/
def fnNamedManyOfCard : Claim7 := { stood := { row := fnNamedManyOfRow, standIns := [], harness := (true, "81845d5590679b3428ec288074baf3890fa7e64331975ce807ad5172a5d44b49"), looks := true }, kinds := [], alts := [], laidByText := true, laidKinds := [.data, .data, .data, .sentinel], laidTests := true, laidLooks := .later }
def FnNamedManyOfCardSaid : Prop := Claim7.holds Tryd.pinned (.plain (OpenSpec.ofChange fnNamedManyOfSpec)) fnNamedManyOfCard

/-- THE TIED CARD OF 'laws.FnNamedMany'. -/
def fnNamedManyCard : Claim7 := { stood := { row := fnNamedManyRow, standIns := [], harness := (true, "81845d5590679b3428ec288074baf3890fa7e64331975ce807ad5172a5d44b49"), looks := true }, kinds := [], alts := [], laidByText := true, laidKinds := [.data, .data, .data, .sentinel], laidTests := true, laidLooks := .later }
def FnNamedManyCardSaid : Prop := Claim7.holds Tryd.pinned (.plain (OpenSpec.ofChange fnNamedManySpec)) fnNamedManyCard

/-- THE TIED CARD OF 'laws.FnNamedRows'. -/
def fnNamedRowsCard : Claim7 := { stood := { row := fnNamedRowsRow, standIns := [], harness := (true, "81845d5590679b3428ec288074baf3890fa7e64331975ce807ad5172a5d44b49"), looks := true }, kinds := [], alts := [], laidByText := true, laidKinds := [.data, .data, .data, .sentinel], laidTests := true, laidLooks := .later }
def FnNamedRowsCardSaid : Prop := Claim7.holds Tryd.pinned (.plain (OpenSpec.ofChange fnNamedRowsSpec)) fnNamedRowsCard

/-- THE TIED CARD OF 'laws.FnRoad'. -/
def fnRoadCard : Claim7 := { stood := { row := fnRoadRow, standIns := [], harness := (true, "81845d5590679b3428ec288074baf3890fa7e64331975ce807ad5172a5d44b49"), looks := true }, kinds := [], alts := [], laidByText := true, laidKinds := [.data, .data, .data, .sentinel], laidTests := true, laidLooks := .later }
def FnRoadCardSaid : Prop := Claim7.holds Tryd.pinned (.plain (OpenSpec.ofChange fnRoadSpec)) fnRoadCard

/-- THE SECOND FORM's CARD OF 'laws.FnRepeated'. -/
def fnRepeatedUptoCard : Claim7 := { stood := { row := fnRepeatedUptoRow, standIns := [], harness := (true, "81845d5590679b3428ec288074baf3890fa7e64331975ce807ad5172a5d44b49"), looks := true }, kinds := [], alts := [], laidByText := true, laidKinds := [.sentinel], laidTests := true, laidLooks := .later }
def FnRepeatedUptoCardSaid : Prop := Claim7.holds Tryd.pinned (.plain (OpenSpec.upto fnRepeatedSpec)) fnRepeatedUptoCard

/-- THE SECOND FORM's CARD OF 'laws.FnRepeatedTwice'. -/
def fnRepeatedTwiceUptoCard : Claim7 := { stood := { row := fnRepeatedTwiceUptoRow, standIns := [], harness := (true, "81845d5590679b3428ec288074baf3890fa7e64331975ce807ad5172a5d44b49"), looks := true }, kinds := [], alts := [], laidByText := true, laidKinds := [.sentinel], laidTests := true, laidLooks := .later }
def FnRepeatedTwiceUptoCardSaid : Prop := Claim7.holds Tryd.pinned (.plain (OpenSpec.upto fnRepeatedTwiceSpec)) fnRepeatedTwiceUptoCard

/-- THE SECOND FORM's CARD OF 'laws.FnRebound'. -/
def fnReboundUptoCard : Claim7 := { stood := { row := fnReboundUptoRow, standIns := [], harness := (true, "81845d5590679b3428ec288074baf3890fa7e64331975ce807ad5172a5d44b49"), looks := true }, kinds := [], alts := [], laidByText := true, laidKinds := [.data, .data, .data], laidTests := true, laidLooks := .later }
def FnReboundUptoCardSaid : Prop := Claim7.holds Tryd.pinned (.plain (OpenSpec.upto fnReboundSpec)) fnReboundUptoCard

/-- THE SECOND FORM's CARD OF 'laws.FnCompiled'. -/
def fnCompiledUptoCard : Claim7 := { stood := { row := fnCompiledUptoRow, standIns := [], harness := (true, "81845d5590679b3428ec288074baf3890fa7e64331975ce807ad5172a5d44b49"), looks := true }, kinds := [], alts := [], laidByText := true, laidKinds := [.data, .data, .data], laidTests := true, laidLooks := .later }
def FnCompiledUptoCardSaid : Prop := Claim7.holds Tryd.pinned (.plain (OpenSpec.upto fnCompiledSpec)) fnCompiledUptoCard

/-- THE SECOND FORM's CARD OF 'laws.FnCompiledAgain'. -/
def fnCompiledAgainUptoCard : Claim7 := { stood := { row := fnCompiledAgainUptoRow, standIns := [], harness := (true, "81845d5590679b3428ec288074baf3890fa7e64331975ce807ad5172a5d44b49"), looks := true }, kinds := [], alts := [], laidByText := true, laidKinds := [.data, .data, .data], laidTests := true, laidLooks := .later }
def FnCompiledAgainUptoCardSaid : Prop := Claim7.holds Tryd.pinned (.plain (OpenSpec.upto fnCompiledAgainSpec)) fnCompiledAgainUptoCard

/-- THE SECOND FORM's CARD OF 'laws.FnCompiledWritten'. -/
def fnCompiledWrittenUptoCard : Claim7 := { stood := { row := fnCompiledWrittenUptoRow, standIns := [], harness := (true, "81845d5590679b3428ec288074baf3890fa7e64331975ce807ad5172a5d44b49"), looks := true }, kinds := [], alts := [], laidByText := true, laidKinds := [.data, .data, .data], laidTests := true, laidLooks := .later }
def FnCompiledWrittenUptoCardSaid : Prop := Claim7.holds Tryd.pinned (.plain (OpenSpec.upto fnCompiledWrittenSpec)) fnCompiledWrittenUptoCard

/-- THE SECOND FORM's CARD OF 'laws.FnCompiledKinds'. -/
def fnCompiledKindsUptoCard : Claim7 := { stood := { row := fnCompiledKindsUptoRow, standIns := [], harness := (true, "81845d5590679b3428ec288074baf3890fa7e64331975ce807ad5172a5d44b49"), looks := true }, kinds := [], alts := [], laidByText := true, laidKinds := [.data, .data, .data], laidTests := true, laidLooks := .later }
def FnCompiledKindsUptoCardSaid : Prop := Claim7.holds Tryd.pinned (.plain (OpenSpec.upto fnCompiledKindsSpec)) fnCompiledKindsUptoCard

/-- THE SECOND FORM's CARD OF 'laws.FnNamedOf'. -/
def fnNamedOfUptoCard : Claim7 := { stood := { row := fnNamedOfUptoRow, standIns := [], harness := (true, "81845d5590679b3428ec288074baf3890fa7e64331975ce807ad5172a5d44b49"), looks := true }, kinds := [], alts := [], laidByText := true, laidKinds := [.data, .data, .data, .sentinel], laidTests := true, laidLooks := .later }
def FnNamedOfUptoCardSaid : Prop := Claim7.holds Tryd.pinned (.plain (OpenSpec.upto fnNamedOfSpec)) fnNamedOfUptoCard

/-- THE SECOND FORM's CARD OF 'laws.FnNamed'. -/
def fnNamedUptoCard : Claim7 := { stood := { row := fnNamedUptoRow, standIns := [], harness := (true, "81845d5590679b3428ec288074baf3890fa7e64331975ce807ad5172a5d44b49"), looks := true }, kinds := [], alts := [], laidByText := true, laidKinds := [.data, .data, .data, .sentinel], laidTests := true, laidLooks := .later }
def FnNamedUptoCardSaid : Prop := Claim7.holds Tryd.pinned (.plain (OpenSpec.upto fnNamedSpec)) fnNamedUptoCard

/-- THE SECOND FORM's CARD OF 'laws.FnNamedOrder'. -/
def fnNamedOrderUptoCard : Claim7 := { stood := { row := fnNamedOrderUptoRow, standIns := [], harness := (true, "81845d5590679b3428ec288074baf3890fa7e64331975ce807ad5172a5d44b49"), looks := true }, kinds := [], alts := [], laidByText := true, laidKinds := [.data, .data, .data, .sentinel], laidTests := true, laidLooks := .later }
def FnNamedOrderUptoCardSaid : Prop := Claim7.holds Tryd.pinned (.plain (OpenSpec.upto fnNamedOrderSpec)) fnNamedOrderUptoCard

/-- THE SECOND FORM's CARD OF 'laws.FnNamedTwo'. -/
def fnNamedTwoUptoCard : Claim7 := { stood := { row := fnNamedTwoUptoRow, standIns := [], harness := (true, "81845d5590679b3428ec288074baf3890fa7e64331975ce807ad5172a5d44b49"), looks := true }, kinds := [], alts := [], laidByText := true, laidKinds := [.data, .data, .data, .sentinel], laidTests := true, laidLooks := .later }
def FnNamedTwoUptoCardSaid : Prop := Claim7.holds Tryd.pinned (.plain (OpenSpec.upto fnNamedTwoSpec)) fnNamedTwoUptoCard

/-- THE SECOND FORM's CARD OF 'laws.FnNamedManyOf'. -/
def fnNamedManyOfUptoCard : Claim7 := { stood := { row := fnNamedManyOfUptoRow, standIns := [], harness := (true, "81845d5590679b3428ec288074baf3890fa7e64331975ce807ad5172a5d44b49"), looks := true }, kinds := [], alts := [], laidByText := true, laidKinds := [.data, .data, .data, .sentinel], laidTests := true, laidLooks := .later }
def FnNamedManyOfUptoCardSaid : Prop := Claim7.holds Tryd.pinned (.plain (OpenSpec.upto fnNamedManyOfSpec)) fnNamedManyOfUptoCard

/-- THE SECOND FORM's CARD OF 'laws.FnNamedMany'. -/
def fnNamedManyUptoCard : Claim7 := { stood := { row := fnNamedManyUptoRow, standIns := [], harness := (true, "81845d5590679b3428ec288074baf3890fa7e64331975ce807ad5172a5d44b49"), looks := true }, kinds := [], alts := [], laidByText := true, laidKinds := [.data, .data, .data, .sentinel], laidTests := true, laidLooks := .later }
def FnNamedManyUptoCardSaid : Prop := Claim7.holds Tryd.pinned (.plain (OpenSpec.upto fnNamedManySpec)) fnNamedManyUptoCard

/-- THE SECOND FORM's CARD OF 'laws.FnNamedRows'. -/
def fnNamedRowsUptoCard : Claim7 := { stood := { row := fnNamedRowsUptoRow, standIns := [], harness := (true, "81845d5590679b3428ec288074baf3890fa7e64331975ce807ad5172a5d44b49"), looks := true }, kinds := [], alts := [], laidByText := true, laidKinds := [.data, .data, .data, .sentinel], laidTests := true, laidLooks := .later }
def FnNamedRowsUptoCardSaid : Prop := Claim7.holds Tryd.pinned (.plain (OpenSpec.upto fnNamedRowsSpec)) fnNamedRowsUptoCard

/-- THE SECOND FORM's CARD OF 'laws.FnRoad'. -/
def fnRoadUptoCard : Claim7 := { stood := { row := fnRoadUptoRow, standIns := [], harness := (true, "81845d5590679b3428ec288074baf3890fa7e64331975ce807ad5172a5d44b49"), looks := true }, kinds := [], alts := [], laidByText := true, laidKinds := [.data, .data, .data, .sentinel], laidTests := true, laidLooks := .later }
def FnRoadUptoCardSaid : Prop := Claim7.holds Tryd.pinned (.plain (OpenSpec.upto fnRoadSpec)) fnRoadUptoCard
end Rows
end Go.Proofs.YtnmhoghmhglimaaDoor
