/-
  DERIVED. GIVEN WITH THE SEED: THE CARDS: each row of YtengepcafdnalaaGreatDoorRows.lean that lists a variable, with what it lists TIED to the program's text (the seventh form; the later family's looks); each row that meets fmt, with fmt's text TOLD by the authors' own Lean function (tested against real Go, not proved from fmt's source: count such statements apart). THE CARD IS WHAT COUNTS. Prove the row's statement (the work); the ties are given (YtengepcafdnalaaGreatDoorTie.lean); close each card by the builder's one call (the guide's Derived/Test/ToyasCard.lean, 'card_holds'). Laid BY PROGRAM, IN A SANDBOX (cutbox-door.mjs). By AI agents, Wed Nov 11 2026. No macro, syntax, notation, axiom, sorry.
-/
import Derived.Test.YtengepcafdnalaaGreatDoorRows
import GoSem.ClaimSeven
namespace Go.Proofs.YtengepcafdnalaaGreatDoor
namespace Rows

/-- THE TIED CARD OF 'laws.FnParseExact'. -/
def fnParseExactCard : Claim7 := { stood := { row := fnParseExactRow, standIns := [], harness := (true, "a169cf2e141b0dc0794576c785faf48765b70d49e638a73e170b800f4ba5d19f"), looks := true }, kinds := [], alts := [], laidByText := true, laidKinds := [.data, .data, .data, .sentinel, .sentinel, .sentinel, .sentinel, .sentinel], laidTests := true, laidLooks := .later }
def FnParseExactCardSaid : Prop := Claim7.holds Tryz.pinned (.plain (OpenSpec.ofChange fnParseExactSpec)) fnParseExactCard

/-- THE TIED CARD OF 'laws.FnParseOne'. -/
def fnParseOneCard : Claim7 := { stood := { row := fnParseOneRow, standIns := [], harness := (true, "a169cf2e141b0dc0794576c785faf48765b70d49e638a73e170b800f4ba5d19f"), looks := true }, kinds := [], alts := [], laidByText := true, laidKinds := [.data, .data, .data, .sentinel, .sentinel, .sentinel, .sentinel, .sentinel], laidTests := true, laidLooks := .later }
def FnParseOneCardSaid : Prop := Claim7.holds Tryz.pinned (.plain (OpenSpec.ofChange fnParseOneSpec)) fnParseOneCard

/-- THE TIED CARD OF 'laws.FnParseOtherwise'. -/
def fnParseOtherwiseCard : Claim7 := { stood := { row := fnParseOtherwiseRow, standIns := [], harness := (true, "a169cf2e141b0dc0794576c785faf48765b70d49e638a73e170b800f4ba5d19f"), looks := true }, kinds := [], alts := [], laidByText := true, laidKinds := [.data, .data, .data, .sentinel, .sentinel, .sentinel, .sentinel, .sentinel], laidTests := true, laidLooks := .later }
def FnParseOtherwiseCardSaid : Prop := Claim7.holds Tryz.pinned (.plain (OpenSpec.ofChange fnParseOtherwiseSpec)) fnParseOtherwiseCard

/-- THE TIED CARD OF 'laws.FnParseWritten'. -/
def fnParseWrittenCard : Claim7 := { stood := { row := fnParseWrittenRow, standIns := [], harness := (true, "a169cf2e141b0dc0794576c785faf48765b70d49e638a73e170b800f4ba5d19f"), looks := true }, kinds := [], alts := [], laidByText := true, laidKinds := [.data, .data, .data, .sentinel, .sentinel, .sentinel, .sentinel, .sentinel], laidTests := true, laidLooks := .later }
def FnParseWrittenCardSaid : Prop := Claim7.holds Tryz.pinned (.plain (OpenSpec.ofChange fnParseWrittenSpec)) fnParseWrittenCard

/-- THE TIED CARD OF 'laws.FnPrintAgain'. -/
def fnPrintAgainCard : Claim7 := { stood := { row := fnPrintAgainRow, standIns := [], harness := (true, "a169cf2e141b0dc0794576c785faf48765b70d49e638a73e170b800f4ba5d19f"), looks := true }, kinds := [], alts := [], laidByText := true, laidKinds := [.data, .data, .data, .sentinel, .sentinel, .sentinel, .sentinel, .sentinel], laidTests := true, laidLooks := .later }
def FnPrintAgainCardSaid : Prop := Claim7.holds Tryz.pinned (.plain (OpenSpec.ofChange fnPrintAgainSpec)) fnPrintAgainCard

/-- THE TIED CARD OF 'laws.FnPrintGrammar'. -/
def fnPrintGrammarCard : Claim7 := { stood := { row := fnPrintGrammarRow, standIns := [], harness := (true, "a169cf2e141b0dc0794576c785faf48765b70d49e638a73e170b800f4ba5d19f"), looks := true }, kinds := [], alts := [], laidByText := true, laidKinds := [.data, .data, .data, .sentinel, .sentinel, .sentinel, .sentinel, .sentinel], laidTests := true, laidLooks := .later }
def FnPrintGrammarCardSaid : Prop := Claim7.holds Tryz.pinned (.plain (OpenSpec.ofChange fnPrintGrammarSpec)) fnPrintGrammarCard

/-- THE TIED CARD OF 'laws.FnPrintBack'. -/
def fnPrintBackCard : Claim7 := { stood := { row := fnPrintBackRow, standIns := [], harness := (true, "a169cf2e141b0dc0794576c785faf48765b70d49e638a73e170b800f4ba5d19f"), looks := true }, kinds := [], alts := [], laidByText := true, laidKinds := [.data, .data, .data, .sentinel, .sentinel, .sentinel, .sentinel, .sentinel], laidTests := true, laidLooks := .later }
def FnPrintBackCardSaid : Prop := Claim7.holds Tryz.pinned (.plain (OpenSpec.ofChange fnPrintBackSpec)) fnPrintBackCard

/-- THE SECOND FORM's CARD OF 'laws.FnParseExact'. -/
def fnParseExactUptoCard : Claim7 := { stood := { row := fnParseExactUptoRow, standIns := [], harness := (true, "a169cf2e141b0dc0794576c785faf48765b70d49e638a73e170b800f4ba5d19f"), looks := true }, kinds := [], alts := [], laidByText := true, laidKinds := [.data, .data, .data, .sentinel, .sentinel, .sentinel, .sentinel, .sentinel], laidTests := true, laidLooks := .later }
def FnParseExactUptoCardSaid : Prop := Claim7.holds Tryz.pinned (.plain (OpenSpec.upto fnParseExactSpec)) fnParseExactUptoCard

/-- THE SECOND FORM's CARD OF 'laws.FnParseOne'. -/
def fnParseOneUptoCard : Claim7 := { stood := { row := fnParseOneUptoRow, standIns := [], harness := (true, "a169cf2e141b0dc0794576c785faf48765b70d49e638a73e170b800f4ba5d19f"), looks := true }, kinds := [], alts := [], laidByText := true, laidKinds := [.data, .data, .data, .sentinel, .sentinel, .sentinel, .sentinel, .sentinel], laidTests := true, laidLooks := .later }
def FnParseOneUptoCardSaid : Prop := Claim7.holds Tryz.pinned (.plain (OpenSpec.upto fnParseOneSpec)) fnParseOneUptoCard

/-- THE SECOND FORM's CARD OF 'laws.FnParseOtherwise'. -/
def fnParseOtherwiseUptoCard : Claim7 := { stood := { row := fnParseOtherwiseUptoRow, standIns := [], harness := (true, "a169cf2e141b0dc0794576c785faf48765b70d49e638a73e170b800f4ba5d19f"), looks := true }, kinds := [], alts := [], laidByText := true, laidKinds := [.data, .data, .data, .sentinel, .sentinel, .sentinel, .sentinel, .sentinel], laidTests := true, laidLooks := .later }
def FnParseOtherwiseUptoCardSaid : Prop := Claim7.holds Tryz.pinned (.plain (OpenSpec.upto fnParseOtherwiseSpec)) fnParseOtherwiseUptoCard

/-- THE SECOND FORM's CARD OF 'laws.FnParseWritten'. -/
def fnParseWrittenUptoCard : Claim7 := { stood := { row := fnParseWrittenUptoRow, standIns := [], harness := (true, "a169cf2e141b0dc0794576c785faf48765b70d49e638a73e170b800f4ba5d19f"), looks := true }, kinds := [], alts := [], laidByText := true, laidKinds := [.data, .data, .data, .sentinel, .sentinel, .sentinel, .sentinel, .sentinel], laidTests := true, laidLooks := .later }
def FnParseWrittenUptoCardSaid : Prop := Claim7.holds Tryz.pinned (.plain (OpenSpec.upto fnParseWrittenSpec)) fnParseWrittenUptoCard

/-- THE SECOND FORM's CARD OF 'laws.FnPrintAgain'. -/
def fnPrintAgainUptoCard : Claim7 := { stood := { row := fnPrintAgainUptoRow, standIns := [], harness := (true, "a169cf2e141b0dc0794576c785faf48765b70d49e638a73e170b800f4ba5d19f"), looks := true }, kinds := [], alts := [], laidByText := true, laidKinds := [.data, .data, .data, .sentinel, .sentinel, .sentinel, .sentinel, .sentinel], laidTests := true, laidLooks := .later }
def FnPrintAgainUptoCardSaid : Prop := Claim7.holds Tryz.pinned (.plain (OpenSpec.upto fnPrintAgainSpec)) fnPrintAgainUptoCard

/-- THE SECOND FORM's CARD OF 'laws.FnPrintGrammar'. -/
def fnPrintGrammarUptoCard : Claim7 := { stood := { row := fnPrintGrammarUptoRow, standIns := [], harness := (true, "a169cf2e141b0dc0794576c785faf48765b70d49e638a73e170b800f4ba5d19f"), looks := true }, kinds := [], alts := [], laidByText := true, laidKinds := [.data, .data, .data, .sentinel, .sentinel, .sentinel, .sentinel, .sentinel], laidTests := true, laidLooks := .later }
def FnPrintGrammarUptoCardSaid : Prop := Claim7.holds Tryz.pinned (.plain (OpenSpec.upto fnPrintGrammarSpec)) fnPrintGrammarUptoCard

/-- THE SECOND FORM's CARD OF 'laws.FnPrintBack'. -/
def fnPrintBackUptoCard : Claim7 := { stood := { row := fnPrintBackUptoRow, standIns := [], harness := (true, "a169cf2e141b0dc0794576c785faf48765b70d49e638a73e170b800f4ba5d19f"), looks := true }, kinds := [], alts := [], laidByText := true, laidKinds := [.data, .data, .data, .sentinel, .sentinel, .sentinel, .sentinel, .sentinel], laidTests := true, laidLooks := .later }
def FnPrintBackUptoCardSaid : Prop := Claim7.holds Tryz.pinned (.plain (OpenSpec.upto fnPrintBackSpec)) fnPrintBackUptoCard
end Rows
end Go.Proofs.YtengepcafdnalaaGreatDoor
