/-
  DERIVED. GIVEN WITH THE SEED: THE CARDS: each row of YtclkdmmgibgamaaGreatDoorRows.lean that lists a variable, with what it lists TIED to the program's text (the seventh form; the later family's looks); each row that meets fmt, with fmt's text TOLD by the authors' own Lean function (tested against real Go, not proved from fmt's source: count such statements apart). THE CARD IS WHAT COUNTS. Prove the row's statement (the work); the ties are given (YtclkdmmgibgamaaGreatDoorTie.lean); close each card by the builder's one call (the guide's Derived/Test/ToyasCard.lean, 'card_holds'). Laid BY PROGRAM, IN A SANDBOX (cutbox-door.mjs). By AI agents, Wed Nov 11 2026. No macro, syntax, notation, axiom, sorry.
-/
import Derived.Test.YtclkdmmgibgamaaGreatDoorRows
import GoSem.ClaimSeven
namespace Go.Proofs.YtclkdmmgibgamaaGreatDoor
namespace Rows

/-- THE TIED CARD OF 'flaillaw22.SanitizeText'. -/
def sanitizeTextCard : Claim7 := { stood := { row := sanitizeTextRow, standIns := [], harness := (true, "b2b156fa1ff113d479bdf39255affaaabb3a86c71ac37ccbfe27004120eb0a42"), looks := true }, kinds := [], alts := [], laidByText := true, laidKinds := [.data, .data, .data, .data, .sentinel, .sentinel, .pinned], laidTests := true, laidLooks := .later }
def SanitizeTextCardSaid : Prop := Claim7.holds Tryz.pinned (.plain (OpenSpec.ofChange sanitizeTextSpec)) sanitizeTextCard

/-- THE TIED CARD OF 'flaillaw22.SanitizePlain'. -/
def sanitizePlainCard : Claim7 := { stood := { row := sanitizePlainRow, standIns := [], harness := (true, "b2b156fa1ff113d479bdf39255affaaabb3a86c71ac37ccbfe27004120eb0a42"), looks := true }, kinds := [], alts := [], laidByText := true, laidKinds := [.data, .data, .data, .data, .sentinel, .sentinel, .pinned], laidTests := true, laidLooks := .later }
def SanitizePlainCardSaid : Prop := Claim7.holds Tryz.pinned (.plain (OpenSpec.ofChange sanitizePlainSpec)) sanitizePlainCard

/-- THE TIED CARD OF 'flaillaw22.SanitizeAlike'. -/
def sanitizeAlikeCard : Claim7 := { stood := { row := sanitizeAlikeRow, standIns := [], harness := (true, "b2b156fa1ff113d479bdf39255affaaabb3a86c71ac37ccbfe27004120eb0a42"), looks := true }, kinds := [], alts := [], laidByText := true, laidKinds := [.data, .data, .data, .data, .sentinel, .sentinel, .pinned], laidTests := true, laidLooks := .later }
def SanitizeAlikeCardSaid : Prop := Claim7.holds Tryz.pinned (.plain (OpenSpec.ofChange sanitizeAlikeSpec)) sanitizeAlikeCard

/-- THE TIED CARD OF 'flaillaw22.SanitizeWords'. -/
def sanitizeWordsCard : Claim7 := { stood := { row := sanitizeWordsRow, standIns := [], harness := (true, "b2b156fa1ff113d479bdf39255affaaabb3a86c71ac37ccbfe27004120eb0a42"), looks := true }, kinds := [], alts := [], laidByText := true, laidKinds := [.data, .data, .data, .data, .sentinel, .sentinel, .pinned], laidTests := true, laidLooks := .later }
def SanitizeWordsCardSaid : Prop := Claim7.holds Tryz.pinned (.plain (OpenSpec.ofChange sanitizeWordsSpec)) sanitizeWordsCard

/-- THE TIED CARD OF 'flaillaw23.ContextSanitized'. -/
def contextSanitizedCard : Claim7 := { stood := { row := contextSanitizedRow, standIns := [], harness := (true, "b2b156fa1ff113d479bdf39255affaaabb3a86c71ac37ccbfe27004120eb0a42"), looks := true }, kinds := [], alts := [], laidByText := true, laidKinds := [.data, .data, .data, .data, .sentinel, .sentinel, .pinned], laidTests := true, laidLooks := .later }
def ContextSanitizedCardSaid : Prop := Claim7.holds Tryz.pinned (.plain (OpenSpec.ofChange contextSanitizedSpec)) contextSanitizedCard

/-- THE TIED CARD OF 'flaillaw25.SafeWritten'. -/
def safeWrittenCard : Claim7 := { stood := { row := safeWrittenRow, standIns := [], harness := (true, "b2b156fa1ff113d479bdf39255affaaabb3a86c71ac37ccbfe27004120eb0a42"), looks := true }, kinds := [], alts := [], laidByText := true, laidKinds := [.data, .data, .data, .data, .sentinel, .sentinel, .pinned], laidTests := true, laidLooks := .later }
def SafeWrittenCardSaid : Prop := Claim7.holds Tryz.pinned (.plain (OpenSpec.ofChange safeWrittenSpec)) safeWrittenCard

/-- THE TIED CARD OF 'flaillaw24.RoundsStay'. -/
def roundsStayCard : Claim7 := { stood := { row := roundsStayRow, standIns := [], harness := (true, "b2b156fa1ff113d479bdf39255affaaabb3a86c71ac37ccbfe27004120eb0a42"), looks := true }, kinds := [], alts := [], laidByText := true, laidKinds := [.data, .data, .data, .data, .sentinel, .sentinel, .pinned], laidTests := true, laidLooks := .later }
def RoundsStayCardSaid : Prop := Claim7.holds Tryz.pinned (.plain (OpenSpec.ofChange roundsStaySpec)) roundsStayCard

/-- THE TIED CARD OF 'flaillaw20.ExtractTags'. -/
def extractTagsCard : Claim7 := { stood := { row := extractTagsRow, standIns := [], harness := (true, "b2b156fa1ff113d479bdf39255affaaabb3a86c71ac37ccbfe27004120eb0a42"), looks := true }, kinds := [], alts := [], laidByText := true, laidKinds := [.data, .data, .data, .data, .sentinel, .sentinel, .pinned], laidTests := true, laidLooks := .later }
def ExtractTagsCardSaid : Prop := Claim7.holds Tryz.pinned (.plain (OpenSpec.ofChange extractTagsSpec)) extractTagsCard

/-- THE TIED CARD OF 'flaillaw20.ExtractBlocks'. -/
def extractBlocksCard : Claim7 := { stood := { row := extractBlocksRow, standIns := [], harness := (true, "b2b156fa1ff113d479bdf39255affaaabb3a86c71ac37ccbfe27004120eb0a42"), looks := true }, kinds := [], alts := [], laidByText := true, laidKinds := [.data, .data, .data, .data, .sentinel, .sentinel, .pinned], laidTests := true, laidLooks := .later }
def ExtractBlocksCardSaid : Prop := Claim7.holds Tryz.pinned (.plain (OpenSpec.ofChange extractBlocksSpec)) extractBlocksCard

/-- THE TIED CARD OF 'flaillaw20.ExtractCase'. -/
def extractCaseCard : Claim7 := { stood := { row := extractCaseRow, standIns := [], harness := (true, "b2b156fa1ff113d479bdf39255affaaabb3a86c71ac37ccbfe27004120eb0a42"), looks := true }, kinds := [], alts := [], laidByText := true, laidKinds := [.data, .data, .data, .data, .sentinel, .sentinel, .pinned], laidTests := true, laidLooks := .later }
def ExtractCaseCardSaid : Prop := Claim7.holds Tryz.pinned (.plain (OpenSpec.ofChange extractCaseSpec)) extractCaseCard

/-- THE TIED CARD OF 'flaillaw21.EscapeSigns'. -/
def escapeSignsCard : Claim7 := { stood := { row := escapeSignsRow, standIns := [], harness := (true, "b2b156fa1ff113d479bdf39255affaaabb3a86c71ac37ccbfe27004120eb0a42"), looks := true }, kinds := [], alts := [], laidByText := true, laidKinds := [.data, .data, .data, .data, .sentinel, .sentinel, .pinned], laidTests := true, laidLooks := .later }
def EscapeSignsCardSaid : Prop := Claim7.holds Tryz.pinned (.plain (OpenSpec.ofChange escapeSignsSpec)) escapeSignsCard

/-- THE SECOND FORM's CARD OF 'flaillaw22.SanitizeText'. -/
def sanitizeTextUptoCard : Claim7 := { stood := { row := sanitizeTextUptoRow, standIns := [], harness := (true, "b2b156fa1ff113d479bdf39255affaaabb3a86c71ac37ccbfe27004120eb0a42"), looks := true }, kinds := [], alts := [], laidByText := true, laidKinds := [.data, .data, .data, .data, .sentinel, .sentinel, .pinned], laidTests := true, laidLooks := .later }
def SanitizeTextUptoCardSaid : Prop := Claim7.holds Tryz.pinned (.plain (OpenSpec.upto sanitizeTextSpec)) sanitizeTextUptoCard

/-- THE SECOND FORM's CARD OF 'flaillaw22.SanitizePlain'. -/
def sanitizePlainUptoCard : Claim7 := { stood := { row := sanitizePlainUptoRow, standIns := [], harness := (true, "b2b156fa1ff113d479bdf39255affaaabb3a86c71ac37ccbfe27004120eb0a42"), looks := true }, kinds := [], alts := [], laidByText := true, laidKinds := [.data, .data, .data, .data, .sentinel, .sentinel, .pinned], laidTests := true, laidLooks := .later }
def SanitizePlainUptoCardSaid : Prop := Claim7.holds Tryz.pinned (.plain (OpenSpec.upto sanitizePlainSpec)) sanitizePlainUptoCard

/-- THE SECOND FORM's CARD OF 'flaillaw22.SanitizeAlike'. -/
def sanitizeAlikeUptoCard : Claim7 := { stood := { row := sanitizeAlikeUptoRow, standIns := [], harness := (true, "b2b156fa1ff113d479bdf39255affaaabb3a86c71ac37ccbfe27004120eb0a42"), looks := true }, kinds := [], alts := [], laidByText := true, laidKinds := [.data, .data, .data, .data, .sentinel, .sentinel, .pinned], laidTests := true, laidLooks := .later }
def SanitizeAlikeUptoCardSaid : Prop := Claim7.holds Tryz.pinned (.plain (OpenSpec.upto sanitizeAlikeSpec)) sanitizeAlikeUptoCard

/-- THE SECOND FORM's CARD OF 'flaillaw22.SanitizeWords'. -/
def sanitizeWordsUptoCard : Claim7 := { stood := { row := sanitizeWordsUptoRow, standIns := [], harness := (true, "b2b156fa1ff113d479bdf39255affaaabb3a86c71ac37ccbfe27004120eb0a42"), looks := true }, kinds := [], alts := [], laidByText := true, laidKinds := [.data, .data, .data, .data, .sentinel, .sentinel, .pinned], laidTests := true, laidLooks := .later }
def SanitizeWordsUptoCardSaid : Prop := Claim7.holds Tryz.pinned (.plain (OpenSpec.upto sanitizeWordsSpec)) sanitizeWordsUptoCard

/-- THE SECOND FORM's CARD OF 'flaillaw23.ContextSanitized'. -/
def contextSanitizedUptoCard : Claim7 := { stood := { row := contextSanitizedUptoRow, standIns := [], harness := (true, "b2b156fa1ff113d479bdf39255affaaabb3a86c71ac37ccbfe27004120eb0a42"), looks := true }, kinds := [], alts := [], laidByText := true, laidKinds := [.data, .data, .data, .data, .sentinel, .sentinel, .pinned], laidTests := true, laidLooks := .later }
def ContextSanitizedUptoCardSaid : Prop := Claim7.holds Tryz.pinned (.plain (OpenSpec.upto contextSanitizedSpec)) contextSanitizedUptoCard

/-- THE SECOND FORM's CARD OF 'flaillaw25.SafeWritten'. -/
def safeWrittenUptoCard : Claim7 := { stood := { row := safeWrittenUptoRow, standIns := [], harness := (true, "b2b156fa1ff113d479bdf39255affaaabb3a86c71ac37ccbfe27004120eb0a42"), looks := true }, kinds := [], alts := [], laidByText := true, laidKinds := [.data, .data, .data, .data, .sentinel, .sentinel, .pinned], laidTests := true, laidLooks := .later }
def SafeWrittenUptoCardSaid : Prop := Claim7.holds Tryz.pinned (.plain (OpenSpec.upto safeWrittenSpec)) safeWrittenUptoCard

/-- THE SECOND FORM's CARD OF 'flaillaw24.RoundsStay'. -/
def roundsStayUptoCard : Claim7 := { stood := { row := roundsStayUptoRow, standIns := [], harness := (true, "b2b156fa1ff113d479bdf39255affaaabb3a86c71ac37ccbfe27004120eb0a42"), looks := true }, kinds := [], alts := [], laidByText := true, laidKinds := [.data, .data, .data, .data, .sentinel, .sentinel, .pinned], laidTests := true, laidLooks := .later }
def RoundsStayUptoCardSaid : Prop := Claim7.holds Tryz.pinned (.plain (OpenSpec.upto roundsStaySpec)) roundsStayUptoCard

/-- THE SECOND FORM's CARD OF 'flaillaw20.ExtractTags'. -/
def extractTagsUptoCard : Claim7 := { stood := { row := extractTagsUptoRow, standIns := [], harness := (true, "b2b156fa1ff113d479bdf39255affaaabb3a86c71ac37ccbfe27004120eb0a42"), looks := true }, kinds := [], alts := [], laidByText := true, laidKinds := [.data, .data, .data, .data, .sentinel, .sentinel, .pinned], laidTests := true, laidLooks := .later }
def ExtractTagsUptoCardSaid : Prop := Claim7.holds Tryz.pinned (.plain (OpenSpec.upto extractTagsSpec)) extractTagsUptoCard

/-- THE SECOND FORM's CARD OF 'flaillaw20.ExtractBlocks'. -/
def extractBlocksUptoCard : Claim7 := { stood := { row := extractBlocksUptoRow, standIns := [], harness := (true, "b2b156fa1ff113d479bdf39255affaaabb3a86c71ac37ccbfe27004120eb0a42"), looks := true }, kinds := [], alts := [], laidByText := true, laidKinds := [.data, .data, .data, .data, .sentinel, .sentinel, .pinned], laidTests := true, laidLooks := .later }
def ExtractBlocksUptoCardSaid : Prop := Claim7.holds Tryz.pinned (.plain (OpenSpec.upto extractBlocksSpec)) extractBlocksUptoCard

/-- THE SECOND FORM's CARD OF 'flaillaw20.ExtractCase'. -/
def extractCaseUptoCard : Claim7 := { stood := { row := extractCaseUptoRow, standIns := [], harness := (true, "b2b156fa1ff113d479bdf39255affaaabb3a86c71ac37ccbfe27004120eb0a42"), looks := true }, kinds := [], alts := [], laidByText := true, laidKinds := [.data, .data, .data, .data, .sentinel, .sentinel, .pinned], laidTests := true, laidLooks := .later }
def ExtractCaseUptoCardSaid : Prop := Claim7.holds Tryz.pinned (.plain (OpenSpec.upto extractCaseSpec)) extractCaseUptoCard

/-- THE SECOND FORM's CARD OF 'flaillaw21.EscapeSigns'. -/
def escapeSignsUptoCard : Claim7 := { stood := { row := escapeSignsUptoRow, standIns := [], harness := (true, "b2b156fa1ff113d479bdf39255affaaabb3a86c71ac37ccbfe27004120eb0a42"), looks := true }, kinds := [], alts := [], laidByText := true, laidKinds := [.data, .data, .data, .data, .sentinel, .sentinel, .pinned], laidTests := true, laidLooks := .later }
def EscapeSignsUptoCardSaid : Prop := Claim7.holds Tryz.pinned (.plain (OpenSpec.upto escapeSignsSpec)) escapeSignsUptoCard
end Rows
end Go.Proofs.YtclkdmmgibgamaaGreatDoor
