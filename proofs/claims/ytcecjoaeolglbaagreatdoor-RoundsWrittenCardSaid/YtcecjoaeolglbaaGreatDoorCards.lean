/-
  DERIVED. GIVEN WITH THE SEED: THE CARDS: each row of YtcecjoaeolglbaaGreatDoorRows.lean that lists a variable, with what it lists TIED to the program's text (the seventh form; the later family's looks); each row that meets fmt, with fmt's text TOLD by the authors' own Lean function (tested against real Go, not proved from fmt's source: count such statements apart). THE CARD IS WHAT COUNTS. Prove the row's statement (the work); the ties are given (YtcecjoaeolglbaaGreatDoorTie.lean); close each card by the builder's one call (the guide's Derived/Test/ToyasCard.lean, 'card_holds'). Laid BY PROGRAM, IN A SANDBOX (cutbox-door.mjs). By AI agents, Wed Nov 11 2026. No macro, syntax, notation, axiom, sorry.
-/
import Derived.Test.YtcecjoaeolglbaaGreatDoorRows
import GoSem.ClaimSeven
namespace Go.Proofs.YtcecjoaeolglbaaGreatDoor
namespace Rows

/-- THE TIED CARD OF 'flaillaw23.ContextReads'. -/
def contextReadsCard : Claim7 := { stood := { row := contextReadsRow, standIns := [], harness := (true, "7efe9711c70d8b7e0c24dd89c206297d8eb0f876963875cfb4b5acc10c19847e"), looks := true }, kinds := [], alts := [], laidByText := true, laidKinds := [.data, .data, .data, .data, .sentinel, .sentinel, .pinned], laidTests := true, laidLooks := .later }
def ContextReadsCardSaid : Prop := Claim7.holds Tryz.pinned (.plain (OpenSpec.ofChange contextReadsSpec)) contextReadsCard

/-- THE TIED CARD OF 'flaillaw24.RoundsMake'. -/
def roundsMakeCard : Claim7 := { stood := { row := roundsMakeRow, standIns := [], harness := (true, "7efe9711c70d8b7e0c24dd89c206297d8eb0f876963875cfb4b5acc10c19847e"), looks := true }, kinds := [], alts := [], laidByText := true, laidKinds := [.data, .data, .data, .data, .sentinel, .sentinel, .pinned], laidTests := true, laidLooks := .later }
def RoundsMakeCardSaid : Prop := Claim7.holds Tryz.pinned (.plain (OpenSpec.ofChange roundsMakeSpec)) roundsMakeCard

/-- THE TIED CARD OF 'flaillaw24.RoundsOnce'. -/
def roundsOnceCard : Claim7 := { stood := { row := roundsOnceRow, standIns := [], harness := (true, "7efe9711c70d8b7e0c24dd89c206297d8eb0f876963875cfb4b5acc10c19847e"), looks := true }, kinds := [], alts := [], laidByText := true, laidKinds := [.data, .data, .data, .data, .sentinel, .sentinel, .pinned], laidTests := true, laidLooks := .later }
def RoundsOnceCardSaid : Prop := Claim7.holds Tryz.pinned (.plain (OpenSpec.ofChange roundsOnceSpec)) roundsOnceCard

/-- THE TIED CARD OF 'flaillaw24.RoundsWritten'. -/
def roundsWrittenCard : Claim7 := { stood := { row := roundsWrittenRow, standIns := [], harness := (true, "7efe9711c70d8b7e0c24dd89c206297d8eb0f876963875cfb4b5acc10c19847e"), looks := true }, kinds := [], alts := [], laidByText := true, laidKinds := [.data, .data, .data, .data, .sentinel, .sentinel, .pinned], laidTests := true, laidLooks := .later }
def RoundsWrittenCardSaid : Prop := Claim7.holds Tryz.pinned (.plain (OpenSpec.ofChange roundsWrittenSpec)) roundsWrittenCard

/-- THE TIED CARD OF 'flaillaw24.RoundsStay'. -/
def roundsStayCard : Claim7 := { stood := { row := roundsStayRow, standIns := [], harness := (true, "7efe9711c70d8b7e0c24dd89c206297d8eb0f876963875cfb4b5acc10c19847e"), looks := true }, kinds := [], alts := [], laidByText := true, laidKinds := [.data, .data, .data, .data, .sentinel, .sentinel, .pinned], laidTests := true, laidLooks := .later }
def RoundsStayCardSaid : Prop := Claim7.holds Tryz.pinned (.plain (OpenSpec.ofChange roundsStaySpec)) roundsStayCard

/-- THE TIED CARD OF 'flaillaw25.SafeWritten'. -/
def safeWrittenCard : Claim7 := { stood := { row := safeWrittenRow, standIns := [], harness := (true, "7efe9711c70d8b7e0c24dd89c206297d8eb0f876963875cfb4b5acc10c19847e"), looks := true }, kinds := [], alts := [], laidByText := true, laidKinds := [.data, .data, .data, .data, .sentinel, .sentinel, .pinned], laidTests := true, laidLooks := .later }
def SafeWrittenCardSaid : Prop := Claim7.holds Tryz.pinned (.plain (OpenSpec.ofChange safeWrittenSpec)) safeWrittenCard

/-- THE TIED CARD OF 'flaillaw23.ContextSanitized'. -/
def contextSanitizedCard : Claim7 := { stood := { row := contextSanitizedRow, standIns := [], harness := (true, "7efe9711c70d8b7e0c24dd89c206297d8eb0f876963875cfb4b5acc10c19847e"), looks := true }, kinds := [], alts := [], laidByText := true, laidKinds := [.data, .data, .data, .data, .sentinel, .sentinel, .pinned], laidTests := true, laidLooks := .later }
def ContextSanitizedCardSaid : Prop := Claim7.holds Tryz.pinned (.plain (OpenSpec.ofChange contextSanitizedSpec)) contextSanitizedCard

/-- THE TIED CARD OF 'flaillaw22.SanitizePlain'. -/
def sanitizePlainCard : Claim7 := { stood := { row := sanitizePlainRow, standIns := [], harness := (true, "7efe9711c70d8b7e0c24dd89c206297d8eb0f876963875cfb4b5acc10c19847e"), looks := true }, kinds := [], alts := [], laidByText := true, laidKinds := [.data, .data, .data, .data, .sentinel, .sentinel, .pinned], laidTests := true, laidLooks := .later }
def SanitizePlainCardSaid : Prop := Claim7.holds Tryz.pinned (.plain (OpenSpec.ofChange sanitizePlainSpec)) sanitizePlainCard

/-- THE TIED CARD OF 'flaillaw22.SanitizeText'. -/
def sanitizeTextCard : Claim7 := { stood := { row := sanitizeTextRow, standIns := [], harness := (true, "7efe9711c70d8b7e0c24dd89c206297d8eb0f876963875cfb4b5acc10c19847e"), looks := true }, kinds := [], alts := [], laidByText := true, laidKinds := [.data, .data, .data, .data, .sentinel, .sentinel, .pinned], laidTests := true, laidLooks := .later }
def SanitizeTextCardSaid : Prop := Claim7.holds Tryz.pinned (.plain (OpenSpec.ofChange sanitizeTextSpec)) sanitizeTextCard

/-- THE TIED CARD OF 'flaillaw22.SanitizeAlike'. -/
def sanitizeAlikeCard : Claim7 := { stood := { row := sanitizeAlikeRow, standIns := [], harness := (true, "7efe9711c70d8b7e0c24dd89c206297d8eb0f876963875cfb4b5acc10c19847e"), looks := true }, kinds := [], alts := [], laidByText := true, laidKinds := [.data, .data, .data, .data, .sentinel, .sentinel, .pinned], laidTests := true, laidLooks := .later }
def SanitizeAlikeCardSaid : Prop := Claim7.holds Tryz.pinned (.plain (OpenSpec.ofChange sanitizeAlikeSpec)) sanitizeAlikeCard

/-- THE TIED CARD OF 'flaillaw22.SanitizeWords'. -/
def sanitizeWordsCard : Claim7 := { stood := { row := sanitizeWordsRow, standIns := [], harness := (true, "7efe9711c70d8b7e0c24dd89c206297d8eb0f876963875cfb4b5acc10c19847e"), looks := true }, kinds := [], alts := [], laidByText := true, laidKinds := [.data, .data, .data, .data, .sentinel, .sentinel, .pinned], laidTests := true, laidLooks := .later }
def SanitizeWordsCardSaid : Prop := Claim7.holds Tryz.pinned (.plain (OpenSpec.ofChange sanitizeWordsSpec)) sanitizeWordsCard

/-- THE TIED CARD OF 'flaillaw20.ExtractClean'. -/
def extractCleanCard : Claim7 := { stood := { row := extractCleanRow, standIns := [], harness := (true, "7efe9711c70d8b7e0c24dd89c206297d8eb0f876963875cfb4b5acc10c19847e"), looks := true }, kinds := [], alts := [], laidByText := true, laidKinds := [.data, .data, .data, .data, .sentinel, .sentinel, .pinned], laidTests := true, laidLooks := .later }
def ExtractCleanCardSaid : Prop := Claim7.holds Tryz.pinned (.plain (OpenSpec.ofChange extractCleanSpec)) extractCleanCard

/-- THE TIED CARD OF 'flaillaw20.ExtractPlain'. -/
def extractPlainCard : Claim7 := { stood := { row := extractPlainRow, standIns := [], harness := (true, "7efe9711c70d8b7e0c24dd89c206297d8eb0f876963875cfb4b5acc10c19847e"), looks := true }, kinds := [], alts := [], laidByText := true, laidKinds := [.data, .data, .data, .data, .sentinel, .sentinel, .pinned], laidTests := true, laidLooks := .later }
def ExtractPlainCardSaid : Prop := Claim7.holds Tryz.pinned (.plain (OpenSpec.ofChange extractPlainSpec)) extractPlainCard

/-- THE SECOND FORM's CARD OF 'flaillaw23.ContextReads'. -/
def contextReadsUptoCard : Claim7 := { stood := { row := contextReadsUptoRow, standIns := [], harness := (true, "7efe9711c70d8b7e0c24dd89c206297d8eb0f876963875cfb4b5acc10c19847e"), looks := true }, kinds := [], alts := [], laidByText := true, laidKinds := [.data, .data, .data, .data, .sentinel, .sentinel, .pinned], laidTests := true, laidLooks := .later }
def ContextReadsUptoCardSaid : Prop := Claim7.holds Tryz.pinned (.plain (OpenSpec.upto contextReadsSpec)) contextReadsUptoCard

/-- THE SECOND FORM's CARD OF 'flaillaw24.RoundsMake'. -/
def roundsMakeUptoCard : Claim7 := { stood := { row := roundsMakeUptoRow, standIns := [], harness := (true, "7efe9711c70d8b7e0c24dd89c206297d8eb0f876963875cfb4b5acc10c19847e"), looks := true }, kinds := [], alts := [], laidByText := true, laidKinds := [.data, .data, .data, .data, .sentinel, .sentinel, .pinned], laidTests := true, laidLooks := .later }
def RoundsMakeUptoCardSaid : Prop := Claim7.holds Tryz.pinned (.plain (OpenSpec.upto roundsMakeSpec)) roundsMakeUptoCard

/-- THE SECOND FORM's CARD OF 'flaillaw24.RoundsOnce'. -/
def roundsOnceUptoCard : Claim7 := { stood := { row := roundsOnceUptoRow, standIns := [], harness := (true, "7efe9711c70d8b7e0c24dd89c206297d8eb0f876963875cfb4b5acc10c19847e"), looks := true }, kinds := [], alts := [], laidByText := true, laidKinds := [.data, .data, .data, .data, .sentinel, .sentinel, .pinned], laidTests := true, laidLooks := .later }
def RoundsOnceUptoCardSaid : Prop := Claim7.holds Tryz.pinned (.plain (OpenSpec.upto roundsOnceSpec)) roundsOnceUptoCard

/-- THE SECOND FORM's CARD OF 'flaillaw24.RoundsWritten'. -/
def roundsWrittenUptoCard : Claim7 := { stood := { row := roundsWrittenUptoRow, standIns := [], harness := (true, "7efe9711c70d8b7e0c24dd89c206297d8eb0f876963875cfb4b5acc10c19847e"), looks := true }, kinds := [], alts := [], laidByText := true, laidKinds := [.data, .data, .data, .data, .sentinel, .sentinel, .pinned], laidTests := true, laidLooks := .later }
def RoundsWrittenUptoCardSaid : Prop := Claim7.holds Tryz.pinned (.plain (OpenSpec.upto roundsWrittenSpec)) roundsWrittenUptoCard

/-- THE SECOND FORM's CARD OF 'flaillaw24.RoundsStay'. -/
def roundsStayUptoCard : Claim7 := { stood := { row := roundsStayUptoRow, standIns := [], harness := (true, "7efe9711c70d8b7e0c24dd89c206297d8eb0f876963875cfb4b5acc10c19847e"), looks := true }, kinds := [], alts := [], laidByText := true, laidKinds := [.data, .data, .data, .data, .sentinel, .sentinel, .pinned], laidTests := true, laidLooks := .later }
def RoundsStayUptoCardSaid : Prop := Claim7.holds Tryz.pinned (.plain (OpenSpec.upto roundsStaySpec)) roundsStayUptoCard

/-- THE SECOND FORM's CARD OF 'flaillaw25.SafeWritten'. -/
def safeWrittenUptoCard : Claim7 := { stood := { row := safeWrittenUptoRow, standIns := [], harness := (true, "7efe9711c70d8b7e0c24dd89c206297d8eb0f876963875cfb4b5acc10c19847e"), looks := true }, kinds := [], alts := [], laidByText := true, laidKinds := [.data, .data, .data, .data, .sentinel, .sentinel, .pinned], laidTests := true, laidLooks := .later }
def SafeWrittenUptoCardSaid : Prop := Claim7.holds Tryz.pinned (.plain (OpenSpec.upto safeWrittenSpec)) safeWrittenUptoCard

/-- THE SECOND FORM's CARD OF 'flaillaw23.ContextSanitized'. -/
def contextSanitizedUptoCard : Claim7 := { stood := { row := contextSanitizedUptoRow, standIns := [], harness := (true, "7efe9711c70d8b7e0c24dd89c206297d8eb0f876963875cfb4b5acc10c19847e"), looks := true }, kinds := [], alts := [], laidByText := true, laidKinds := [.data, .data, .data, .data, .sentinel, .sentinel, .pinned], laidTests := true, laidLooks := .later }
def ContextSanitizedUptoCardSaid : Prop := Claim7.holds Tryz.pinned (.plain (OpenSpec.upto contextSanitizedSpec)) contextSanitizedUptoCard

/-- THE SECOND FORM's CARD OF 'flaillaw22.SanitizePlain'. -/
def sanitizePlainUptoCard : Claim7 := { stood := { row := sanitizePlainUptoRow, standIns := [], harness := (true, "7efe9711c70d8b7e0c24dd89c206297d8eb0f876963875cfb4b5acc10c19847e"), looks := true }, kinds := [], alts := [], laidByText := true, laidKinds := [.data, .data, .data, .data, .sentinel, .sentinel, .pinned], laidTests := true, laidLooks := .later }
def SanitizePlainUptoCardSaid : Prop := Claim7.holds Tryz.pinned (.plain (OpenSpec.upto sanitizePlainSpec)) sanitizePlainUptoCard

/-- THE SECOND FORM's CARD OF 'flaillaw22.SanitizeText'. -/
def sanitizeTextUptoCard : Claim7 := { stood := { row := sanitizeTextUptoRow, standIns := [], harness := (true, "7efe9711c70d8b7e0c24dd89c206297d8eb0f876963875cfb4b5acc10c19847e"), looks := true }, kinds := [], alts := [], laidByText := true, laidKinds := [.data, .data, .data, .data, .sentinel, .sentinel, .pinned], laidTests := true, laidLooks := .later }
def SanitizeTextUptoCardSaid : Prop := Claim7.holds Tryz.pinned (.plain (OpenSpec.upto sanitizeTextSpec)) sanitizeTextUptoCard

/-- THE SECOND FORM's CARD OF 'flaillaw22.SanitizeAlike'. -/
def sanitizeAlikeUptoCard : Claim7 := { stood := { row := sanitizeAlikeUptoRow, standIns := [], harness := (true, "7efe9711c70d8b7e0c24dd89c206297d8eb0f876963875cfb4b5acc10c19847e"), looks := true }, kinds := [], alts := [], laidByText := true, laidKinds := [.data, .data, .data, .data, .sentinel, .sentinel, .pinned], laidTests := true, laidLooks := .later }
def SanitizeAlikeUptoCardSaid : Prop := Claim7.holds Tryz.pinned (.plain (OpenSpec.upto sanitizeAlikeSpec)) sanitizeAlikeUptoCard

/-- THE SECOND FORM's CARD OF 'flaillaw22.SanitizeWords'. -/
def sanitizeWordsUptoCard : Claim7 := { stood := { row := sanitizeWordsUptoRow, standIns := [], harness := (true, "7efe9711c70d8b7e0c24dd89c206297d8eb0f876963875cfb4b5acc10c19847e"), looks := true }, kinds := [], alts := [], laidByText := true, laidKinds := [.data, .data, .data, .data, .sentinel, .sentinel, .pinned], laidTests := true, laidLooks := .later }
def SanitizeWordsUptoCardSaid : Prop := Claim7.holds Tryz.pinned (.plain (OpenSpec.upto sanitizeWordsSpec)) sanitizeWordsUptoCard

/-- THE SECOND FORM's CARD OF 'flaillaw20.ExtractClean'. -/
def extractCleanUptoCard : Claim7 := { stood := { row := extractCleanUptoRow, standIns := [], harness := (true, "7efe9711c70d8b7e0c24dd89c206297d8eb0f876963875cfb4b5acc10c19847e"), looks := true }, kinds := [], alts := [], laidByText := true, laidKinds := [.data, .data, .data, .data, .sentinel, .sentinel, .pinned], laidTests := true, laidLooks := .later }
def ExtractCleanUptoCardSaid : Prop := Claim7.holds Tryz.pinned (.plain (OpenSpec.upto extractCleanSpec)) extractCleanUptoCard

/-- THE SECOND FORM's CARD OF 'flaillaw20.ExtractPlain'. -/
def extractPlainUptoCard : Claim7 := { stood := { row := extractPlainUptoRow, standIns := [], harness := (true, "7efe9711c70d8b7e0c24dd89c206297d8eb0f876963875cfb4b5acc10c19847e"), looks := true }, kinds := [], alts := [], laidByText := true, laidKinds := [.data, .data, .data, .data, .sentinel, .sentinel, .pinned], laidTests := true, laidLooks := .later }
def ExtractPlainUptoCardSaid : Prop := Claim7.holds Tryz.pinned (.plain (OpenSpec.upto extractPlainSpec)) extractPlainUptoCard
end Rows
end Go.Proofs.YtcecjoaeolglbaaGreatDoor
