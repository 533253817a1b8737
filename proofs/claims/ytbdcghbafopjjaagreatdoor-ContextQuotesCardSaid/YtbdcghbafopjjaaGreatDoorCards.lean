/-
  DERIVED. GIVEN WITH THE SEED: THE CARDS: each row of YtbdcghbafopjjaaGreatDoorRows.lean that lists a variable, with what it lists TIED to the program's text (the seventh form; the later family's looks); each row that meets fmt, with fmt's text TOLD by the authors' own Lean function (tested against real Go, not proved from fmt's source: count such statements apart). THE CARD IS WHAT COUNTS. Prove the row's statement (the work); the ties are given (YtbdcghbafopjjaaGreatDoorTie.lean); close each card by the builder's one call (the guide's Derived/Test/ToyasCard.lean, 'card_holds'). Laid BY PROGRAM, IN A SANDBOX (cutbox-door.mjs). By AI agents, Wed Nov 11 2026. No macro, syntax, notation, axiom, sorry.
-/
import Derived.Test.YtbdcghbafopjjaaGreatDoorRows
import GoSem.ClaimSeven
namespace Go.Proofs.YtbdcghbafopjjaaGreatDoor
namespace Rows

/-- THE TIED CARD OF 'flaillaw25.SafeData'. -/
def safeDataCard : Claim7 := { stood := { row := safeDataRow, standIns := [], harness := (true, "84a207aee0a2eac9b5cd893b6fe82e2ed384bdcb08120d66f1199e01adbd567d"), looks := true }, kinds := [], alts := [], laidByText := true, laidKinds := [.data, .data, .data, .data, .sentinel, .sentinel, .pinned], laidTests := true, laidLooks := .later }
def SafeDataCardSaid : Prop := Claim7.holds Tryz.pinned (.plain (OpenSpec.ofChange safeDataSpec)) safeDataCard

/-- THE TIED CARD OF 'flaillaw25.SafeRaw'. -/
def safeRawCard : Claim7 := { stood := { row := safeRawRow, standIns := [], harness := (true, "84a207aee0a2eac9b5cd893b6fe82e2ed384bdcb08120d66f1199e01adbd567d"), looks := true }, kinds := [], alts := [], laidByText := true, laidKinds := [.data, .data, .data, .data, .sentinel, .sentinel, .pinned], laidTests := true, laidLooks := .later }
def SafeRawCardSaid : Prop := Claim7.holds Tryz.pinned (.plain (OpenSpec.ofChange safeRawSpec)) safeRawCard

/-- THE TIED CARD OF 'flaillaw23.ContextTells'. -/
def contextTellsCard : Claim7 := { stood := { row := contextTellsRow, standIns := [], harness := (true, "84a207aee0a2eac9b5cd893b6fe82e2ed384bdcb08120d66f1199e01adbd567d"), looks := true }, kinds := [], alts := [], laidByText := true, laidKinds := [.data, .data, .data, .data, .sentinel, .sentinel, .pinned], laidTests := true, laidLooks := .later }
def ContextTellsCardSaid : Prop := Claim7.holds Tryz.pinned (.plain (OpenSpec.ofChange contextTellsSpec)) contextTellsCard

/-- THE TIED CARD OF 'flaillaw23.ContextBreaks'. -/
def contextBreaksCard : Claim7 := { stood := { row := contextBreaksRow, standIns := [], harness := (true, "84a207aee0a2eac9b5cd893b6fe82e2ed384bdcb08120d66f1199e01adbd567d"), looks := true }, kinds := [], alts := [], laidByText := true, laidKinds := [.data, .data, .data, .data, .sentinel, .sentinel, .pinned], laidTests := true, laidLooks := .later }
def ContextBreaksCardSaid : Prop := Claim7.holds Tryz.pinned (.plain (OpenSpec.ofChange contextBreaksSpec)) contextBreaksCard

/-- THE TIED CARD OF 'flaillaw23.ContextPlain'. -/
def contextPlainCard : Claim7 := { stood := { row := contextPlainRow, standIns := [], harness := (true, "84a207aee0a2eac9b5cd893b6fe82e2ed384bdcb08120d66f1199e01adbd567d"), looks := true }, kinds := [], alts := [], laidByText := true, laidKinds := [.data, .data, .data, .data, .sentinel, .sentinel, .pinned], laidTests := true, laidLooks := .later }
def ContextPlainCardSaid : Prop := Claim7.holds Tryz.pinned (.plain (OpenSpec.ofChange contextPlainSpec)) contextPlainCard

/-- THE TIED CARD OF 'flaillaw23.ContextQuotes'. -/
def contextQuotesCard : Claim7 := { stood := { row := contextQuotesRow, standIns := [], harness := (true, "84a207aee0a2eac9b5cd893b6fe82e2ed384bdcb08120d66f1199e01adbd567d"), looks := true }, kinds := [], alts := [], laidByText := true, laidKinds := [.data, .data, .data, .data, .sentinel, .sentinel, .pinned], laidTests := true, laidLooks := .later }
def ContextQuotesCardSaid : Prop := Claim7.holds Tryz.pinned (.plain (OpenSpec.ofChange contextQuotesSpec)) contextQuotesCard

/-- THE TIED CARD OF 'flaillaw23.ContextReads'. -/
def contextReadsCard : Claim7 := { stood := { row := contextReadsRow, standIns := [], harness := (true, "84a207aee0a2eac9b5cd893b6fe82e2ed384bdcb08120d66f1199e01adbd567d"), looks := true }, kinds := [], alts := [], laidByText := true, laidKinds := [.data, .data, .data, .data, .sentinel, .sentinel, .pinned], laidTests := true, laidLooks := .later }
def ContextReadsCardSaid : Prop := Claim7.holds Tryz.pinned (.plain (OpenSpec.ofChange contextReadsSpec)) contextReadsCard

/-- THE SECOND FORM's CARD OF 'flaillaw25.SafeData'. -/
def safeDataUptoCard : Claim7 := { stood := { row := safeDataUptoRow, standIns := [], harness := (true, "84a207aee0a2eac9b5cd893b6fe82e2ed384bdcb08120d66f1199e01adbd567d"), looks := true }, kinds := [], alts := [], laidByText := true, laidKinds := [.data, .data, .data, .data, .sentinel, .sentinel, .pinned], laidTests := true, laidLooks := .later }
def SafeDataUptoCardSaid : Prop := Claim7.holds Tryz.pinned (.plain (OpenSpec.upto safeDataSpec)) safeDataUptoCard

/-- THE SECOND FORM's CARD OF 'flaillaw25.SafeRaw'. -/
def safeRawUptoCard : Claim7 := { stood := { row := safeRawUptoRow, standIns := [], harness := (true, "84a207aee0a2eac9b5cd893b6fe82e2ed384bdcb08120d66f1199e01adbd567d"), looks := true }, kinds := [], alts := [], laidByText := true, laidKinds := [.data, .data, .data, .data, .sentinel, .sentinel, .pinned], laidTests := true, laidLooks := .later }
def SafeRawUptoCardSaid : Prop := Claim7.holds Tryz.pinned (.plain (OpenSpec.upto safeRawSpec)) safeRawUptoCard

/-- THE SECOND FORM's CARD OF 'flaillaw23.ContextTells'. -/
def contextTellsUptoCard : Claim7 := { stood := { row := contextTellsUptoRow, standIns := [], harness := (true, "84a207aee0a2eac9b5cd893b6fe82e2ed384bdcb08120d66f1199e01adbd567d"), looks := true }, kinds := [], alts := [], laidByText := true, laidKinds := [.data, .data, .data, .data, .sentinel, .sentinel, .pinned], laidTests := true, laidLooks := .later }
def ContextTellsUptoCardSaid : Prop := Claim7.holds Tryz.pinned (.plain (OpenSpec.upto contextTellsSpec)) contextTellsUptoCard

/-- THE SECOND FORM's CARD OF 'flaillaw23.ContextBreaks'. -/
def contextBreaksUptoCard : Claim7 := { stood := { row := contextBreaksUptoRow, standIns := [], harness := (true, "84a207aee0a2eac9b5cd893b6fe82e2ed384bdcb08120d66f1199e01adbd567d"), looks := true }, kinds := [], alts := [], laidByText := true, laidKinds := [.data, .data, .data, .data, .sentinel, .sentinel, .pinned], laidTests := true, laidLooks := .later }
def ContextBreaksUptoCardSaid : Prop := Claim7.holds Tryz.pinned (.plain (OpenSpec.upto contextBreaksSpec)) contextBreaksUptoCard

/-- THE SECOND FORM's CARD OF 'flaillaw23.ContextPlain'. -/
def contextPlainUptoCard : Claim7 := { stood := { row := contextPlainUptoRow, standIns := [], harness := (true, "84a207aee0a2eac9b5cd893b6fe82e2ed384bdcb08120d66f1199e01adbd567d"), looks := true }, kinds := [], alts := [], laidByText := true, laidKinds := [.data, .data, .data, .data, .sentinel, .sentinel, .pinned], laidTests := true, laidLooks := .later }
def ContextPlainUptoCardSaid : Prop := Claim7.holds Tryz.pinned (.plain (OpenSpec.upto contextPlainSpec)) contextPlainUptoCard

/-- THE SECOND FORM's CARD OF 'flaillaw23.ContextQuotes'. -/
def contextQuotesUptoCard : Claim7 := { stood := { row := contextQuotesUptoRow, standIns := [], harness := (true, "84a207aee0a2eac9b5cd893b6fe82e2ed384bdcb08120d66f1199e01adbd567d"), looks := true }, kinds := [], alts := [], laidByText := true, laidKinds := [.data, .data, .data, .data, .sentinel, .sentinel, .pinned], laidTests := true, laidLooks := .later }
def ContextQuotesUptoCardSaid : Prop := Claim7.holds Tryz.pinned (.plain (OpenSpec.upto contextQuotesSpec)) contextQuotesUptoCard

/-- THE SECOND FORM's CARD OF 'flaillaw23.ContextReads'. -/
def contextReadsUptoCard : Claim7 := { stood := { row := contextReadsUptoRow, standIns := [], harness := (true, "84a207aee0a2eac9b5cd893b6fe82e2ed384bdcb08120d66f1199e01adbd567d"), looks := true }, kinds := [], alts := [], laidByText := true, laidKinds := [.data, .data, .data, .data, .sentinel, .sentinel, .pinned], laidTests := true, laidLooks := .later }
def ContextReadsUptoCardSaid : Prop := Claim7.holds Tryz.pinned (.plain (OpenSpec.upto contextReadsSpec)) contextReadsUptoCard
end Rows
end Go.Proofs.YtbdcghbafopjjaaGreatDoor
