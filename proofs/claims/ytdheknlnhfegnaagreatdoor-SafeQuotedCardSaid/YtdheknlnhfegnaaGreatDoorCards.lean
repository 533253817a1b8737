/-
  DERIVED. GIVEN WITH THE SEED: THE CARDS: each row of YtdheknlnhfegnaaGreatDoorRows.lean that lists a variable, with what it lists TIED to the program's text (the seventh form; the later family's looks); each row that meets fmt, with fmt's text TOLD by the authors' own Lean function (tested against real Go, not proved from fmt's source: count such statements apart). THE CARD IS WHAT COUNTS. Prove the row's statement (the work); the ties are given (YtdheknlnhfegnaaGreatDoorTie.lean); close each card by the builder's one call (the guide's Derived/Test/ToyasCard.lean, 'card_holds'). Laid BY PROGRAM, IN A SANDBOX (cutbox-door.mjs). By AI agents, Wed Nov 11 2026. No macro, syntax, notation, axiom, sorry.
-/
import Derived.Test.YtdheknlnhfegnaaGreatDoorRows
import GoSem.ClaimSeven
namespace Go.Proofs.YtdheknlnhfegnaaGreatDoor
namespace Rows

/-- THE TIED CARD OF 'flaillaw25.SafeQuoted'. -/
def safeQuotedCard : Claim7 := { stood := { row := safeQuotedRow, standIns := [], harness := (true, "ace2b2d04b96ee8ef212776d394ec736c58ba20210986e725d65949ac49eb539"), looks := true }, kinds := [], alts := [], laidByText := true, laidKinds := [.data, .data, .data, .data, .sentinel, .sentinel, .pinned], laidTests := true, laidLooks := .later }
def SafeQuotedCardSaid : Prop := Claim7.holds Tryz.pinned (.plain (OpenSpec.ofChange safeQuotedSpec)) safeQuotedCard

/-- THE TIED CARD OF 'flaillaw21.EscapeBack'. -/
def escapeBackCard : Claim7 := { stood := { row := escapeBackRow, standIns := [], harness := (true, "ace2b2d04b96ee8ef212776d394ec736c58ba20210986e725d65949ac49eb539"), looks := true }, kinds := [], alts := [], laidByText := true, laidKinds := [.data, .data, .data, .data, .sentinel, .sentinel, .pinned], laidTests := true, laidLooks := .later }
def EscapeBackCardSaid : Prop := Claim7.holds Tryz.pinned (.plain (OpenSpec.ofChange escapeBackSpec)) escapeBackCard

/-- THE TIED CARD OF 'flaillaw25.SafeData'. -/
def safeDataCard : Claim7 := { stood := { row := safeDataRow, standIns := [], harness := (true, "ace2b2d04b96ee8ef212776d394ec736c58ba20210986e725d65949ac49eb539"), looks := true }, kinds := [], alts := [], laidByText := true, laidKinds := [.data, .data, .data, .data, .sentinel, .sentinel, .pinned], laidTests := true, laidLooks := .later }
def SafeDataCardSaid : Prop := Claim7.holds Tryz.pinned (.plain (OpenSpec.ofChange safeDataSpec)) safeDataCard

/-- THE SECOND FORM's CARD OF 'flaillaw25.SafeQuoted'. -/
def safeQuotedUptoCard : Claim7 := { stood := { row := safeQuotedUptoRow, standIns := [], harness := (true, "ace2b2d04b96ee8ef212776d394ec736c58ba20210986e725d65949ac49eb539"), looks := true }, kinds := [], alts := [], laidByText := true, laidKinds := [.data, .data, .data, .data, .sentinel, .sentinel, .pinned], laidTests := true, laidLooks := .later }
def SafeQuotedUptoCardSaid : Prop := Claim7.holds Tryz.pinned (.plain (OpenSpec.upto safeQuotedSpec)) safeQuotedUptoCard

/-- THE SECOND FORM's CARD OF 'flaillaw21.EscapeBack'. -/
def escapeBackUptoCard : Claim7 := { stood := { row := escapeBackUptoRow, standIns := [], harness := (true, "ace2b2d04b96ee8ef212776d394ec736c58ba20210986e725d65949ac49eb539"), looks := true }, kinds := [], alts := [], laidByText := true, laidKinds := [.data, .data, .data, .data, .sentinel, .sentinel, .pinned], laidTests := true, laidLooks := .later }
def EscapeBackUptoCardSaid : Prop := Claim7.holds Tryz.pinned (.plain (OpenSpec.upto escapeBackSpec)) escapeBackUptoCard

/-- THE SECOND FORM's CARD OF 'flaillaw25.SafeData'. -/
def safeDataUptoCard : Claim7 := { stood := { row := safeDataUptoRow, standIns := [], harness := (true, "ace2b2d04b96ee8ef212776d394ec736c58ba20210986e725d65949ac49eb539"), looks := true }, kinds := [], alts := [], laidByText := true, laidKinds := [.data, .data, .data, .data, .sentinel, .sentinel, .pinned], laidTests := true, laidLooks := .later }
def SafeDataUptoCardSaid : Prop := Claim7.holds Tryz.pinned (.plain (OpenSpec.upto safeDataSpec)) safeDataUptoCard
end Rows
end Go.Proofs.YtdheknlnhfegnaaGreatDoor
