/-
  DERIVED. GIVEN WITH THE SEED: THE CARDS: each row of YtajfpegacbohdaaDoorRows.lean that lists a variable, with what it lists TIED to the program's text (the seventh form; the later family's looks); each row that meets fmt, with fmt's text TOLD by the authors' own Lean function (tested against real Go, not proved from fmt's source: count such statements apart). THE CARD IS WHAT COUNTS. Prove the row's statement (the work); the ties are given (YtajfpegacbohdaaDoorTie.lean); close each card by the builder's one call (the guide's Derived/Test/ToyasCard.lean, 'card_holds'). Laid BY PROGRAM, IN A SANDBOX (cutbox-door.mjs). By AI agents, Wed Nov 11 2026. No macro, syntax, notation, axiom, sorry.
-/
import Derived.Test.YtajfpegacbohdaaDoorRows
import GoSem.ClaimSeven
namespace Go.Proofs.YtajfpegacbohdaaDoor
namespace Rows

/-- THE TIED CARD OF 'flaillaw11.DoctypeParses'. -/
def doctypeParsesCard : Claim7 := { stood := { row := doctypeParsesRow, standIns := [], harness := (true, "4b6c8b4ab9f23a26677f1aaf6437b8d0c2d49953be8748d53f69450f8fad765a"), looks := true }, kinds := [], alts := [], laidByText := true, laidKinds := [.data, .pinned], laidTests := true, laidLooks := .later }
def DoctypeParsesCardSaid : Prop := Claim7.holds Tryd.pinned (.plain (OpenSpec.ofChange doctypeParsesSpec)) doctypeParsesCard

/-- THE TIED CARD OF 'flaillaw11.DoctypeCase'. -/
def doctypeCaseCard : Claim7 := { stood := { row := doctypeCaseRow, standIns := [], harness := (true, "4b6c8b4ab9f23a26677f1aaf6437b8d0c2d49953be8748d53f69450f8fad765a"), looks := true }, kinds := [], alts := [], laidByText := true, laidKinds := [.data, .pinned], laidTests := true, laidLooks := .later }
def DoctypeCaseCardSaid : Prop := Claim7.holds Tryd.pinned (.plain (OpenSpec.ofChange doctypeCaseSpec)) doctypeCaseCard

/-- THE TIED CARD OF 'flaillaw21.EscapeBytes'. -/
def escapeBytesCard : Claim7 := { stood := { row := escapeBytesRow, standIns := [], harness := (true, "4b6c8b4ab9f23a26677f1aaf6437b8d0c2d49953be8748d53f69450f8fad765a"), looks := true }, kinds := [], alts := [], laidByText := true, laidKinds := [.data, .pinned], laidTests := true, laidLooks := .later }
def EscapeBytesCardSaid : Prop := Claim7.holds Tryd.pinned (.plain (OpenSpec.ofChange escapeBytesSpec)) escapeBytesCard

/-- THE SECOND FORM's CARD OF 'flaillaw11.DoctypeParses'. -/
def doctypeParsesUptoCard : Claim7 := { stood := { row := doctypeParsesUptoRow, standIns := [], harness := (true, "4b6c8b4ab9f23a26677f1aaf6437b8d0c2d49953be8748d53f69450f8fad765a"), looks := true }, kinds := [], alts := [], laidByText := true, laidKinds := [.data, .pinned], laidTests := true, laidLooks := .later }
def DoctypeParsesUptoCardSaid : Prop := Claim7.holds Tryd.pinned (.plain (OpenSpec.upto doctypeParsesSpec)) doctypeParsesUptoCard

/-- THE SECOND FORM's CARD OF 'flaillaw11.DoctypeCase'. -/
def doctypeCaseUptoCard : Claim7 := { stood := { row := doctypeCaseUptoRow, standIns := [], harness := (true, "4b6c8b4ab9f23a26677f1aaf6437b8d0c2d49953be8748d53f69450f8fad765a"), looks := true }, kinds := [], alts := [], laidByText := true, laidKinds := [.data, .pinned], laidTests := true, laidLooks := .later }
def DoctypeCaseUptoCardSaid : Prop := Claim7.holds Tryd.pinned (.plain (OpenSpec.upto doctypeCaseSpec)) doctypeCaseUptoCard

/-- THE SECOND FORM's CARD OF 'flaillaw21.EscapeBytes'. -/
def escapeBytesUptoCard : Claim7 := { stood := { row := escapeBytesUptoRow, standIns := [], harness := (true, "4b6c8b4ab9f23a26677f1aaf6437b8d0c2d49953be8748d53f69450f8fad765a"), looks := true }, kinds := [], alts := [], laidByText := true, laidKinds := [.data, .pinned], laidTests := true, laidLooks := .later }
def EscapeBytesUptoCardSaid : Prop := Claim7.holds Tryd.pinned (.plain (OpenSpec.upto escapeBytesSpec)) escapeBytesUptoCard
end Rows
end Go.Proofs.YtajfpegacbohdaaDoor
