/-
  DERIVED. GIVEN WITH THE SEED: THE CARDS: each row of YtppaobgccdlccaaDoorRows.lean that lists a variable, with what it lists TIED to the program's text (the seventh form; the later family's looks); each row that meets fmt, with fmt's text TOLD by the authors' own Lean function (tested against real Go, not proved from fmt's source: count such statements apart). THE CARD IS WHAT COUNTS. Prove the row's statement (the work); the ties are given (YtppaobgccdlccaaDoorTie.lean); close each card by the builder's one call (the guide's Derived/Test/ToyasCard.lean, 'card_holds'). Laid BY PROGRAM, IN A SANDBOX (cutbox-door.mjs). By AI agents, Wed Nov 11 2026. No macro, syntax, notation, axiom, sorry.
-/
import Derived.Test.YtppaobgccdlccaaDoorRows
import GoSem.ClaimSeven
namespace Go.Proofs.YtppaobgccdlccaaDoor
namespace Rows

/-- THE TIED CARD OF 'flaillaw02.LinesTells'. -/
def linesTellsCard : Claim7 := { stood := { row := linesTellsRow, standIns := [], harness := (true, "7b303ddfa3dcfa7ccec10b205b027f1f30506c86fb538e1ae7125d1fe7acef0b"), looks := true }, kinds := [], alts := [], laidByText := true, laidKinds := [.data, .pinned], laidTests := true, laidLooks := .later }
def LinesTellsCardSaid : Prop := Claim7.holds Tryd.pinned (.plain (OpenSpec.ofChange linesTellsSpec)) linesTellsCard

/-- THE TIED CARD OF 'flaillaw02.LinesOnce'. -/
def linesOnceCard : Claim7 := { stood := { row := linesOnceRow, standIns := [], harness := (true, "7b303ddfa3dcfa7ccec10b205b027f1f30506c86fb538e1ae7125d1fe7acef0b"), looks := true }, kinds := [], alts := [], laidByText := true, laidKinds := [.data, .pinned], laidTests := true, laidLooks := .later }
def LinesOnceCardSaid : Prop := Claim7.holds Tryd.pinned (.plain (OpenSpec.ofChange linesOnceSpec)) linesOnceCard

/-- THE TIED CARD OF 'flaillaw02.LinesJoins'. -/
def linesJoinsCard : Claim7 := { stood := { row := linesJoinsRow, standIns := [], harness := (true, "7b303ddfa3dcfa7ccec10b205b027f1f30506c86fb538e1ae7125d1fe7acef0b"), looks := true }, kinds := [], alts := [], laidByText := true, laidKinds := [.data, .pinned], laidTests := true, laidLooks := .later }
def LinesJoinsCardSaid : Prop := Claim7.holds Tryd.pinned (.plain (OpenSpec.ofChange linesJoinsSpec)) linesJoinsCard

/-- THE TIED CARD OF 'flaillaw02.LinesCounts'. -/
def linesCountsCard : Claim7 := { stood := { row := linesCountsRow, standIns := [], harness := (true, "7b303ddfa3dcfa7ccec10b205b027f1f30506c86fb538e1ae7125d1fe7acef0b"), looks := true }, kinds := [], alts := [], laidByText := true, laidKinds := [.data, .pinned], laidTests := true, laidLooks := .later }
def LinesCountsCardSaid : Prop := Claim7.holds Tryd.pinned (.plain (OpenSpec.ofChange linesCountsSpec)) linesCountsCard

/-- THE TIED CARD OF 'flaillaw02.LinesKeep'. -/
def linesKeepCard : Claim7 := { stood := { row := linesKeepRow, standIns := [], harness := (true, "7b303ddfa3dcfa7ccec10b205b027f1f30506c86fb538e1ae7125d1fe7acef0b"), looks := true }, kinds := [], alts := [], laidByText := true, laidKinds := [.data, .pinned], laidTests := true, laidLooks := .later }
def LinesKeepCardSaid : Prop := Claim7.holds Tryd.pinned (.plain (OpenSpec.ofChange linesKeepSpec)) linesKeepCard

/-- THE TIED CARD OF 'flaillaw13.ScriptFinds'. -/
def scriptFindsCard : Claim7 := { stood := { row := scriptFindsRow, standIns := [], harness := (true, "7b303ddfa3dcfa7ccec10b205b027f1f30506c86fb538e1ae7125d1fe7acef0b"), looks := true }, kinds := [], alts := [], laidByText := true, laidKinds := [.data, .pinned], laidTests := true, laidLooks := .later }
def ScriptFindsCardSaid : Prop := Claim7.holds Tryd.pinned (.plain (OpenSpec.ofChange scriptFindsSpec)) scriptFindsCard

/-- THE TIED CARD OF 'flaillaw13.ScriptWithin'. -/
def scriptWithinCard : Claim7 := { stood := { row := scriptWithinRow, standIns := [], harness := (true, "7b303ddfa3dcfa7ccec10b205b027f1f30506c86fb538e1ae7125d1fe7acef0b"), looks := true }, kinds := [], alts := [], laidByText := true, laidKinds := [.data, .pinned], laidTests := true, laidLooks := .later }
def ScriptWithinCardSaid : Prop := Claim7.holds Tryd.pinned (.plain (OpenSpec.ofChange scriptWithinSpec)) scriptWithinCard

/-- THE TIED CARD OF 'flaillaw13.ScriptRest'. -/
def scriptRestCard : Claim7 := { stood := { row := scriptRestRow, standIns := [], harness := (true, "7b303ddfa3dcfa7ccec10b205b027f1f30506c86fb538e1ae7125d1fe7acef0b"), looks := true }, kinds := [], alts := [], laidByText := true, laidKinds := [.data, .pinned], laidTests := true, laidLooks := .later }
def ScriptRestCardSaid : Prop := Claim7.holds Tryd.pinned (.plain (OpenSpec.ofChange scriptRestSpec)) scriptRestCard

/-- THE TIED CARD OF 'flaillaw13.ScriptCase'. -/
def scriptCaseCard : Claim7 := { stood := { row := scriptCaseRow, standIns := [], harness := (true, "7b303ddfa3dcfa7ccec10b205b027f1f30506c86fb538e1ae7125d1fe7acef0b"), looks := true }, kinds := [], alts := [], laidByText := true, laidKinds := [.data, .pinned], laidTests := true, laidLooks := .later }
def ScriptCaseCardSaid : Prop := Claim7.holds Tryd.pinned (.plain (OpenSpec.ofChange scriptCaseSpec)) scriptCaseCard

/-- THE TIED CARD OF 'flaillaw10.CommentReads'. -/
def commentReadsCard : Claim7 := { stood := { row := commentReadsRow, standIns := [], harness := (true, "7b303ddfa3dcfa7ccec10b205b027f1f30506c86fb538e1ae7125d1fe7acef0b"), looks := true }, kinds := [], alts := [], laidByText := true, laidKinds := [.data, .pinned], laidTests := true, laidLooks := .later }
def CommentReadsCardSaid : Prop := Claim7.holds Tryd.pinned (.plain (OpenSpec.ofChange commentReadsSpec)) commentReadsCard

/-- THE TIED CARD OF 'flaillaw10.CommentEnds'. -/
def commentEndsCard : Claim7 := { stood := { row := commentEndsRow, standIns := [], harness := (true, "7b303ddfa3dcfa7ccec10b205b027f1f30506c86fb538e1ae7125d1fe7acef0b"), looks := true }, kinds := [], alts := [], laidByText := true, laidKinds := [.data, .pinned], laidTests := true, laidLooks := .later }
def CommentEndsCardSaid : Prop := Claim7.holds Tryd.pinned (.plain (OpenSpec.ofChange commentEndsSpec)) commentEndsCard

/-- THE TIED CARD OF 'flaillaw10.CommentBogus'. -/
def commentBogusCard : Claim7 := { stood := { row := commentBogusRow, standIns := [], harness := (true, "7b303ddfa3dcfa7ccec10b205b027f1f30506c86fb538e1ae7125d1fe7acef0b"), looks := true }, kinds := [], alts := [], laidByText := true, laidKinds := [.data, .pinned], laidTests := true, laidLooks := .later }
def CommentBogusCardSaid : Prop := Claim7.holds Tryd.pinned (.plain (OpenSpec.ofChange commentBogusSpec)) commentBogusCard

/-- THE TIED CARD OF 'flaillaw10.CommentRest'. -/
def commentRestCard : Claim7 := { stood := { row := commentRestRow, standIns := [], harness := (true, "7b303ddfa3dcfa7ccec10b205b027f1f30506c86fb538e1ae7125d1fe7acef0b"), looks := true }, kinds := [], alts := [], laidByText := true, laidKinds := [.data, .pinned], laidTests := true, laidLooks := .later }
def CommentRestCardSaid : Prop := Claim7.holds Tryd.pinned (.plain (OpenSpec.ofChange commentRestSpec)) commentRestCard

/-- THE TIED CARD OF 'flaillaw10.CommentOpen'. -/
def commentOpenCard : Claim7 := { stood := { row := commentOpenRow, standIns := [], harness := (true, "7b303ddfa3dcfa7ccec10b205b027f1f30506c86fb538e1ae7125d1fe7acef0b"), looks := true }, kinds := [], alts := [], laidByText := true, laidKinds := [.data, .pinned], laidTests := true, laidLooks := .later }
def CommentOpenCardSaid : Prop := Claim7.holds Tryd.pinned (.plain (OpenSpec.ofChange commentOpenSpec)) commentOpenCard

/-- THE TIED CARD OF 'flaillaw13.ScriptPlain'. -/
def scriptPlainCard : Claim7 := { stood := { row := scriptPlainRow, standIns := [], harness := (true, "7b303ddfa3dcfa7ccec10b205b027f1f30506c86fb538e1ae7125d1fe7acef0b"), looks := true }, kinds := [], alts := [], laidByText := true, laidKinds := [.data, .pinned], laidTests := true, laidLooks := .later }
def ScriptPlainCardSaid : Prop := Claim7.holds Tryd.pinned (.plain (OpenSpec.ofChange scriptPlainSpec)) scriptPlainCard

/-- THE TIED CARD OF 'flaillaw13.ScriptEnds'. -/
def scriptEndsCard : Claim7 := { stood := { row := scriptEndsRow, standIns := [], harness := (true, "7b303ddfa3dcfa7ccec10b205b027f1f30506c86fb538e1ae7125d1fe7acef0b"), looks := true }, kinds := [], alts := [], laidByText := true, laidKinds := [.data, .pinned], laidTests := true, laidLooks := .later }
def ScriptEndsCardSaid : Prop := Claim7.holds Tryd.pinned (.plain (OpenSpec.ofChange scriptEndsSpec)) scriptEndsCard

/-- THE TIED CARD OF 'flaillaw11.DoctypeReads'. -/
def doctypeReadsCard : Claim7 := { stood := { row := doctypeReadsRow, standIns := [], harness := (true, "7b303ddfa3dcfa7ccec10b205b027f1f30506c86fb538e1ae7125d1fe7acef0b"), looks := true }, kinds := [], alts := [], laidByText := true, laidKinds := [.data, .pinned], laidTests := true, laidLooks := .later }
def DoctypeReadsCardSaid : Prop := Claim7.holds Tryd.pinned (.plain (OpenSpec.ofChange doctypeReadsSpec)) doctypeReadsCard

/-- THE TIED CARD OF 'flaillaw11.DoctypeParses'. -/
def doctypeParsesCard : Claim7 := { stood := { row := doctypeParsesRow, standIns := [], harness := (true, "7b303ddfa3dcfa7ccec10b205b027f1f30506c86fb538e1ae7125d1fe7acef0b"), looks := true }, kinds := [], alts := [], laidByText := true, laidKinds := [.data, .pinned], laidTests := true, laidLooks := .later }
def DoctypeParsesCardSaid : Prop := Claim7.holds Tryd.pinned (.plain (OpenSpec.ofChange doctypeParsesSpec)) doctypeParsesCard

/-- THE TIED CARD OF 'flaillaw11.DoctypeSays'. -/
def doctypeSaysCard : Claim7 := { stood := { row := doctypeSaysRow, standIns := [], harness := (true, "7b303ddfa3dcfa7ccec10b205b027f1f30506c86fb538e1ae7125d1fe7acef0b"), looks := true }, kinds := [], alts := [], laidByText := true, laidKinds := [.data, .pinned], laidTests := true, laidLooks := .later }
def DoctypeSaysCardSaid : Prop := Claim7.holds Tryd.pinned (.plain (OpenSpec.ofChange doctypeSaysSpec)) doctypeSaysCard

/-- THE TIED CARD OF 'flaillaw11.DoctypeWritten'. -/
def doctypeWrittenCard : Claim7 := { stood := { row := doctypeWrittenRow, standIns := [], harness := (true, "7b303ddfa3dcfa7ccec10b205b027f1f30506c86fb538e1ae7125d1fe7acef0b"), looks := true }, kinds := [], alts := [], laidByText := true, laidKinds := [.data, .pinned], laidTests := true, laidLooks := .later }
def DoctypeWrittenCardSaid : Prop := Claim7.holds Tryd.pinned (.plain (OpenSpec.ofChange doctypeWrittenSpec)) doctypeWrittenCard

/-- THE TIED CARD OF 'flaillaw11.DoctypeRest'. -/
def doctypeRestCard : Claim7 := { stood := { row := doctypeRestRow, standIns := [], harness := (true, "7b303ddfa3dcfa7ccec10b205b027f1f30506c86fb538e1ae7125d1fe7acef0b"), looks := true }, kinds := [], alts := [], laidByText := true, laidKinds := [.data, .pinned], laidTests := true, laidLooks := .later }
def DoctypeRestCardSaid : Prop := Claim7.holds Tryd.pinned (.plain (OpenSpec.ofChange doctypeRestSpec)) doctypeRestCard

/-- THE TIED CARD OF 'flaillaw11.DoctypeCase'. -/
def doctypeCaseCard : Claim7 := { stood := { row := doctypeCaseRow, standIns := [], harness := (true, "7b303ddfa3dcfa7ccec10b205b027f1f30506c86fb538e1ae7125d1fe7acef0b"), looks := true }, kinds := [], alts := [], laidByText := true, laidKinds := [.data, .pinned], laidTests := true, laidLooks := .later }
def DoctypeCaseCardSaid : Prop := Claim7.holds Tryd.pinned (.plain (OpenSpec.ofChange doctypeCaseSpec)) doctypeCaseCard

/-- THE TIED CARD OF 'flaillaw21.EscapeBytes'. -/
def escapeBytesCard : Claim7 := { stood := { row := escapeBytesRow, standIns := [], harness := (true, "7b303ddfa3dcfa7ccec10b205b027f1f30506c86fb538e1ae7125d1fe7acef0b"), looks := true }, kinds := [], alts := [], laidByText := true, laidKinds := [.data, .pinned], laidTests := true, laidLooks := .later }
def EscapeBytesCardSaid : Prop := Claim7.holds Tryd.pinned (.plain (OpenSpec.ofChange escapeBytesSpec)) escapeBytesCard

/-- THE SECOND FORM's CARD OF 'flaillaw02.LinesTells'. -/
def linesTellsUptoCard : Claim7 := { stood := { row := linesTellsUptoRow, standIns := [], harness := (true, "7b303ddfa3dcfa7ccec10b205b027f1f30506c86fb538e1ae7125d1fe7acef0b"), looks := true }, kinds := [], alts := [], laidByText := true, laidKinds := [.data, .pinned], laidTests := true, laidLooks := .later }
def LinesTellsUptoCardSaid : Prop := Claim7.holds Tryd.pinned (.plain (OpenSpec.upto linesTellsSpec)) linesTellsUptoCard

/-- THE SECOND FORM's CARD OF 'flaillaw02.LinesOnce'. -/
def linesOnceUptoCard : Claim7 := { stood := { row := linesOnceUptoRow, standIns := [], harness := (true, "7b303ddfa3dcfa7ccec10b205b027f1f30506c86fb538e1ae7125d1fe7acef0b"), looks := true }, kinds := [], alts := [], laidByText := true, laidKinds := [.data, .pinned], laidTests := true, laidLooks := .later }
def LinesOnceUptoCardSaid : Prop := Claim7.holds Tryd.pinned (.plain (OpenSpec.upto linesOnceSpec)) linesOnceUptoCard

/-- THE SECOND FORM's CARD OF 'flaillaw02.LinesJoins'. -/
def linesJoinsUptoCard : Claim7 := { stood := { row := linesJoinsUptoRow, standIns := [], harness := (true, "7b303ddfa3dcfa7ccec10b205b027f1f30506c86fb538e1ae7125d1fe7acef0b"), looks := true }, kinds := [], alts := [], laidByText := true, laidKinds := [.data, .pinned], laidTests := true, laidLooks := .later }
def LinesJoinsUptoCardSaid : Prop := Claim7.holds Tryd.pinned (.plain (OpenSpec.upto linesJoinsSpec)) linesJoinsUptoCard

/-- THE SECOND FORM's CARD OF 'flaillaw02.LinesCounts'. -/
def linesCountsUptoCard : Claim7 := { stood := { row := linesCountsUptoRow, standIns := [], harness := (true, "7b303ddfa3dcfa7ccec10b205b027f1f30506c86fb538e1ae7125d1fe7acef0b"), looks := true }, kinds := [], alts := [], laidByText := true, laidKinds := [.data, .pinned], laidTests := true, laidLooks := .later }
def LinesCountsUptoCardSaid : Prop := Claim7.holds Tryd.pinned (.plain (OpenSpec.upto linesCountsSpec)) linesCountsUptoCard

/-- THE SECOND FORM's CARD OF 'flaillaw02.LinesKeep'. -/
def linesKeepUptoCard : Claim7 := { stood := { row := linesKeepUptoRow, standIns := [], harness := (true, "7b303ddfa3dcfa7ccec10b205b027f1f30506c86fb538e1ae7125d1fe7acef0b"), looks := true }, kinds := [], alts := [], laidByText := true, laidKinds := [.data, .pinned], laidTests := true, laidLooks := .later }
def LinesKeepUptoCardSaid : Prop := Claim7.holds Tryd.pinned (.plain (OpenSpec.upto linesKeepSpec)) linesKeepUptoCard

/-- THE SECOND FORM's CARD OF 'flaillaw13.ScriptFinds'. -/
def scriptFindsUptoCard : Claim7 := { stood := { row := scriptFindsUptoRow, standIns := [], harness := (true, "7b303ddfa3dcfa7ccec10b205b027f1f30506c86fb538e1ae7125d1fe7acef0b"), looks := true }, kinds := [], alts := [], laidByText := true, laidKinds := [.data, .pinned], laidTests := true, laidLooks := .later }
def ScriptFindsUptoCardSaid : Prop := Claim7.holds Tryd.pinned (.plain (OpenSpec.upto scriptFindsSpec)) scriptFindsUptoCard

/-- THE SECOND FORM's CARD OF 'flaillaw13.ScriptWithin'. -/
def scriptWithinUptoCard : Claim7 := { stood := { row := scriptWithinUptoRow, standIns := [], harness := (true, "7b303ddfa3dcfa7ccec10b205b027f1f30506c86fb538e1ae7125d1fe7acef0b"), looks := true }, kinds := [], alts := [], laidByText := true, laidKinds := [.data, .pinned], laidTests := true, laidLooks := .later }
def ScriptWithinUptoCardSaid : Prop := Claim7.holds Tryd.pinned (.plain (OpenSpec.upto scriptWithinSpec)) scriptWithinUptoCard

/-- THE SECOND FORM's CARD OF 'flaillaw13.ScriptRest'. -/
def scriptRestUptoCard : Claim7 := { stood := { row := scriptRestUptoRow, standIns := [], harness := (true, "7b303ddfa3dcfa7ccec10b205b027f1f30506c86fb538e1ae7125d1fe7acef0b"), looks := true }, kinds := [], alts := [], laidByText := true, laidKinds := [.data, .pinned], laidTests := true, laidLooks := .later }
def ScriptRestUptoCardSaid : Prop := Claim7.holds Tryd.pinned (.plain (OpenSpec.upto scriptRestSpec)) scriptRestUptoCard

/-- THE SECOND FORM's CARD OF 'flaillaw13.ScriptCase'. -/
def scriptCaseUptoCard : Claim7 := { stood := { row := scriptCaseUptoRow, standIns := [], harness := (true, "7b303ddfa3dcfa7ccec10b205b027f1f30506c86fb538e1ae7125d1fe7acef0b"), looks := true }, kinds := [], alts := [], laidByText := true, laidKinds := [.data, .pinned], laidTests := true, laidLooks := .later }
def ScriptCaseUptoCardSaid : Prop := Claim7.holds Tryd.pinned (.plain (OpenSpec.upto scriptCaseSpec)) scriptCaseUptoCard

/-- THE SECOND FORM's CARD OF 'flaillaw10.CommentReads'. -/
def commentReadsUptoCard : Claim7 := { stood := { row := commentReadsUptoRow, standIns := [], harness := (true, "7b303ddfa3dcfa7ccec10b205b027f1f30506c86fb538e1ae7125d1fe7acef0b"), looks := true }, kinds := [], alts := [], laidByText := true, laidKinds := [.data, .pinned], laidTests := true, laidLooks := .later }
def CommentReadsUptoCardSaid : Prop := Claim7.holds Tryd.pinned (.plain (OpenSpec.upto commentReadsSpec)) commentReadsUptoCard

/-- THE SECOND FORM's CARD OF 'flaillaw10.CommentEnds'. -/
def commentEndsUptoCard : Claim7 := { stood := { row := commentEndsUptoRow, standIns := [], harness := (true, "7b303ddfa3dcfa7ccec10b205b027f1f30506c86fb538e1ae7125d1fe7acef0b"), looks := true }, kinds := [], alts := [], laidByText := true, laidKinds := [.data, .pinned], laidTests := true, laidLooks := .later }
def CommentEndsUptoCardSaid : Prop := Claim7.holds Tryd.pinned (.plain (OpenSpec.upto commentEndsSpec)) commentEndsUptoCard

/-- THE SECOND FORM's CARD OF 'flaillaw10.CommentBogus'. -/
def commentBogusUptoCard : Claim7 := { stood := { row := commentBogusUptoRow, standIns := [], harness := (true, "7b303ddfa3dcfa7ccec10b205b027f1f30506c86fb538e1ae7125d1fe7acef0b"), looks := true }, kinds := [], alts := [], laidByText := true, laidKinds := [.data, .pinned], laidTests := true, laidLooks := .later }
def CommentBogusUptoCardSaid : Prop := Claim7.holds Tryd.pinned (.plain (OpenSpec.upto commentBogusSpec)) commentBogusUptoCard

/-- THE SECOND FORM's CARD OF 'flaillaw10.CommentRest'. -/
def commentRestUptoCard : Claim7 := { stood := { row := commentRestUptoRow, standIns := [], harness := (true, "7b303ddfa3dcfa7ccec10b205b027f1f30506c86fb538e1ae7125d1fe7acef0b"), looks := true }, kinds := [], alts := [], laidByText := true, laidKinds := [.data, .pinned], laidTests := true, laidLooks := .later }
def CommentRestUptoCardSaid : Prop := Claim7.holds Tryd.pinned (.plain (OpenSpec.upto commentRestSpec)) commentRestUptoCard

/-- THE SECOND FORM's CARD OF 'flaillaw10.CommentOpen'. -/
def commentOpenUptoCard : Claim7 := { stood := { row := commentOpenUptoRow, standIns := [], harness := (true, "7b303ddfa3dcfa7ccec10b205b027f1f30506c86fb538e1ae7125d1fe7acef0b"), looks := true }, kinds := [], alts := [], laidByText := true, laidKinds := [.data, .pinned], laidTests := true, laidLooks := .later }
def CommentOpenUptoCardSaid : Prop := Claim7.holds Tryd.pinned (.plain (OpenSpec.upto commentOpenSpec)) commentOpenUptoCard

/-- THE SECOND FORM's CARD OF 'flaillaw13.ScriptPlain'. -/
def scriptPlainUptoCard : Claim7 := { stood := { row := scriptPlainUptoRow, standIns := [], harness := (true, "7b303ddfa3dcfa7ccec10b205b027f1f30506c86fb538e1ae7125d1fe7acef0b"), looks := true }, kinds := [], alts := [], laidByText := true, laidKinds := [.data, .pinned], laidTests := true, laidLooks := .later }
def ScriptPlainUptoCardSaid : Prop := Claim7.holds Tryd.pinned (.plain (OpenSpec.upto scriptPlainSpec)) scriptPlainUptoCard

/-- THE SECOND FORM's CARD OF 'flaillaw13.ScriptEnds'. -/
def scriptEndsUptoCard : Claim7 := { stood := { row := scriptEndsUptoRow, standIns := [], harness := (true, "7b303ddfa3dcfa7ccec10b205b027f1f30506c86fb538e1ae7125d1fe7acef0b"), looks := true }, kinds := [], alts := [], laidByText := true, laidKinds := [.data, .pinned], laidTests := true, laidLooks := .later }
def ScriptEndsUptoCardSaid : Prop := Claim7.holds Tryd.pinned (.plain (OpenSpec.upto scriptEndsSpec)) scriptEndsUptoCard

/-- THE SECOND FORM's CARD OF 'flaillaw11.DoctypeReads'. -/
def doctypeReadsUptoCard : Claim7 := { stood := { row := doctypeReadsUptoRow, standIns := [], harness := (true, "7b303ddfa3dcfa7ccec10b205b027f1f30506c86fb538e1ae7125d1fe7acef0b"), looks := true }, kinds := [], alts := [], laidByText := true, laidKinds := [.data, .pinned], laidTests := true, laidLooks := .later }
def DoctypeReadsUptoCardSaid : Prop := Claim7.holds Tryd.pinned (.plain (OpenSpec.upto doctypeReadsSpec)) doctypeReadsUptoCard

/-- THE SECOND FORM's CARD OF 'flaillaw11.DoctypeParses'. -/
def doctypeParsesUptoCard : Claim7 := { stood := { row := doctypeParsesUptoRow, standIns := [], harness := (true, "7b303ddfa3dcfa7ccec10b205b027f1f30506c86fb538e1ae7125d1fe7acef0b"), looks := true }, kinds := [], alts := [], laidByText := true, laidKinds := [.data, .pinned], laidTests := true, laidLooks := .later }
def DoctypeParsesUptoCardSaid : Prop := Claim7.holds Tryd.pinned (.plain (OpenSpec.upto doctypeParsesSpec)) doctypeParsesUptoCard

/-- THE SECOND FORM's CARD OF 'flaillaw11.DoctypeSays'. -/
def doctypeSaysUptoCard : Claim7 := { stood := { row := doctypeSaysUptoRow, standIns := [], harness := (true, "7b303ddfa3dcfa7ccec10b205b027f1f30506c86fb538e1ae7125d1fe7acef0b"), looks := true }, kinds := [], alts := [], laidByText := true, laidKinds := [.data, .pinned], laidTests := true, laidLooks := .later }
def DoctypeSaysUptoCardSaid : Prop := Claim7.holds Tryd.pinned (.plain (OpenSpec.upto doctypeSaysSpec)) doctypeSaysUptoCard

/-- THE SECOND FORM's CARD OF 'flaillaw11.DoctypeWritten'. -/
def doctypeWrittenUptoCard : Claim7 := { stood := { row := doctypeWrittenUptoRow, standIns := [], harness := (true, "7b303ddfa3dcfa7ccec10b205b027f1f30506c86fb538e1ae7125d1fe7acef0b"), looks := true }, kinds := [], alts := [], laidByText := true, laidKinds := [.data, .pinned], laidTests := true, laidLooks := .later }
def DoctypeWrittenUptoCardSaid : Prop := Claim7.holds Tryd.pinned (.plain (OpenSpec.upto doctypeWrittenSpec)) doctypeWrittenUptoCard

/-- THE SECOND FORM's CARD OF 'flaillaw11.DoctypeRest'. -/
def doctypeRestUptoCard : Claim7 := { stood := { row := doctypeRestUptoRow, standIns := [], harness := (true, "7b303ddfa3dcfa7ccec10b205b027f1f30506c86fb538e1ae7125d1fe7acef0b"), looks := true }, kinds := [], alts := [], laidByText := true, laidKinds := [.data, .pinned], laidTests := true, laidLooks := .later }
def DoctypeRestUptoCardSaid : Prop := Claim7.holds Tryd.pinned (.plain (OpenSpec.upto doctypeRestSpec)) doctypeRestUptoCard

/-- THE SECOND FORM's CARD OF 'flaillaw11.DoctypeCase'. -/
def doctypeCaseUptoCard : Claim7 := { stood := { row := doctypeCaseUptoRow, standIns := [], harness := (true, "7b303ddfa3dcfa7ccec10b205b027f1f30506c86fb538e1ae7125d1fe7acef0b"), looks := true }, kinds := [], alts := [], laidByText := true, laidKinds := [.data, .pinned], laidTests := true, laidLooks := .later }
def DoctypeCaseUptoCardSaid : Prop := Claim7.holds Tryd.pinned (.plain (OpenSpec.upto doctypeCaseSpec)) doctypeCaseUptoCard

/-- THE SECOND FORM's CARD OF 'flaillaw21.EscapeBytes'. -/
def escapeBytesUptoCard : Claim7 := { stood := { row := escapeBytesUptoRow, standIns := [], harness := (true, "7b303ddfa3dcfa7ccec10b205b027f1f30506c86fb538e1ae7125d1fe7acef0b"), looks := true }, kinds := [], alts := [], laidByText := true, laidKinds := [.data, .pinned], laidTests := true, laidLooks := .later }
def EscapeBytesUptoCardSaid : Prop := Claim7.holds Tryd.pinned (.plain (OpenSpec.upto escapeBytesSpec)) escapeBytesUptoCard
end Rows
end Go.Proofs.YtppaobgccdlccaaDoor
