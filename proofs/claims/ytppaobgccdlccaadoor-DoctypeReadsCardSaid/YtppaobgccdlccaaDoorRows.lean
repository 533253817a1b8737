/-
  NARROWER THAN 'FOR EVERY INPUT', by the rows' own cells (each row's printed sentence says how): LinesTells: laid · LinesOnce: laid · LinesJoins: laid · LinesCounts: laid · LinesKeep: laid · ScriptFinds: laid · ScriptWithin: laid · ScriptRest: laid · ScriptCase: laid · CommentReads: laid · CommentEnds: laid · CommentBogus: laid · CommentRest: laid · CommentOpen: laid · ScriptPlain: laid · ScriptEnds: laid · DoctypeReads: laid · DoctypeParses: laid · DoctypeSays: laid · DoctypeWritten: laid · DoctypeRest: laid · DoctypeCase: laid · EscapeBytes: laid.
  DERIVED. THE GIVEN ROWS OF THIS SEAT. 23 by the template 'for every input the law returns true; each argument reads behind the call as it read before'; 0 by the template 'total and deterministic' (their statements: YtppaobgccdlccaaDoorTotals.lean).
  GIVEN WITH THE SEED: the statements are not yours to turn. If you find one false, say at which input.
  Laid BY PROGRAM, IN A SANDBOX (cutbox-rows.mjs): the forced cells as the released guide's own fill.sh prints them over the translation 35bf9c630b222c7c… (all of the seat's roots in one cut). By AI agents, Wed Nov 11 2026. No macro, syntax, notation, axiom, sorry.
-/
import Derived.Test.YtppaobgccdlccaaDoorChecked
import GoSem.PinnedTables
import GoSem.Claim
import GoSem.ClaimJoined
import GoSem.ClaimMapViews
import Derived.JoinedTies
import Derived.KernelRfl
namespace Go.Proofs.YtppaobgccdlccaaDoor
/- THE CELL 'sum', in the pinned program and in every row, IS THE sha256 OF THE DUMP (.gsa) THAT YtppaobgccdlccaaDoorProg.lean LOADS. Nothing in Lean hashes anything: it is a label: what it is worth is what the hold of that sum in a sandbox is worth. -/
noncomputable def Tryd.pinned : Pinned := { name := "ytppaobgccdlccaadoor", sum := "35bf9c630b222c7ca1b105ed77172f91a335eb4fafcf62bbf6b21bad93a4e7eb", checked := Tryd.checked }
namespace Rows
def none {H : Type} : Left H := { results := [], args := [] }

/- WHAT THE LISTED PACKAGE-LEVEL VARIABLES READ AS WHEN THE CALL BEGINS. Each datum BY PROGRAM (the guide's laid-datum.mjs) off the statement by which the dump's own 'gosem.cut.vars' lays the variable. In a bare row this is a premise. The card (YtppaobgccdlccaaDoorCards.lean) ties it to the program's text. -/
def laid_unicode_utf8_acceptRanges {H : Type} : DataW H := .agg [.agg [.lit (.int .u8 128), .lit (.int .u8 191)], .agg [.lit (.int .u8 160), .lit (.int .u8 191)], .agg [.lit (.int .u8 128), .lit (.int .u8 159)], .agg [.lit (.int .u8 144), .lit (.int .u8 191)], .agg [.lit (.int .u8 128), .lit (.int .u8 143)], .agg [.lit (.int .u8 0), .lit (.int .u8 0)], .agg [.lit (.int .u8 0), .lit (.int .u8 0)], .agg [.lit (.int .u8 0), .lit (.int .u8 0)], .agg [.lit (.int .u8 0), .lit (.int .u8 0)], .agg [.lit (.int .u8 0), .lit (.int .u8 0)], .agg [.lit (.int .u8 0), .lit (.int .u8 0)], .agg [.lit (.int .u8 0), .lit (.int .u8 0)], .agg [.lit (.int .u8 0), .lit (.int .u8 0)], .agg [.lit (.int .u8 0), .lit (.int .u8 0)], .agg [.lit (.int .u8 0), .lit (.int .u8 0)], .agg [.lit (.int .u8 0), .lit (.int .u8 0)]]
/-- One of Go's own tables, pinned by name: the form's constant. -/
def laid_unicode_utf8_first : DataW Unit := Go.Pinned.utf8First

/-- 'flaillaw02.LinesTells': WHATEVER THE INPUT: true; the input reads as it did. -/
def linesTellsSpec : ChangeSpec := { name := "linesTells", fn := fun _ => fun
  | [d] => { results := [.lit (.bool true)], args := [d] }
  | _ => none }
def linesTellsRow : OpenClaim := { program := "ytppaobgccdlccaadoor", sum := "35bf9c630b222c7ca1b105ed77172f91a335eb4fafcf62bbf6b21bad93a4e7eb", func := "flail/flaillaw02.LinesTells", spec := "linesTells", inPlace := ["internal/abi.NoEscape", "internal/bytealg.CountString", "internal/bytealg.IndexByteString", "internal/bytealg.IndexString", "internal/bytealg.MakeNoZero"], named := ["internal/bytealg.MaxLen", "unicode/utf8.first", "unicode/utf8.acceptRanges"], apart := false, laid := [("unicode/utf8.acceptRanges", laid_unicode_utf8_acceptRanges), ("unicode/utf8.first", laid_unicode_utf8_first)] }
def LinesTellsSaid : Prop := linesTellsRow.holds Tryd.pinned (OpenSpec.ofChange linesTellsSpec)

/-- ITS FALSE NEIGHBOUR: 'it returns false'. Refute it at one input. -/
def linesTellsWrong : ChangeSpec := { name := "linesTells", fn := fun _ => fun
  | [d] => { results := [.lit (.bool false)], args := [d] }
  | _ => none }
def LinesTellsWrongFalsely : Prop := linesTellsRow.holds Tryd.pinned (OpenSpec.ofChange linesTellsWrong)

/-- 'flaillaw02.LinesOnce': WHATEVER THE INPUT: true; the input reads as it did. -/
def linesOnceSpec : ChangeSpec := { name := "linesOnce", fn := fun _ => fun
  | [d] => { results := [.lit (.bool true)], args := [d] }
  | _ => none }
def linesOnceRow : OpenClaim := { program := "ytppaobgccdlccaadoor", sum := "35bf9c630b222c7ca1b105ed77172f91a335eb4fafcf62bbf6b21bad93a4e7eb", func := "flail/flaillaw02.LinesOnce", spec := "linesOnce", inPlace := ["internal/abi.NoEscape", "internal/bytealg.CountString", "internal/bytealg.IndexByteString", "internal/bytealg.IndexString", "internal/bytealg.MakeNoZero"], named := ["internal/bytealg.MaxLen", "unicode/utf8.first", "unicode/utf8.acceptRanges"], apart := false, laid := [("unicode/utf8.acceptRanges", laid_unicode_utf8_acceptRanges), ("unicode/utf8.first", laid_unicode_utf8_first)] }
def LinesOnceSaid : Prop := linesOnceRow.holds Tryd.pinned (OpenSpec.ofChange linesOnceSpec)

/-- ITS FALSE NEIGHBOUR: 'it returns false'. Refute it at one input. -/
def linesOnceWrong : ChangeSpec := { name := "linesOnce", fn := fun _ => fun
  | [d] => { results := [.lit (.bool false)], args := [d] }
  | _ => none }
def LinesOnceWrongFalsely : Prop := linesOnceRow.holds Tryd.pinned (OpenSpec.ofChange linesOnceWrong)

/-- 'flaillaw02.LinesJoins': WHATEVER THE INPUT: true; the input reads as it did. -/
def linesJoinsSpec : ChangeSpec := { name := "linesJoins", fn := fun _ => fun
  | [d1, d2] => { results := [.lit (.bool true)], args := [d1, d2] }
  | _ => none }
def linesJoinsRow : OpenClaim := { program := "ytppaobgccdlccaadoor", sum := "35bf9c630b222c7ca1b105ed77172f91a335eb4fafcf62bbf6b21bad93a4e7eb", func := "flail/flaillaw02.LinesJoins", spec := "linesJoins", inPlace := ["internal/abi.NoEscape", "internal/bytealg.CountString", "internal/bytealg.IndexByteString", "internal/bytealg.IndexString", "internal/bytealg.MakeNoZero"], named := ["internal/bytealg.MaxLen", "unicode/utf8.first", "unicode/utf8.acceptRanges"], apart := false, laid := [("unicode/utf8.acceptRanges", laid_unicode_utf8_acceptRanges), ("unicode/utf8.first", laid_unicode_utf8_first)] }
def LinesJoinsSaid : Prop := linesJoinsRow.holds Tryd.pinned (OpenSpec.ofChange linesJoinsSpec)

/-- ITS FALSE NEIGHBOUR: 'it returns false'. Refute it at one input. -/
def linesJoinsWrong : ChangeSpec := { name := "linesJoins", fn := fun _ => fun
  | [d1, d2] => { results := [.lit (.bool false)], args := [d1, d2] }
  | _ => none }
def LinesJoinsWrongFalsely : Prop := linesJoinsRow.holds Tryd.pinned (OpenSpec.ofChange linesJoinsWrong)

/-- 'flaillaw02.LinesCounts': WHATEVER THE INPUT: true; the input reads as it did. -/
def linesCountsSpec : ChangeSpec := { name := "linesCounts", fn := fun _ => fun
  | [d] => { results := [.lit (.bool true)], args := [d] }
  | _ => none }
def linesCountsRow : OpenClaim := { program := "ytppaobgccdlccaadoor", sum := "35bf9c630b222c7ca1b105ed77172f91a335eb4fafcf62bbf6b21bad93a4e7eb", func := "flail/flaillaw02.LinesCounts", spec := "linesCounts", inPlace := ["internal/abi.NoEscape", "internal/bytealg.CountString", "internal/bytealg.IndexByteString", "internal/bytealg.IndexString", "internal/bytealg.MakeNoZero"], named := ["internal/bytealg.MaxLen", "unicode/utf8.first", "unicode/utf8.acceptRanges"], apart := false, laid := [("unicode/utf8.acceptRanges", laid_unicode_utf8_acceptRanges), ("unicode/utf8.first", laid_unicode_utf8_first)] }
def LinesCountsSaid : Prop := linesCountsRow.holds Tryd.pinned (OpenSpec.ofChange linesCountsSpec)

/-- ITS FALSE NEIGHBOUR: 'it returns false'. Refute it at one input. -/
def linesCountsWrong : ChangeSpec := { name := "linesCounts", fn := fun _ => fun
  | [d] => { results := [.lit (.bool false)], args := [d] }
  | _ => none }
def LinesCountsWrongFalsely : Prop := linesCountsRow.holds Tryd.pinned (OpenSpec.ofChange linesCountsWrong)

/-- 'flaillaw02.LinesKeep': WHATEVER THE INPUT: true; the input reads as it did. -/
def linesKeepSpec : ChangeSpec := { name := "linesKeep", fn := fun _ => fun
  | [d] => { results := [.lit (.bool true)], args := [d] }
  | _ => none }
def linesKeepRow : OpenClaim := { program := "ytppaobgccdlccaadoor", sum := "35bf9c630b222c7ca1b105ed77172f91a335eb4fafcf62bbf6b21bad93a4e7eb", func := "flail/flaillaw02.LinesKeep", spec := "linesKeep", inPlace := ["internal/abi.NoEscape", "internal/bytealg.CountString", "internal/bytealg.IndexByteString", "internal/bytealg.IndexString", "internal/bytealg.MakeNoZero"], named := ["internal/bytealg.MaxLen", "unicode/utf8.first", "unicode/utf8.acceptRanges"], apart := false, laid := [("unicode/utf8.acceptRanges", laid_unicode_utf8_acceptRanges), ("unicode/utf8.first", laid_unicode_utf8_first)] }
def LinesKeepSaid : Prop := linesKeepRow.holds Tryd.pinned (OpenSpec.ofChange linesKeepSpec)

/-- ITS FALSE NEIGHBOUR: 'it returns false'. Refute it at one input. -/
def linesKeepWrong : ChangeSpec := { name := "linesKeep", fn := fun _ => fun
  | [d] => { results := [.lit (.bool false)], args := [d] }
  | _ => none }
def LinesKeepWrongFalsely : Prop := linesKeepRow.holds Tryd.pinned (OpenSpec.ofChange linesKeepWrong)

/-- 'flaillaw13.ScriptFinds': WHATEVER THE INPUT: true; the input reads as it did. -/
def scriptFindsSpec : ChangeSpec := { name := "scriptFinds", fn := fun _ => fun
  | [d1, d2] => { results := [.lit (.bool true)], args := [d1, d2] }
  | _ => none }
def scriptFindsRow : OpenClaim := { program := "ytppaobgccdlccaadoor", sum := "35bf9c630b222c7ca1b105ed77172f91a335eb4fafcf62bbf6b21bad93a4e7eb", func := "flail/flaillaw13.ScriptFinds", spec := "scriptFinds", inPlace := ["internal/bytealg.CountString", "internal/bytealg.IndexByteString", "internal/bytealg.IndexString", "internal/abi.NoEscape", "internal/bytealg.MakeNoZero"], named := ["internal/bytealg.MaxLen", "unicode/utf8.first", "unicode/utf8.acceptRanges"], apart := false, laid := [("unicode/utf8.acceptRanges", laid_unicode_utf8_acceptRanges), ("unicode/utf8.first", laid_unicode_utf8_first)] }
def ScriptFindsSaid : Prop := scriptFindsRow.holds Tryd.pinned (OpenSpec.ofChange scriptFindsSpec)

/-- ITS FALSE NEIGHBOUR: 'it returns false'. Refute it at one input. -/
def scriptFindsWrong : ChangeSpec := { name := "scriptFinds", fn := fun _ => fun
  | [d1, d2] => { results := [.lit (.bool false)], args := [d1, d2] }
  | _ => none }
def ScriptFindsWrongFalsely : Prop := scriptFindsRow.holds Tryd.pinned (OpenSpec.ofChange scriptFindsWrong)

/-- 'flaillaw13.ScriptWithin': WHATEVER THE INPUT: true; the input reads as it did. -/
def scriptWithinSpec : ChangeSpec := { name := "scriptWithin", fn := fun _ => fun
  | [d1, d2, d3] => { results := [.lit (.bool true)], args := [d1, d2, d3] }
  | _ => none }
def scriptWithinRow : OpenClaim := { program := "ytppaobgccdlccaadoor", sum := "35bf9c630b222c7ca1b105ed77172f91a335eb4fafcf62bbf6b21bad93a4e7eb", func := "flail/flaillaw13.ScriptWithin", spec := "scriptWithin", inPlace := ["internal/bytealg.CountString", "internal/bytealg.IndexByteString", "internal/bytealg.IndexString", "internal/abi.NoEscape", "internal/bytealg.MakeNoZero"], named := ["internal/bytealg.MaxLen", "unicode/utf8.first", "unicode/utf8.acceptRanges"], apart := false, laid := [("unicode/utf8.acceptRanges", laid_unicode_utf8_acceptRanges), ("unicode/utf8.first", laid_unicode_utf8_first)] }
def ScriptWithinSaid : Prop := scriptWithinRow.holds Tryd.pinned (OpenSpec.ofChange scriptWithinSpec)

/-- ITS FALSE NEIGHBOUR: 'it returns false'. Refute it at one input. -/
def scriptWithinWrong : ChangeSpec := { name := "scriptWithin", fn := fun _ => fun
  | [d1, d2, d3] => { results := [.lit (.bool false)], args := [d1, d2, d3] }
  | _ => none }
def ScriptWithinWrongFalsely : Prop := scriptWithinRow.holds Tryd.pinned (OpenSpec.ofChange scriptWithinWrong)

/-- 'flaillaw13.ScriptRest': WHATEVER THE INPUT: true; the input reads as it did. -/
def scriptRestSpec : ChangeSpec := { name := "scriptRest", fn := fun _ => fun
  | [d1, d2, d3] => { results := [.lit (.bool true)], args := [d1, d2, d3] }
  | _ => none }
def scriptRestRow : OpenClaim := { program := "ytppaobgccdlccaadoor", sum := "35bf9c630b222c7ca1b105ed77172f91a335eb4fafcf62bbf6b21bad93a4e7eb", func := "flail/flaillaw13.ScriptRest", spec := "scriptRest", inPlace := ["internal/bytealg.CountString", "internal/bytealg.IndexByteString", "internal/bytealg.IndexString", "internal/abi.NoEscape", "internal/bytealg.MakeNoZero"], named := ["internal/bytealg.MaxLen", "unicode/utf8.first", "unicode/utf8.acceptRanges"], apart := false, laid := [("unicode/utf8.acceptRanges", laid_unicode_utf8_acceptRanges), ("unicode/utf8.first", laid_unicode_utf8_first)] }
def ScriptRestSaid : Prop := scriptRestRow.holds Tryd.pinned (OpenSpec.ofChange scriptRestSpec)

/-- ITS FALSE NEIGHBOUR: 'it returns false'. Refute it at one input. -/
def scriptRestWrong : ChangeSpec := { name := "scriptRest", fn := fun _ => fun
  | [d1, d2, d3] => { results := [.lit (.bool false)], args := [d1, d2, d3] }
  | _ => none }
def ScriptRestWrongFalsely : Prop := scriptRestRow.holds Tryd.pinned (OpenSpec.ofChange scriptRestWrong)

/-- 'flaillaw13.ScriptCase': WHATEVER THE INPUT: true; the input reads as it did. -/
def scriptCaseSpec : ChangeSpec := { name := "scriptCase", fn := fun _ => fun
  | [d1, d2] => { results := [.lit (.bool true)], args := [d1, d2] }
  | _ => none }
def scriptCaseRow : OpenClaim := { program := "ytppaobgccdlccaadoor", sum := "35bf9c630b222c7ca1b105ed77172f91a335eb4fafcf62bbf6b21bad93a4e7eb", func := "flail/flaillaw13.ScriptCase", spec := "scriptCase", inPlace := ["internal/bytealg.CountString", "internal/bytealg.IndexByteString", "internal/bytealg.IndexString", "internal/abi.NoEscape", "internal/bytealg.MakeNoZero"], named := ["internal/bytealg.MaxLen", "unicode/utf8.first", "unicode/utf8.acceptRanges"], apart := false, laid := [("unicode/utf8.acceptRanges", laid_unicode_utf8_acceptRanges), ("unicode/utf8.first", laid_unicode_utf8_first)] }
def ScriptCaseSaid : Prop := scriptCaseRow.holds Tryd.pinned (OpenSpec.ofChange scriptCaseSpec)

/-- ITS FALSE NEIGHBOUR: 'it returns false'. Refute it at one input. -/
def scriptCaseWrong : ChangeSpec := { name := "scriptCase", fn := fun _ => fun
  | [d1, d2] => { results := [.lit (.bool false)], args := [d1, d2] }
  | _ => none }
def ScriptCaseWrongFalsely : Prop := scriptCaseRow.holds Tryd.pinned (OpenSpec.ofChange scriptCaseWrong)

/-- 'flaillaw10.CommentReads': WHATEVER THE INPUT: true; the input reads as it did. -/
def commentReadsSpec : ChangeSpec := { name := "commentReads", fn := fun _ => fun
  | [d1, d2] => { results := [.lit (.bool true)], args := [d1, d2] }
  | _ => none }
def commentReadsRow : OpenClaim := { program := "ytppaobgccdlccaadoor", sum := "35bf9c630b222c7ca1b105ed77172f91a335eb4fafcf62bbf6b21bad93a4e7eb", func := "flail/flaillaw10.CommentReads", spec := "commentReads", inPlace := ["internal/bytealg.IndexByteString", "internal/bytealg.IndexString", "internal/bytealg.CountString", "internal/abi.NoEscape", "internal/bytealg.MakeNoZero"], unfollowed := true, recurses := true, named := ["internal/bytealg.MaxLen", "unicode/utf8.first", "unicode/utf8.acceptRanges"], apart := false, laid := [("unicode/utf8.acceptRanges", laid_unicode_utf8_acceptRanges), ("unicode/utf8.first", laid_unicode_utf8_first)] }
def CommentReadsSaid : Prop := commentReadsRow.holds Tryd.pinned (OpenSpec.ofChange commentReadsSpec)

/-- ITS FALSE NEIGHBOUR: 'it returns false'. Refute it at one input. -/
def commentReadsWrong : ChangeSpec := { name := "commentReads", fn := fun _ => fun
  | [d1, d2] => { results := [.lit (.bool false)], args := [d1, d2] }
  | _ => none }
def CommentReadsWrongFalsely : Prop := commentReadsRow.holds Tryd.pinned (OpenSpec.ofChange commentReadsWrong)

/-- 'flaillaw10.CommentEnds': WHATEVER THE INPUT: true; the input reads as it did. -/
def commentEndsSpec : ChangeSpec := { name := "commentEnds", fn := fun _ => fun
  | [d1, d2, d3] => { results := [.lit (.bool true)], args := [d1, d2, d3] }
  | _ => none }
def commentEndsRow : OpenClaim := { program := "ytppaobgccdlccaadoor", sum := "35bf9c630b222c7ca1b105ed77172f91a335eb4fafcf62bbf6b21bad93a4e7eb", func := "flail/flaillaw10.CommentEnds", spec := "commentEnds", inPlace := ["internal/bytealg.IndexByteString", "internal/bytealg.IndexString", "internal/bytealg.CountString", "internal/abi.NoEscape", "internal/bytealg.MakeNoZero"], unfollowed := true, recurses := true, named := ["internal/bytealg.MaxLen", "unicode/utf8.first", "unicode/utf8.acceptRanges"], apart := false, laid := [("unicode/utf8.acceptRanges", laid_unicode_utf8_acceptRanges), ("unicode/utf8.first", laid_unicode_utf8_first)] }
def CommentEndsSaid : Prop := commentEndsRow.holds Tryd.pinned (OpenSpec.ofChange commentEndsSpec)

/-- ITS FALSE NEIGHBOUR: 'it returns false'. Refute it at one input. -/
def commentEndsWrong : ChangeSpec := { name := "commentEnds", fn := fun _ => fun
  | [d1, d2, d3] => { results := [.lit (.bool false)], args := [d1, d2, d3] }
  | _ => none }
def CommentEndsWrongFalsely : Prop := commentEndsRow.holds Tryd.pinned (OpenSpec.ofChange commentEndsWrong)

/-- 'flaillaw10.CommentBogus': WHATEVER THE INPUT: true; the input reads as it did. -/
def commentBogusSpec : ChangeSpec := { name := "commentBogus", fn := fun _ => fun
  | [d1, d2] => { results := [.lit (.bool true)], args := [d1, d2] }
  | _ => none }
def commentBogusRow : OpenClaim := { program := "ytppaobgccdlccaadoor", sum := "35bf9c630b222c7ca1b105ed77172f91a335eb4fafcf62bbf6b21bad93a4e7eb", func := "flail/flaillaw10.CommentBogus", spec := "commentBogus", inPlace := ["internal/bytealg.IndexByteString", "internal/bytealg.IndexString", "internal/bytealg.CountString", "internal/abi.NoEscape", "internal/bytealg.MakeNoZero"], unfollowed := true, recurses := true, named := ["internal/bytealg.MaxLen", "unicode/utf8.first", "unicode/utf8.acceptRanges"], apart := false, laid := [("unicode/utf8.acceptRanges", laid_unicode_utf8_acceptRanges), ("unicode/utf8.first", laid_unicode_utf8_first)] }
def CommentBogusSaid : Prop := commentBogusRow.holds Tryd.pinned (OpenSpec.ofChange commentBogusSpec)

/-- ITS FALSE NEIGHBOUR: 'it returns false'. Refute it at one input. -/
def commentBogusWrong : ChangeSpec := { name := "commentBogus", fn := fun _ => fun
  | [d1, d2] => { results := [.lit (.bool false)], args := [d1, d2] }
  | _ => none }
def CommentBogusWrongFalsely : Prop := commentBogusRow.holds Tryd.pinned (OpenSpec.ofChange commentBogusWrong)

/-- 'flaillaw10.CommentRest': WHATEVER THE INPUT: true; the input reads as it did. -/
def commentRestSpec : ChangeSpec := { name := "commentRest", fn := fun _ => fun
  | [d1, d2] => { results := [.lit (.bool true)], args := [d1, d2] }
  | _ => none }
def commentRestRow : OpenClaim := { program := "ytppaobgccdlccaadoor", sum := "35bf9c630b222c7ca1b105ed77172f91a335eb4fafcf62bbf6b21bad93a4e7eb", func := "flail/flaillaw10.CommentRest", spec := "commentRest", inPlace := ["internal/bytealg.IndexByteString", "internal/bytealg.IndexString", "internal/bytealg.CountString", "internal/abi.NoEscape", "internal/bytealg.MakeNoZero"], unfollowed := true, recurses := true, named := ["internal/bytealg.MaxLen", "unicode/utf8.first", "unicode/utf8.acceptRanges"], apart := false, laid := [("unicode/utf8.acceptRanges", laid_unicode_utf8_acceptRanges), ("unicode/utf8.first", laid_unicode_utf8_first)] }
def CommentRestSaid : Prop := commentRestRow.holds Tryd.pinned (OpenSpec.ofChange commentRestSpec)

/-- ITS FALSE NEIGHBOUR: 'it returns false'. Refute it at one input. -/
def commentRestWrong : ChangeSpec := { name := "commentRest", fn := fun _ => fun
  | [d1, d2] => { results := [.lit (.bool false)], args := [d1, d2] }
  | _ => none }
def CommentRestWrongFalsely : Prop := commentRestRow.holds Tryd.pinned (OpenSpec.ofChange commentRestWrong)

/-- 'flaillaw10.CommentOpen': WHATEVER THE INPUT: true; the input reads as it did. -/
def commentOpenSpec : ChangeSpec := { name := "commentOpen", fn := fun _ => fun
  | [d] => { results := [.lit (.bool true)], args := [d] }
  | _ => none }
def commentOpenRow : OpenClaim := { program := "ytppaobgccdlccaadoor", sum := "35bf9c630b222c7ca1b105ed77172f91a335eb4fafcf62bbf6b21bad93a4e7eb", func := "flail/flaillaw10.CommentOpen", spec := "commentOpen", inPlace := ["internal/bytealg.IndexByteString", "internal/bytealg.IndexString", "internal/bytealg.CountString", "internal/abi.NoEscape", "internal/bytealg.MakeNoZero"], unfollowed := true, recurses := true, named := ["internal/bytealg.MaxLen", "unicode/utf8.first", "unicode/utf8.acceptRanges"], apart := false, laid := [("unicode/utf8.acceptRanges", laid_unicode_utf8_acceptRanges), ("unicode/utf8.first", laid_unicode_utf8_first)] }
def CommentOpenSaid : Prop := commentOpenRow.holds Tryd.pinned (OpenSpec.ofChange commentOpenSpec)

/-- ITS FALSE NEIGHBOUR: 'it returns false'. Refute it at one input. -/
def commentOpenWrong : ChangeSpec := { name := "commentOpen", fn := fun _ => fun
  | [d] => { results := [.lit (.bool false)], args := [d] }
  | _ => none }
def CommentOpenWrongFalsely : Prop := commentOpenRow.holds Tryd.pinned (OpenSpec.ofChange commentOpenWrong)

/-- 'flaillaw13.ScriptPlain': WHATEVER THE INPUT: true; the input reads as it did. -/
def scriptPlainSpec : ChangeSpec := { name := "scriptPlain", fn := fun _ => fun
  | [d1, d2] => { results := [.lit (.bool true)], args := [d1, d2] }
  | _ => none }
def scriptPlainRow : OpenClaim := { program := "ytppaobgccdlccaadoor", sum := "35bf9c630b222c7ca1b105ed77172f91a335eb4fafcf62bbf6b21bad93a4e7eb", func := "flail/flaillaw13.ScriptPlain", spec := "scriptPlain", inPlace := ["internal/bytealg.CountString", "internal/bytealg.IndexByteString", "internal/bytealg.IndexString", "internal/abi.NoEscape", "internal/bytealg.MakeNoZero"], unfollowed := true, recurses := true, named := ["internal/bytealg.MaxLen", "unicode/utf8.first", "unicode/utf8.acceptRanges"], apart := false, laid := [("unicode/utf8.acceptRanges", laid_unicode_utf8_acceptRanges), ("unicode/utf8.first", laid_unicode_utf8_first)] }
def ScriptPlainSaid : Prop := scriptPlainRow.holds Tryd.pinned (OpenSpec.ofChange scriptPlainSpec)

/-- ITS FALSE NEIGHBOUR: 'it returns false'. Refute it at one input. -/
def scriptPlainWrong : ChangeSpec := { name := "scriptPlain", fn := fun _ => fun
  | [d1, d2] => { results := [.lit (.bool false)], args := [d1, d2] }
  | _ => none }
def ScriptPlainWrongFalsely : Prop := scriptPlainRow.holds Tryd.pinned (OpenSpec.ofChange scriptPlainWrong)

/-- 'flaillaw13.ScriptEnds': WHATEVER THE INPUT: true; the input reads as it did. -/
def scriptEndsSpec : ChangeSpec := { name := "scriptEnds", fn := fun _ => fun
  | [d1, d2] => { results := [.lit (.bool true)], args := [d1, d2] }
  | _ => none }
def scriptEndsRow : OpenClaim := { program := "ytppaobgccdlccaadoor", sum := "35bf9c630b222c7ca1b105ed77172f91a335eb4fafcf62bbf6b21bad93a4e7eb", func := "flail/flaillaw13.ScriptEnds", spec := "scriptEnds", inPlace := ["internal/bytealg.CountString", "internal/bytealg.IndexByteString", "internal/bytealg.IndexString", "internal/abi.NoEscape", "internal/bytealg.MakeNoZero"], unfollowed := true, recurses := true, named := ["internal/bytealg.MaxLen", "unicode/utf8.first", "unicode/utf8.acceptRanges"], apart := false, laid := [("unicode/utf8.acceptRanges", laid_unicode_utf8_acceptRanges), ("unicode/utf8.first", laid_unicode_utf8_first)] }
def ScriptEndsSaid : Prop := scriptEndsRow.holds Tryd.pinned (OpenSpec.ofChange scriptEndsSpec)

/-- ITS FALSE NEIGHBOUR: 'it returns false'. Refute it at one input. -/
def scriptEndsWrong : ChangeSpec := { name := "scriptEnds", fn := fun _ => fun
  | [d1, d2] => { results := [.lit (.bool false)], args := [d1, d2] }
  | _ => none }
def ScriptEndsWrongFalsely : Prop := scriptEndsRow.holds Tryd.pinned (OpenSpec.ofChange scriptEndsWrong)

/-- 'flaillaw11.DoctypeReads': WHATEVER THE INPUT: true; the input reads as it did. -/
def doctypeReadsSpec : ChangeSpec := { name := "doctypeReads", fn := fun _ => fun
  | [d1, d2] => { results := [.lit (.bool true)], args := [d1, d2] }
  | _ => none }
def doctypeReadsRow : OpenClaim := { program := "ytppaobgccdlccaadoor", sum := "35bf9c630b222c7ca1b105ed77172f91a335eb4fafcf62bbf6b21bad93a4e7eb", func := "flail/flaillaw11.DoctypeReads", spec := "doctypeReads", inPlace := ["internal/bytealg.IndexByteString", "internal/bytealg.IndexString", "internal/bytealg.CountString", "internal/abi.NoEscape", "internal/bytealg.MakeNoZero"], named := ["internal/bytealg.MaxLen", "unicode/utf8.first", "unicode/utf8.acceptRanges"], apart := false, laid := [("unicode/utf8.acceptRanges", laid_unicode_utf8_acceptRanges), ("unicode/utf8.first", laid_unicode_utf8_first)] }
def DoctypeReadsSaid : Prop := doctypeReadsRow.holds Tryd.pinned (OpenSpec.ofChange doctypeReadsSpec)

/-- ITS FALSE NEIGHBOUR: 'it returns false'. Refute it at one input. -/
def doctypeReadsWrong : ChangeSpec := { name := "doctypeReads", fn := fun _ => fun
  | [d1, d2] => { results := [.lit (.bool false)], args := [d1, d2] }
  | _ => none }
def DoctypeReadsWrongFalsely : Prop := doctypeReadsRow.holds Tryd.pinned (OpenSpec.ofChange doctypeReadsWrong)

/-- 'flaillaw11.DoctypeParses': WHATEVER THE INPUT: true; the input reads as it did. -/
def doctypeParsesSpec : ChangeSpec := { name := "doctypeParses", fn := fun _ => fun
  | [d1, d2] => { results := [.lit (.bool true)], args := [d1, d2] }
  | _ => none }
def doctypeParsesRow : OpenClaim := { program := "ytppaobgccdlccaadoor", sum := "35bf9c630b222c7ca1b105ed77172f91a335eb4fafcf62bbf6b21bad93a4e7eb", func := "flail/flaillaw11.DoctypeParses", spec := "doctypeParses", inPlace := ["internal/bytealg.IndexByteString", "internal/bytealg.IndexString", "internal/bytealg.CountString", "internal/abi.NoEscape", "internal/bytealg.MakeNoZero"], named := ["internal/bytealg.MaxLen", "unicode/utf8.first", "unicode/utf8.acceptRanges"], apart := false, laid := [("unicode/utf8.acceptRanges", laid_unicode_utf8_acceptRanges), ("unicode/utf8.first", laid_unicode_utf8_first)] }
def DoctypeParsesSaid : Prop := doctypeParsesRow.holds Tryd.pinned (OpenSpec.ofChange doctypeParsesSpec)

/-- ITS FALSE NEIGHBOUR: 'it returns false'. Refute it at one input. -/
def doctypeParsesWrong : ChangeSpec := { name := "doctypeParses", fn := fun _ => fun
  | [d1, d2] => { results := [.lit (.bool false)], args := [d1, d2] }
  | _ => none }
def DoctypeParsesWrongFalsely : Prop := doctypeParsesRow.holds Tryd.pinned (OpenSpec.ofChange doctypeParsesWrong)

/-- 'flaillaw11.DoctypeSays': WHATEVER THE INPUT: true; the input reads as it did. -/
def doctypeSaysSpec : ChangeSpec := { name := "doctypeSays", fn := fun _ => fun
  | [d] => { results := [.lit (.bool true)], args := [d] }
  | _ => none }
def doctypeSaysRow : OpenClaim := { program := "ytppaobgccdlccaadoor", sum := "35bf9c630b222c7ca1b105ed77172f91a335eb4fafcf62bbf6b21bad93a4e7eb", func := "flail/flaillaw11.DoctypeSays", spec := "doctypeSays", inPlace := ["internal/bytealg.IndexByteString", "internal/bytealg.IndexString", "internal/bytealg.CountString", "internal/abi.NoEscape", "internal/bytealg.MakeNoZero"], named := ["internal/bytealg.MaxLen", "unicode/utf8.first", "unicode/utf8.acceptRanges"], apart := false, laid := [("unicode/utf8.acceptRanges", laid_unicode_utf8_acceptRanges), ("unicode/utf8.first", laid_unicode_utf8_first)] }
def DoctypeSaysSaid : Prop := doctypeSaysRow.holds Tryd.pinned (OpenSpec.ofChange doctypeSaysSpec)

/-- ITS FALSE NEIGHBOUR: 'it returns false'. Refute it at one input. -/
def doctypeSaysWrong : ChangeSpec := { name := "doctypeSays", fn := fun _ => fun
  | [d] => { results := [.lit (.bool false)], args := [d] }
  | _ => none }
def DoctypeSaysWrongFalsely : Prop := doctypeSaysRow.holds Tryd.pinned (OpenSpec.ofChange doctypeSaysWrong)

/-- 'flaillaw11.DoctypeWritten': WHATEVER THE INPUT: true; the input reads as it did. -/
def doctypeWrittenSpec : ChangeSpec := { name := "doctypeWritten", fn := fun _ => fun
  | [d1, d2, d3, d4, d5] => { results := [.lit (.bool true)], args := [d1, d2, d3, d4, d5] }
  | _ => none }
def doctypeWrittenRow : OpenClaim := { program := "ytppaobgccdlccaadoor", sum := "35bf9c630b222c7ca1b105ed77172f91a335eb4fafcf62bbf6b21bad93a4e7eb", func := "flail/flaillaw11.DoctypeWritten", spec := "doctypeWritten", inPlace := ["internal/bytealg.IndexByteString", "internal/bytealg.IndexString", "internal/bytealg.CountString", "internal/abi.NoEscape", "internal/bytealg.MakeNoZero"], named := ["internal/bytealg.MaxLen", "unicode/utf8.first", "unicode/utf8.acceptRanges"], apart := false, laid := [("unicode/utf8.acceptRanges", laid_unicode_utf8_acceptRanges), ("unicode/utf8.first", laid_unicode_utf8_first)] }
def DoctypeWrittenSaid : Prop := doctypeWrittenRow.holds Tryd.pinned (OpenSpec.ofChange doctypeWrittenSpec)

/-- ITS FALSE NEIGHBOUR: 'it returns false'. Refute it at one input. -/
def doctypeWrittenWrong : ChangeSpec := { name := "doctypeWritten", fn := fun _ => fun
  | [d1, d2, d3, d4, d5] => { results := [.lit (.bool false)], args := [d1, d2, d3, d4, d5] }
  | _ => none }
def DoctypeWrittenWrongFalsely : Prop := doctypeWrittenRow.holds Tryd.pinned (OpenSpec.ofChange doctypeWrittenWrong)

/-- 'flaillaw11.DoctypeRest': WHATEVER THE INPUT: true; the input reads as it did. -/
def doctypeRestSpec : ChangeSpec := { name := "doctypeRest", fn := fun _ => fun
  | [d1, d2] => { results := [.lit (.bool true)], args := [d1, d2] }
  | _ => none }
def doctypeRestRow : OpenClaim := { program := "ytppaobgccdlccaadoor", sum := "35bf9c630b222c7ca1b105ed77172f91a335eb4fafcf62bbf6b21bad93a4e7eb", func := "flail/flaillaw11.DoctypeRest", spec := "doctypeRest", inPlace := ["internal/bytealg.IndexByteString", "internal/bytealg.IndexString", "internal/bytealg.CountString", "internal/abi.NoEscape", "internal/bytealg.MakeNoZero"], named := ["internal/bytealg.MaxLen", "unicode/utf8.first", "unicode/utf8.acceptRanges"], apart := false, laid := [("unicode/utf8.acceptRanges", laid_unicode_utf8_acceptRanges), ("unicode/utf8.first", laid_unicode_utf8_first)] }
def DoctypeRestSaid : Prop := doctypeRestRow.holds Tryd.pinned (OpenSpec.ofChange doctypeRestSpec)

/-- ITS FALSE NEIGHBOUR: 'it returns false'. Refute it at one input. -/
def doctypeRestWrong : ChangeSpec := { name := "doctypeRest", fn := fun _ => fun
  | [d1, d2] => { results := [.lit (.bool false)], args := [d1, d2] }
  | _ => none }
def DoctypeRestWrongFalsely : Prop := doctypeRestRow.holds Tryd.pinned (OpenSpec.ofChange doctypeRestWrong)

/-- 'flaillaw11.DoctypeCase': WHATEVER THE INPUT: true; the input reads as it did. -/
def doctypeCaseSpec : ChangeSpec := { name := "doctypeCase", fn := fun _ => fun
  | [d1, d2] => { results := [.lit (.bool true)], args := [d1, d2] }
  | _ => none }
def doctypeCaseRow : OpenClaim := { program := "ytppaobgccdlccaadoor", sum := "35bf9c630b222c7ca1b105ed77172f91a335eb4fafcf62bbf6b21bad93a4e7eb", func := "flail/flaillaw11.DoctypeCase", spec := "doctypeCase", inPlace := ["internal/bytealg.IndexByteString", "internal/bytealg.IndexString", "internal/bytealg.CountString", "internal/abi.NoEscape", "internal/bytealg.MakeNoZero"], named := ["internal/bytealg.MaxLen", "unicode/utf8.first", "unicode/utf8.acceptRanges"], apart := false, laid := [("unicode/utf8.acceptRanges", laid_unicode_utf8_acceptRanges), ("unicode/utf8.first", laid_unicode_utf8_first)] }
def DoctypeCaseSaid : Prop := doctypeCaseRow.holds Tryd.pinned (OpenSpec.ofChange doctypeCaseSpec)

/-- ITS FALSE NEIGHBOUR: 'it returns false'. Refute it at one input. -/
def doctypeCaseWrong : ChangeSpec := { name := "doctypeCase", fn := fun _ => fun
  | [d1, d2] => { results := [.lit (.bool false)], args := [d1, d2] }
  | _ => none }
def DoctypeCaseWrongFalsely : Prop := doctypeCaseRow.holds Tryd.pinned (OpenSpec.ofChange doctypeCaseWrong)

/-- 'flaillaw21.EscapeBytes': WHATEVER THE INPUT: true; the input reads as it did. -/
def escapeBytesSpec : ChangeSpec := { name := "escapeBytes", fn := fun _ => fun
  | [d1, d2] => { results := [.lit (.bool true)], args := [d1, d2] }
  | _ => none }
def escapeBytesRow : OpenClaim := { program := "ytppaobgccdlccaadoor", sum := "35bf9c630b222c7ca1b105ed77172f91a335eb4fafcf62bbf6b21bad93a4e7eb", func := "flail/flaillaw21.EscapeBytes", spec := "escapeBytes", inPlace := ["sync/atomic.LoadUint32", "(*internal/sync.Mutex).Lock", "internal/race.Disable", "sync/atomic.CompareAndSwapInt32", "internal/race.Enable", "internal/race.Acquire", "(*internal/sync.Mutex).lockSlow", "internal/sync.runtime_canSpin", "internal/sync.runtime_doSpin", "internal/sync.throw", "internal/sync.runtime_nanotime", "internal/sync.runtime_SemacquireMutex", "sync/atomic.AddInt32", "(*internal/sync.Mutex).Unlock", "internal/race.ReleaseMerge", "(*internal/sync.Mutex).unlockSlow", "internal/sync.fatal", "internal/sync.runtime_Semrelease", "sync/atomic.StoreUint32", "internal/abi.NoEscape", "internal/bytealg.CountString", "internal/bytealg.IndexByteString", "internal/bytealg.IndexString", "internal/bytealg.MakeNoZero"], unfollowed := true, recurses := true, named := ["internal/bytealg.MaxLen", "unicode/utf8.first", "unicode/utf8.acceptRanges"], apart := false, laid := [("unicode/utf8.acceptRanges", laid_unicode_utf8_acceptRanges), ("unicode/utf8.first", laid_unicode_utf8_first)] }
def EscapeBytesSaid : Prop := escapeBytesRow.holds Tryd.pinned (OpenSpec.ofChange escapeBytesSpec)

/-- ITS FALSE NEIGHBOUR: 'it returns false'. Refute it at one input. -/
def escapeBytesWrong : ChangeSpec := { name := "escapeBytes", fn := fun _ => fun
  | [d1, d2] => { results := [.lit (.bool false)], args := [d1, d2] }
  | _ => none }
def EscapeBytesWrongFalsely : Prop := escapeBytesRow.holds Tryd.pinned (OpenSpec.ofChange escapeBytesWrong)

/- THE SECOND FORM. 'bulk': how many values and letters a reading holds, each counted each time it is reached (what is shared counts as often as it is met; a slice's spare places count too). A statement '..UptoSaid' is the law's where the arguments, and the package variables that the reading takes, are together of bulk at most 1048576: NARROWER than '..Said'. Prove '..Said' where nothing that the law and all that it calls make is longer than what came in: it says more and counts as full. Else prove '..UptoSaid'. A law counts once. -/
mutual
def uptoBulk {H : Type} : DataW H → Nat
  | .lit (.string bytes) => bytes.length + 1
  | .lit _ => 1
  | .nil => 1
  | .ptr d => uptoBulk d + 1
  | .slice elems spare => uptoBulkAll elems + uptoBulkAll spare + 1
  | .agg parts => uptoBulkAll parts + 1
  | .iface _ d => uptoBulk d + 1
  | .map entries => uptoBulkEntries entries + 1
  | .held _ => 1
def uptoBulkAll {H : Type} : List (DataW H) → Nat
  | [] => 0
  | d :: r => uptoBulk d + uptoBulkAll r
def uptoBulkEntries {H : Type} : List (Lit × DataW H) → Nat
  | [] => 0
  | x :: r => uptoBulkEntry x + uptoBulkEntries r
def uptoBulkEntry {H : Type} : Lit × DataW H → Nat
  | (.string bytes, d) => bytes.length + uptoBulk d + 1
  | (_, d) => uptoBulk d + 1
 end
def uptoSmall : (H : Type) → List (DataW H) → Bool := fun _ ds => decide (uptoBulkAll ds ≤ 1048576)
def OpenSpec.upto (s : _root_.Go.ChangeSpec) : _root_.Go.OpenSpec := { _root_.Go.OpenSpec.ofChange s with cond := some uptoSmall }

/-- 'flaillaw02.LinesTells', WHERE WHAT IT READS IS OF BULK AT MOST 1048576: true; the input reads as it did. -/
def linesTellsUptoRow : OpenClaim := { program := "ytppaobgccdlccaadoor", sum := "35bf9c630b222c7ca1b105ed77172f91a335eb4fafcf62bbf6b21bad93a4e7eb", func := "flail/flaillaw02.LinesTells", spec := "linesTells", inPlace := ["internal/abi.NoEscape", "internal/bytealg.CountString", "internal/bytealg.IndexByteString", "internal/bytealg.IndexString", "internal/bytealg.MakeNoZero"], named := ["internal/bytealg.MaxLen", "unicode/utf8.first", "unicode/utf8.acceptRanges"], apart := false, laid := [("unicode/utf8.acceptRanges", laid_unicode_utf8_acceptRanges), ("unicode/utf8.first", laid_unicode_utf8_first)], narrowed := true }
def LinesTellsUptoSaid : Prop := linesTellsUptoRow.holds Tryd.pinned (OpenSpec.upto linesTellsSpec)

/-- 'flaillaw02.LinesOnce', WHERE WHAT IT READS IS OF BULK AT MOST 1048576: true; the input reads as it did. -/
def linesOnceUptoRow : OpenClaim := { program := "ytppaobgccdlccaadoor", sum := "35bf9c630b222c7ca1b105ed77172f91a335eb4fafcf62bbf6b21bad93a4e7eb", func := "flail/flaillaw02.LinesOnce", spec := "linesOnce", inPlace := ["internal/abi.NoEscape", "internal/bytealg.CountString", "internal/bytealg.IndexByteString", "internal/bytealg.IndexString", "internal/bytealg.MakeNoZero"], named := ["internal/bytealg.MaxLen", "unicode/utf8.first", "unicode/utf8.acceptRanges"], apart := false, laid := [("unicode/utf8.acceptRanges", laid_unicode_utf8_acceptRanges), ("unicode/utf8.first", laid_unicode_utf8_first)], narrowed := true }
def LinesOnceUptoSaid : Prop := linesOnceUptoRow.holds Tryd.pinned (OpenSpec.upto linesOnceSpec)

/-- 'flaillaw02.LinesJoins', WHERE WHAT IT READS IS OF BULK AT MOST 1048576: true; the input reads as it did. -/
def linesJoinsUptoRow : OpenClaim := { program := "ytppaobgccdlccaadoor", sum := "35bf9c630b222c7ca1b105ed77172f91a335eb4fafcf62bbf6b21bad93a4e7eb", func := "flail/flaillaw02.LinesJoins", spec := "linesJoins", inPlace := ["internal/abi.NoEscape", "internal/bytealg.CountString", "internal/bytealg.IndexByteString", "internal/bytealg.IndexString", "internal/bytealg.MakeNoZero"], named := ["internal/bytealg.MaxLen", "unicode/utf8.first", "unicode/utf8.acceptRanges"], apart := false, laid := [("unicode/utf8.acceptRanges", laid_unicode_utf8_acceptRanges), ("unicode/utf8.first", laid_unicode_utf8_first)], narrowed := true }
def LinesJoinsUptoSaid : Prop := linesJoinsUptoRow.holds Tryd.pinned (OpenSpec.upto linesJoinsSpec)

/-- 'flaillaw02.LinesCounts', WHERE WHAT IT READS IS OF BULK AT MOST 1048576: true; the input reads as it did. -/
def linesCountsUptoRow : OpenClaim := { program := "ytppaobgccdlccaadoor", sum := "35bf9c630b222c7ca1b105ed77172f91a335eb4fafcf62bbf6b21bad93a4e7eb", func := "flail/flaillaw02.LinesCounts", spec := "linesCounts", inPlace := ["internal/abi.NoEscape", "internal/bytealg.CountString", "internal/bytealg.IndexByteString", "internal/bytealg.IndexString", "internal/bytealg.MakeNoZero"], named := ["internal/bytealg.MaxLen", "unicode/utf8.first", "unicode/utf8.acceptRanges"], apart := false, laid := [("unicode/utf8.acceptRanges", laid_unicode_utf8_acceptRanges), ("unicode/utf8.first", laid_unicode_utf8_first)], narrowed := true }
def LinesCountsUptoSaid : Prop := linesCountsUptoRow.holds Tryd.pinned (OpenSpec.upto linesCountsSpec)

/-- 'flaillaw02.LinesKeep', WHERE WHAT IT READS IS OF BULK AT MOST 1048576: true; the input reads as it did. -/
def linesKeepUptoRow : OpenClaim := { program := "ytppaobgccdlccaadoor", sum := "35bf9c630b222c7ca1b105ed77172f91a335eb4fafcf62bbf6b21bad93a4e7eb", func := "flail/flaillaw02.LinesKeep", spec := "linesKeep", inPlace := ["internal/abi.NoEscape", "internal/bytealg.CountString", "internal/bytealg.IndexByteString", "internal/bytealg.IndexString", "internal/bytealg.MakeNoZero"], named := ["internal/bytealg.MaxLen", "unicode/utf8.first", "unicode/utf8.acceptRanges"], apart := false, laid := [("unicode/utf8.acceptRanges", laid_unicode_utf8_acceptRanges), ("unicode/utf8.first", laid_unicode_utf8_first)], narrowed := true }
def LinesKeepUptoSaid : Prop := linesKeepUptoRow.holds Tryd.pinned (OpenSpec.upto linesKeepSpec)

/-- 'flaillaw13.ScriptFinds', WHERE WHAT IT READS IS OF BULK AT MOST 1048576: true; the input reads as it did. -/
def scriptFindsUptoRow : OpenClaim := { program := "ytppaobgccdlccaadoor", sum := "35bf9c630b222c7ca1b105ed77172f91a335eb4fafcf62bbf6b21bad93a4e7eb", func := "flail/flaillaw13.ScriptFinds", spec := "scriptFinds", inPlace := ["internal/bytealg.CountString", "internal/bytealg.IndexByteString", "internal/bytealg.IndexString", "internal/abi.NoEscape", "internal/bytealg.MakeNoZero"], named := ["internal/bytealg.MaxLen", "unicode/utf8.first", "unicode/utf8.acceptRanges"], apart := false, laid := [("unicode/utf8.acceptRanges", laid_unicode_utf8_acceptRanges), ("unicode/utf8.first", laid_unicode_utf8_first)], narrowed := true }
def ScriptFindsUptoSaid : Prop := scriptFindsUptoRow.holds Tryd.pinned (OpenSpec.upto scriptFindsSpec)

/-- 'flaillaw13.ScriptWithin', WHERE WHAT IT READS IS OF BULK AT MOST 1048576: true; the input reads as it did. -/
def scriptWithinUptoRow : OpenClaim := { program := "ytppaobgccdlccaadoor", sum := "35bf9c630b222c7ca1b105ed77172f91a335eb4fafcf62bbf6b21bad93a4e7eb", func := "flail/flaillaw13.ScriptWithin", spec := "scriptWithin", inPlace := ["internal/bytealg.CountString", "internal/bytealg.IndexByteString", "internal/bytealg.IndexString", "internal/abi.NoEscape", "internal/bytealg.MakeNoZero"], named := ["internal/bytealg.MaxLen", "unicode/utf8.first", "unicode/utf8.acceptRanges"], apart := false, laid := [("unicode/utf8.acceptRanges", laid_unicode_utf8_acceptRanges), ("unicode/utf8.first", laid_unicode_utf8_first)], narrowed := true }
def ScriptWithinUptoSaid : Prop := scriptWithinUptoRow.holds Tryd.pinned (OpenSpec.upto scriptWithinSpec)

/-- 'flaillaw13.ScriptRest', WHERE WHAT IT READS IS OF BULK AT MOST 1048576: true; the input reads as it did. -/
def scriptRestUptoRow : OpenClaim := { program := "ytppaobgccdlccaadoor", sum := "35bf9c630b222c7ca1b105ed77172f91a335eb4fafcf62bbf6b21bad93a4e7eb", func := "flail/flaillaw13.ScriptRest", spec := "scriptRest", inPlace := ["internal/bytealg.CountString", "internal/bytealg.IndexByteString", "internal/bytealg.IndexString", "internal/abi.NoEscape", "internal/bytealg.MakeNoZero"], named := ["internal/bytealg.MaxLen", "unicode/utf8.first", "unicode/utf8.acceptRanges"], apart := false, laid := [("unicode/utf8.acceptRanges", laid_unicode_utf8_acceptRanges), ("unicode/utf8.first", laid_unicode_utf8_first)], narrowed := true }
def ScriptRestUptoSaid : Prop := scriptRestUptoRow.holds Tryd.pinned (OpenSpec.upto scriptRestSpec)

/-- 'flaillaw13.ScriptCase', WHERE WHAT IT READS IS OF BULK AT MOST 1048576: true; the input reads as it did. -/
def scriptCaseUptoRow : OpenClaim := { program := "ytppaobgccdlccaadoor", sum := "35bf9c630b222c7ca1b105ed77172f91a335eb4fafcf62bbf6b21bad93a4e7eb", func := "flail/flaillaw13.ScriptCase", spec := "scriptCase", inPlace := ["internal/bytealg.CountString", "internal/bytealg.IndexByteString", "internal/bytealg.IndexString", "internal/abi.NoEscape", "internal/bytealg.MakeNoZero"], named := ["internal/bytealg.MaxLen", "unicode/utf8.first", "unicode/utf8.acceptRanges"], apart := false, laid := [("unicode/utf8.acceptRanges", laid_unicode_utf8_acceptRanges), ("unicode/utf8.first", laid_unicode_utf8_first)], narrowed := true }
def ScriptCaseUptoSaid : Prop := scriptCaseUptoRow.holds Tryd.pinned (OpenSpec.upto scriptCaseSpec)

/-- 'flaillaw10.CommentReads', WHERE WHAT IT READS IS OF BULK AT MOST 1048576: true; the input reads as it did. -/
def commentReadsUptoRow : OpenClaim := { program := "ytppaobgccdlccaadoor", sum := "35bf9c630b222c7ca1b105ed77172f91a335eb4fafcf62bbf6b21bad93a4e7eb", func := "flail/flaillaw10.CommentReads", spec := "commentReads", inPlace := ["internal/bytealg.IndexByteString", "internal/bytealg.IndexString", "internal/bytealg.CountString", "internal/abi.NoEscape", "internal/bytealg.MakeNoZero"], unfollowed := true, recurses := true, named := ["internal/bytealg.MaxLen", "unicode/utf8.first", "unicode/utf8.acceptRanges"], apart := false, laid := [("unicode/utf8.acceptRanges", laid_unicode_utf8_acceptRanges), ("unicode/utf8.first", laid_unicode_utf8_first)], narrowed := true }
def CommentReadsUptoSaid : Prop := commentReadsUptoRow.holds Tryd.pinned (OpenSpec.upto commentReadsSpec)

/-- 'flaillaw10.CommentEnds', WHERE WHAT IT READS IS OF BULK AT MOST 1048576: true; the input reads as it did. -/
def commentEndsUptoRow : OpenClaim := { program := "ytppaobgccdlccaadoor", sum := "35bf9c630b222c7ca1b105ed77172f91a335eb4fafcf62bbf6b21bad93a4e7eb", func := "flail/flaillaw10.CommentEnds", spec := "commentEnds", inPlace := ["internal/bytealg.IndexByteString", "internal/bytealg.IndexString", "internal/bytealg.CountString", "internal/abi.NoEscape", "internal/bytealg.MakeNoZero"], unfollowed := true, recurses := true, named := ["internal/bytealg.MaxLen", "unicode/utf8.first", "unicode/utf8.acceptRanges"], apart := false, laid := [("unicode/utf8.acceptRanges", laid_unicode_utf8_acceptRanges), ("unicode/utf8.first", laid_unicode_utf8_first)], narrowed := true }
def CommentEndsUptoSaid : Prop := commentEndsUptoRow.holds Tryd.pinned (OpenSpec.upto commentEndsSpec)

/-- 'flaillaw10.CommentBogus', WHERE WHAT IT READS IS OF BULK AT MOST 1048576: true; the input reads as it did. -/
def commentBogusUptoRow : OpenClaim := { program := "ytppaobgccdlccaadoor", sum := "35bf9c630b222c7ca1b105ed77172f91a335eb4fafcf62bbf6b21bad93a4e7eb", func := "flail/flaillaw10.CommentBogus", spec := "commentBogus", inPlace := ["internal/bytealg.IndexByteString", "internal/bytealg.IndexString", "internal/bytealg.CountString", "internal/abi.NoEscape", "internal/bytealg.MakeNoZero"], unfollowed := true, recurses := true, named := ["internal/bytealg.MaxLen", "unicode/utf8.first", "unicode/utf8.acceptRanges"], apart := false, laid := [("unicode/utf8.acceptRanges", laid_unicode_utf8_acceptRanges), ("unicode/utf8.first", laid_unicode_utf8_first)], narrowed := true }
def CommentBogusUptoSaid : Prop := commentBogusUptoRow.holds Tryd.pinned (OpenSpec.upto commentBogusSpec)

/-- 'flaillaw10.CommentRest', WHERE WHAT IT READS IS OF BULK AT MOST 1048576: true; the input reads as it did. -/
def commentRestUptoRow : OpenClaim := { program := "ytppaobgccdlccaadoor", sum := "35bf9c630b222c7ca1b105ed77172f91a335eb4fafcf62bbf6b21bad93a4e7eb", func := "flail/flaillaw10.CommentRest", spec := "commentRest", inPlace := ["internal/bytealg.IndexByteString", "internal/bytealg.IndexString", "internal/bytealg.CountString", "internal/abi.NoEscape", "internal/bytealg.MakeNoZero"], unfollowed := true, recurses := true, named := ["internal/bytealg.MaxLen", "unicode/utf8.first", "unicode/utf8.acceptRanges"], apart := false, laid := [("unicode/utf8.acceptRanges", laid_unicode_utf8_acceptRanges), ("unicode/utf8.first", laid_unicode_utf8_first)], narrowed := true }
def CommentRestUptoSaid : Prop := commentRestUptoRow.holds Tryd.pinned (OpenSpec.upto commentRestSpec)

/-- 'flaillaw10.CommentOpen', WHERE WHAT IT READS IS OF BULK AT MOST 1048576: true; the input reads as it did. -/
def commentOpenUptoRow : OpenClaim := { program := "ytppaobgccdlccaadoor", sum := "35bf9c630b222c7ca1b105ed77172f91a335eb4fafcf62bbf6b21bad93a4e7eb", func := "flail/flaillaw10.CommentOpen", spec := "commentOpen", inPlace := ["internal/bytealg.IndexByteString", "internal/bytealg.IndexString", "internal/bytealg.CountString", "internal/abi.NoEscape", "internal/bytealg.MakeNoZero"], unfollowed := true, recurses := true, named := ["internal/bytealg.MaxLen", "unicode/utf8.first", "unicode/utf8.acceptRanges"], apart := false, laid := [("unicode/utf8.acceptRanges", laid_unicode_utf8_acceptRanges), ("unicode/utf8.first", laid_unicode_utf8_first)], narrowed := true }
def CommentOpenUptoSaid : Prop := commentOpenUptoRow.holds Tryd.pinned (OpenSpec.upto commentOpenSpec)

/-- 'flaillaw13.ScriptPlain', WHERE WHAT IT READS IS OF BULK AT MOST 1048576: true; the input reads as it did. -/
def scriptPlainUptoRow : OpenClaim := { program := "ytppaobgccdlccaadoor", sum := "35bf9c630b222c7ca1b105ed77172f91a335eb4fafcf62bbf6b21bad93a4e7eb", func := "flail/flaillaw13.ScriptPlain", spec := "scriptPlain", inPlace := ["internal/bytealg.CountString", "internal/bytealg.IndexByteString", "internal/bytealg.IndexString", "internal/abi.NoEscape", "internal/bytealg.MakeNoZero"], unfollowed := true, recurses := true, named := ["internal/bytealg.MaxLen", "unicode/utf8.first", "unicode/utf8.acceptRanges"], apart := false, laid := [("unicode/utf8.acceptRanges", laid_unicode_utf8_acceptRanges), ("unicode/utf8.first", laid_unicode_utf8_first)], narrowed := true }
def ScriptPlainUptoSaid : Prop := scriptPlainUptoRow.holds Tryd.pinned (OpenSpec.upto scriptPlainSpec)

/-- 'flaillaw13.ScriptEnds', WHERE WHAT IT READS IS OF BULK AT MOST 1048576: true; the input reads as it did. -/
def scriptEndsUptoRow : OpenClaim := { program := "ytppaobgccdlccaadoor", sum := "35bf9c630b222c7ca1b105ed77172f91a335eb4fafcf62bbf6b21bad93a4e7eb", func := "flail/flaillaw13.ScriptEnds", spec := "scriptEnds", inPlace := ["internal/bytealg.CountString", "internal/bytealg.IndexByteString", "internal/bytealg.IndexString", "internal/abi.NoEscape", "internal/bytealg.MakeNoZero"], unfollowed := true, recurses := true, named := ["internal/bytealg.MaxLen", "unicode/utf8.first", "unicode/utf8.acceptRanges"], apart := false, laid := [("unicode/utf8.acceptRanges", laid_unicode_utf8_acceptRanges), ("unicode/utf8.first", laid_unicode_utf8_first)], narrowed := true }
def ScriptEndsUptoSaid : Prop := scriptEndsUptoRow.holds Tryd.pinned (OpenSpec.upto scriptEndsSpec)

/-- 'flaillaw11.DoctypeReads', WHERE WHAT IT READS IS OF BULK AT MOST 1048576: true; the input reads as it did. -/
def doctypeReadsUptoRow : OpenClaim := { program := "ytppaobgccdlccaadoor", sum := "35bf9c630b222c7ca1b105ed77172f91a335eb4fafcf62bbf6b21bad93a4e7eb", func := "flail/flaillaw11.DoctypeReads", spec := "doctypeReads", inPlace := ["internal/bytealg.IndexByteString", "internal/bytealg.IndexString", "internal/bytealg.CountString", "internal/abi.NoEscape", "internal/bytealg.MakeNoZero"], named := ["internal/bytealg.MaxLen", "unicode/utf8.first", "unicode/utf8.acceptRanges"], apart := false, laid := [("unicode/utf8.acceptRanges", laid_unicode_utf8_acceptRanges), ("unicode/utf8.first", laid_unicode_utf8_first)], narrowed := true }
def DoctypeReadsUptoSaid : Prop := doctypeReadsUptoRow.holds Tryd.pinned (OpenSpec.upto doctypeReadsSpec)

/-- 'flaillaw11.DoctypeParses', WHERE WHAT IT READS IS OF BULK AT MOST 1048576: true; the input reads as it did. -/
def doctypeParsesUptoRow : OpenClaim := { program := "ytppaobgccdlccaadoor", sum := "35bf9c630b222c7ca1b105ed77172f91a335eb4fafcf62bbf6b21bad93a4e7eb", func := "flail/flaillaw11.DoctypeParses", spec := "doctypeParses", inPlace := ["internal/bytealg.IndexByteString", "internal/bytealg.IndexString", "internal/bytealg.CountString", "internal/abi.NoEscape", "internal/bytealg.MakeNoZero"], named := ["internal/bytealg.MaxLen", "unicode/utf8.first", "unicode/utf8.acceptRanges"], apart := false, laid := [("unicode/utf8.acceptRanges", laid_unicode_utf8_acceptRanges), ("unicode/utf8.first", laid_unicode_utf8_first)], narrowed := true }
def DoctypeParsesUptoSaid : Prop := doctypeParsesUptoRow.holds Tryd.pinned (OpenSpec.upto doctypeParsesSpec)

/-- 'flaillaw11.DoctypeSays', WHERE WHAT IT READS IS OF BULK AT MOST 1048576: true; the input reads as it did. -/
def doctypeSaysUptoRow : OpenClaim := { program := "ytppaobgccdlccaadoor", sum := "35bf9c630b222c7ca1b105ed77172f91a335eb4fafcf62bbf6b21bad93a4e7eb", func := "flail/flaillaw11.DoctypeSays", spec := "doctypeSays", inPlace := ["internal/bytealg.IndexByteString", "internal/bytealg.IndexString", "internal/bytealg.CountString", "internal/abi.NoEscape", "internal/bytealg.MakeNoZero"], named := ["internal/bytealg.MaxLen", "unicode/utf8.first", "unicode/utf8.acceptRanges"], apart := false, laid := [("unicode/utf8.acceptRanges", laid_unicode_utf8_acceptRanges), ("unicode/utf8.first", laid_unicode_utf8_first)], narrowed := true }
def DoctypeSaysUptoSaid : Prop := doctypeSaysUptoRow.holds Tryd.pinned (OpenSpec.upto doctypeSaysSpec)

/-- 'flaillaw11.DoctypeWritten', WHERE WHAT IT READS IS OF BULK AT MOST 1048576: true; the input reads as it did. -/
def doctypeWrittenUptoRow : OpenClaim := { program := "ytppaobgccdlccaadoor", sum := "35bf9c630b222c7ca1b105ed77172f91a335eb4fafcf62bbf6b21bad93a4e7eb", func := "flail/flaillaw11.DoctypeWritten", spec := "doctypeWritten", inPlace := ["internal/bytealg.IndexByteString", "internal/bytealg.IndexString", "internal/bytealg.CountString", "internal/abi.NoEscape", "internal/bytealg.MakeNoZero"], named := ["internal/bytealg.MaxLen", "unicode/utf8.first", "unicode/utf8.acceptRanges"], apart := false, laid := [("unicode/utf8.acceptRanges", laid_unicode_utf8_acceptRanges), ("unicode/utf8.first", laid_unicode_utf8_first)], narrowed := true }
def DoctypeWrittenUptoSaid : Prop := doctypeWrittenUptoRow.holds Tryd.pinned (OpenSpec.upto doctypeWrittenSpec)

/-- 'flaillaw11.DoctypeRest', WHERE WHAT IT READS IS OF BULK AT MOST 1048576: true; the input reads as it did. -/
def doctypeRestUptoRow : OpenClaim := { program := "ytppaobgccdlccaadoor", sum := "35bf9c630b222c7ca1b105ed77172f91a335eb4fafcf62bbf6b21bad93a4e7eb", func := "flail/flaillaw11.DoctypeRest", spec := "doctypeRest", inPlace := ["internal/bytealg.IndexByteString", "internal/bytealg.IndexString", "internal/bytealg.CountString", "internal/abi.NoEscape", "internal/bytealg.MakeNoZero"], named := ["internal/bytealg.MaxLen", "unicode/utf8.first", "unicode/utf8.acceptRanges"], apart := false, laid := [("unicode/utf8.acceptRanges", laid_unicode_utf8_acceptRanges), ("unicode/utf8.first", laid_unicode_utf8_first)], narrowed := true }
def DoctypeRestUptoSaid : Prop := doctypeRestUptoRow.holds Tryd.pinned (OpenSpec.upto doctypeRestSpec)

/-- 'flaillaw11.DoctypeCase', WHERE WHAT IT READS IS OF BULK AT MOST 1048576: true; the input reads as it did. -/
def doctypeCaseUptoRow : OpenClaim := { program := "ytppaobgccdlccaadoor", sum := "35bf9c630b222c7ca1b105ed77172f91a335eb4fafcf62bbf6b21bad93a4e7eb", func := "flail/flaillaw11.DoctypeCase", spec := "doctypeCase", inPlace := ["internal/bytealg.IndexByteString", "internal/bytealg.IndexString", "internal/bytealg.CountString", "internal/abi.NoEscape", "internal/bytealg.MakeNoZero"], named := ["internal/bytealg.MaxLen", "unicode/utf8.first", "unicode/utf8.acceptRanges"], apart := false, laid := [("unicode/utf8.acceptRanges", laid_unicode_utf8_acceptRanges), ("unicode/utf8.first", laid_unicode_utf8_first)], narrowed := true }
def DoctypeCaseUptoSaid : Prop := doctypeCaseUptoRow.holds Tryd.pinned (OpenSpec.upto doctypeCaseSpec)

/-- 'flaillaw21.EscapeBytes', WHERE WHAT IT READS IS OF BULK AT MOST 1048576: true; the input reads as it did. -/
def escapeBytesUptoRow : OpenClaim := { program := "ytppaobgccdlccaadoor", sum := "35bf9c630b222c7ca1b105ed77172f91a335eb4fafcf62bbf6b21bad93a4e7eb", func := "flail/flaillaw21.EscapeBytes", spec := "escapeBytes", inPlace := ["sync/atomic.LoadUint32", "(*internal/sync.Mutex).Lock", "internal/race.Disable", "sync/atomic.CompareAndSwapInt32", "internal/race.Enable", "internal/race.Acquire", "(*internal/sync.Mutex).lockSlow", "internal/sync.runtime_canSpin", "internal/sync.runtime_doSpin", "internal/sync.throw", "internal/sync.runtime_nanotime", "internal/sync.runtime_SemacquireMutex", "sync/atomic.AddInt32", "(*internal/sync.Mutex).Unlock", "internal/race.ReleaseMerge", "(*internal/sync.Mutex).unlockSlow", "internal/sync.fatal", "internal/sync.runtime_Semrelease", "sync/atomic.StoreUint32", "internal/abi.NoEscape", "internal/bytealg.CountString", "internal/bytealg.IndexByteString", "internal/bytealg.IndexString", "internal/bytealg.MakeNoZero"], unfollowed := true, recurses := true, named := ["internal/bytealg.MaxLen", "unicode/utf8.first", "unicode/utf8.acceptRanges"], apart := false, laid := [("unicode/utf8.acceptRanges", laid_unicode_utf8_acceptRanges), ("unicode/utf8.first", laid_unicode_utf8_first)], narrowed := true }
def EscapeBytesUptoSaid : Prop := escapeBytesUptoRow.holds Tryd.pinned (OpenSpec.upto escapeBytesSpec)

end Rows
end Go.Proofs.YtppaobgccdlccaaDoor
