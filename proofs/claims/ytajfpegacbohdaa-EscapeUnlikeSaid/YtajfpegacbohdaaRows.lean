/-
  No cell of these rows narrows 'for every input' (looked for: loops, veiled, ifaces, maps, wideKeys, modest, calm, conditions, laid).
  DERIVED. THE GIVEN ROWS OF THIS SEAT. 4 by the template 'for every input the law returns true; each argument reads behind the call as it read before'; 0 by the template 'total and deterministic' (their statements: YtajfpegacbohdaaTotals.lean).
  GIVEN WITH THE SEED: the statements are not yours to turn. If you find one false, say at which input.
  Laid BY PROGRAM, IN A SANDBOX (cutbox-rows.mjs): the forced cells as the released guide's own fill.sh prints them over the translation 2113004e45b16760… (all of the seat's roots in one cut). By AI agents, Wed Nov 11 2026. No macro, syntax, notation, axiom, sorry.
-/
import Derived.Test.YtajfpegacbohdaaChecked
import GoSem.Claim
import GoSem.ClaimJoined
import GoSem.ClaimMapViews
import Derived.JoinedTies
import Derived.KernelRfl
namespace Go.Proofs.Ytajfpegacbohdaa
/- THE CELL 'sum', in the pinned program and in every row, IS THE sha256 OF THE DUMP (.gsa) THAT YtajfpegacbohdaaProg.lean LOADS. Nothing in Lean hashes anything: it is a label: what it is worth is what the hold of that sum in a sandbox is worth. -/
noncomputable def Try.pinned : Pinned := { name := "ytajfpegacbohdaa", sum := "2113004e45b167603b3872548d2ec0d37a2ae9a4c9d82a62b04d7b75a2a27e13", checked := Try.checked }
namespace Rows
def none {H : Type} : Left H := { results := [], args := [] }

/-- 'flaillaw21.EscapeTells': WHATEVER THE INPUT: true; the input reads as it did. -/
def escapeTellsSpec : ChangeSpec := { name := "escapeTells", fn := fun _ => fun
  | [d1, d2] => { results := [.lit (.bool true)], args := [d1, d2] }
  | _ => none }
def escapeTellsRow : OpenClaim := { program := "ytajfpegacbohdaa", sum := "2113004e45b167603b3872548d2ec0d37a2ae9a4c9d82a62b04d7b75a2a27e13", func := "flail/flaillaw21.EscapeTells", spec := "escapeTells", inPlace := ["sync/atomic.LoadUint32", "(*internal/sync.Mutex).Lock", "internal/race.Disable", "sync/atomic.CompareAndSwapInt32", "internal/race.Enable", "internal/race.Acquire", "(*internal/sync.Mutex).lockSlow", "internal/sync.runtime_canSpin", "internal/sync.runtime_doSpin", "internal/sync.throw", "internal/sync.runtime_nanotime", "internal/sync.runtime_SemacquireMutex", "sync/atomic.AddInt32", "(*internal/sync.Mutex).Unlock", "internal/race.ReleaseMerge", "(*internal/sync.Mutex).unlockSlow", "internal/sync.fatal", "internal/sync.runtime_Semrelease", "sync/atomic.StoreUint32"], unfollowed := true, recurses := true, apart := false }
def EscapeTellsSaid : Prop := escapeTellsRow.holds Try.pinned (OpenSpec.ofChange escapeTellsSpec)

/-- ITS FALSE NEIGHBOUR: 'it returns false'. Refute it at one input. -/
def escapeTellsWrong : ChangeSpec := { name := "escapeTells", fn := fun _ => fun
  | [d1, d2] => { results := [.lit (.bool false)], args := [d1, d2] }
  | _ => none }
def EscapeTellsWrongFalsely : Prop := escapeTellsRow.holds Try.pinned (OpenSpec.ofChange escapeTellsWrong)

/-- 'flaillaw21.EscapePlain': WHATEVER THE INPUT: true; the input reads as it did. -/
def escapePlainSpec : ChangeSpec := { name := "escapePlain", fn := fun _ => fun
  | [d1, d2] => { results := [.lit (.bool true)], args := [d1, d2] }
  | _ => none }
def escapePlainRow : OpenClaim := { program := "ytajfpegacbohdaa", sum := "2113004e45b167603b3872548d2ec0d37a2ae9a4c9d82a62b04d7b75a2a27e13", func := "flail/flaillaw21.EscapePlain", spec := "escapePlain", inPlace := ["sync/atomic.LoadUint32", "(*internal/sync.Mutex).Lock", "internal/race.Disable", "sync/atomic.CompareAndSwapInt32", "internal/race.Enable", "internal/race.Acquire", "(*internal/sync.Mutex).lockSlow", "internal/sync.runtime_canSpin", "internal/sync.runtime_doSpin", "internal/sync.throw", "internal/sync.runtime_nanotime", "internal/sync.runtime_SemacquireMutex", "sync/atomic.AddInt32", "(*internal/sync.Mutex).Unlock", "internal/race.ReleaseMerge", "(*internal/sync.Mutex).unlockSlow", "internal/sync.fatal", "internal/sync.runtime_Semrelease", "sync/atomic.StoreUint32"], unfollowed := true, recurses := true, apart := false }
def EscapePlainSaid : Prop := escapePlainRow.holds Try.pinned (OpenSpec.ofChange escapePlainSpec)

/-- ITS FALSE NEIGHBOUR: 'it returns false'. Refute it at one input. -/
def escapePlainWrong : ChangeSpec := { name := "escapePlain", fn := fun _ => fun
  | [d1, d2] => { results := [.lit (.bool false)], args := [d1, d2] }
  | _ => none }
def EscapePlainWrongFalsely : Prop := escapePlainRow.holds Try.pinned (OpenSpec.ofChange escapePlainWrong)

/-- 'flaillaw21.EscapeJoins': WHATEVER THE INPUT: true; the input reads as it did. -/
def escapeJoinsSpec : ChangeSpec := { name := "escapeJoins", fn := fun _ => fun
  | [d1, d2, d3] => { results := [.lit (.bool true)], args := [d1, d2, d3] }
  | _ => none }
def escapeJoinsRow : OpenClaim := { program := "ytajfpegacbohdaa", sum := "2113004e45b167603b3872548d2ec0d37a2ae9a4c9d82a62b04d7b75a2a27e13", func := "flail/flaillaw21.EscapeJoins", spec := "escapeJoins", inPlace := ["sync/atomic.LoadUint32", "(*internal/sync.Mutex).Lock", "internal/race.Disable", "sync/atomic.CompareAndSwapInt32", "internal/race.Enable", "internal/race.Acquire", "(*internal/sync.Mutex).lockSlow", "internal/sync.runtime_canSpin", "internal/sync.runtime_doSpin", "internal/sync.throw", "internal/sync.runtime_nanotime", "internal/sync.runtime_SemacquireMutex", "sync/atomic.AddInt32", "(*internal/sync.Mutex).Unlock", "internal/race.ReleaseMerge", "(*internal/sync.Mutex).unlockSlow", "internal/sync.fatal", "internal/sync.runtime_Semrelease", "sync/atomic.StoreUint32"], unfollowed := true, recurses := true, apart := false }
def EscapeJoinsSaid : Prop := escapeJoinsRow.holds Try.pinned (OpenSpec.ofChange escapeJoinsSpec)

/-- ITS FALSE NEIGHBOUR: 'it returns false'. Refute it at one input. -/
def escapeJoinsWrong : ChangeSpec := { name := "escapeJoins", fn := fun _ => fun
  | [d1, d2, d3] => { results := [.lit (.bool false)], args := [d1, d2, d3] }
  | _ => none }
def EscapeJoinsWrongFalsely : Prop := escapeJoinsRow.holds Try.pinned (OpenSpec.ofChange escapeJoinsWrong)

/-- 'flaillaw21.EscapeUnlike': WHATEVER THE INPUT: true; the input reads as it did. -/
def escapeUnlikeSpec : ChangeSpec := { name := "escapeUnlike", fn := fun _ => fun
  | [d1, d2, d3] => { results := [.lit (.bool true)], args := [d1, d2, d3] }
  | _ => none }
def escapeUnlikeRow : OpenClaim := { program := "ytajfpegacbohdaa", sum := "2113004e45b167603b3872548d2ec0d37a2ae9a4c9d82a62b04d7b75a2a27e13", func := "flail/flaillaw21.EscapeUnlike", spec := "escapeUnlike", inPlace := ["sync/atomic.LoadUint32", "(*internal/sync.Mutex).Lock", "internal/race.Disable", "sync/atomic.CompareAndSwapInt32", "internal/race.Enable", "internal/race.Acquire", "(*internal/sync.Mutex).lockSlow", "internal/sync.runtime_canSpin", "internal/sync.runtime_doSpin", "internal/sync.throw", "internal/sync.runtime_nanotime", "internal/sync.runtime_SemacquireMutex", "sync/atomic.AddInt32", "(*internal/sync.Mutex).Unlock", "internal/race.ReleaseMerge", "(*internal/sync.Mutex).unlockSlow", "internal/sync.fatal", "internal/sync.runtime_Semrelease", "sync/atomic.StoreUint32"], unfollowed := true, recurses := true, apart := false }
def EscapeUnlikeSaid : Prop := escapeUnlikeRow.holds Try.pinned (OpenSpec.ofChange escapeUnlikeSpec)

/-- ITS FALSE NEIGHBOUR: 'it returns false'. Refute it at one input. -/
def escapeUnlikeWrong : ChangeSpec := { name := "escapeUnlike", fn := fun _ => fun
  | [d1, d2, d3] => { results := [.lit (.bool false)], args := [d1, d2, d3] }
  | _ => none }
def EscapeUnlikeWrongFalsely : Prop := escapeUnlikeRow.holds Try.pinned (OpenSpec.ofChange escapeUnlikeWrong)

/- THE SECOND FORM. 'bulk': how many values and letters a reading holds, each counted each time it is reached (what is shared counts as often as it is met; a slice's spare places count too). A statement '..UptoSaid' is the law's where the arguments, and the package variables that the reading takes, are together of bulk at most 1048576: NARROWER than '..Said'. Prove '..Said' where nothing that the law and all that it calls make is longer than what came in: it says more and counts as full. Else prove '..UptoSaid'. A law counts once. -/
mutual
def uptoBulk {H : Type} : DataW H → Nat
  | .lit (.string bytes) => bytes.length + 1
  | .lit _ => 1
  | .nil => 1
  | .ptr d => uptoBulk d + 1
  | .slice elems spare => uptoBulkAll elems + uptoBulkAll spare + 1
  | .agg parts => uptoBulkAll parts + 1
  | .iface _ d => uptoBulk d + 1
  | .map entries => uptoBulkEntries entries + 1
  | .held _ => 1
def uptoBulkAll {H : Type} : List (DataW H) → Nat
  | [] => 0
  | d :: r => uptoBulk d + uptoBulkAll r
def uptoBulkEntries {H : Type} : List (Lit × DataW H) → Nat
  | [] => 0
  | x :: r => uptoBulkEntry x + uptoBulkEntries r
def uptoBulkEntry {H : Type} : Lit × DataW H → Nat
  | (.string bytes, d) => bytes.length + uptoBulk d + 1
  | (_, d) => uptoBulk d + 1
 end
def uptoSmall : (H : Type) → List (DataW H) → Bool := fun _ ds => decide (uptoBulkAll ds ≤ 1048576)
def OpenSpec.upto (s : _root_.Go.ChangeSpec) : _root_.Go.OpenSpec := { _root_.Go.OpenSpec.ofChange s with cond := some uptoSmall }

/-- 'flaillaw21.EscapeTells', WHERE WHAT IT READS IS OF BULK AT MOST 1048576: true; the input reads as it did. -/
def escapeTellsUptoRow : OpenClaim := { program := "ytajfpegacbohdaa", sum := "2113004e45b167603b3872548d2ec0d37a2ae9a4c9d82a62b04d7b75a2a27e13", func := "flail/flaillaw21.EscapeTells", spec := "escapeTells", inPlace := ["sync/atomic.LoadUint32", "(*internal/sync.Mutex).Lock", "internal/race.Disable", "sync/atomic.CompareAndSwapInt32", "internal/race.Enable", "internal/race.Acquire", "(*internal/sync.Mutex).lockSlow", "internal/sync.runtime_canSpin", "internal/sync.runtime_doSpin", "internal/sync.throw", "internal/sync.runtime_nanotime", "internal/sync.runtime_SemacquireMutex", "sync/atomic.AddInt32", "(*internal/sync.Mutex).Unlock", "internal/race.ReleaseMerge", "(*internal/sync.Mutex).unlockSlow", "internal/sync.fatal", "internal/sync.runtime_Semrelease", "sync/atomic.StoreUint32"], unfollowed := true, recurses := true, apart := false, narrowed := true }
def EscapeTellsUptoSaid : Prop := escapeTellsUptoRow.holds Try.pinned (OpenSpec.upto escapeTellsSpec)

/-- 'flaillaw21.EscapePlain', WHERE WHAT IT READS IS OF BULK AT MOST 1048576: true; the input reads as it did. -/
def escapePlainUptoRow : OpenClaim := { program := "ytajfpegacbohdaa", sum := "2113004e45b167603b3872548d2ec0d37a2ae9a4c9d82a62b04d7b75a2a27e13", func := "flail/flaillaw21.EscapePlain", spec := "escapePlain", inPlace := ["sync/atomic.LoadUint32", "(*internal/sync.Mutex).Lock", "internal/race.Disable", "sync/atomic.CompareAndSwapInt32", "internal/race.Enable", "internal/race.Acquire", "(*internal/sync.Mutex).lockSlow", "internal/sync.runtime_canSpin", "internal/sync.runtime_doSpin", "internal/sync.throw", "internal/sync.runtime_nanotime", "internal/sync.runtime_SemacquireMutex", "sync/atomic.AddInt32", "(*internal/sync.Mutex).Unlock", "internal/race.ReleaseMerge", "(*internal/sync.Mutex).unlockSlow", "internal/sync.fatal", "internal/sync.runtime_Semrelease", "sync/atomic.StoreUint32"], unfollowed := true, recurses := true, apart := false, narrowed := true }
def EscapePlainUptoSaid : Prop := escapePlainUptoRow.holds Try.pinned (OpenSpec.upto escapePlainSpec)

/-- 'flaillaw21.EscapeJoins', WHERE WHAT IT READS IS OF BULK AT MOST 1048576: true; the input reads as it did. -/
def escapeJoinsUptoRow : OpenClaim := { program := "ytajfpegacbohdaa", sum := "2113004e45b167603b3872548d2ec0d37a2ae9a4c9d82a62b04d7b75a2a27e13", func := "flail/flaillaw21.EscapeJoins", spec := "escapeJoins", inPlace := ["sync/atomic.LoadUint32", "(*internal/sync.Mutex).Lock", "internal/race.Disable", "sync/atomic.CompareAndSwapInt32", "internal/race.Enable", "internal/race.Acquire", "(*internal/sync.Mutex).lockSlow", "internal/sync.runtime_canSpin", "internal/sync.runtime_doSpin", "internal/sync.throw", "internal/sync.runtime_nanotime", "internal/sync.runtime_SemacquireMutex", "sync/atomic.AddInt32", "(*internal/sync.Mutex).Unlock", "internal/race.ReleaseMerge", "(*internal/sync.Mutex).unlockSlow", "internal/sync.fatal", "internal/sync.runtime_Semrelease", "sync/atomic.StoreUint32"], unfollowed := true, recurses := true, apart := false, narrowed := true }
def EscapeJoinsUptoSaid : Prop := escapeJoinsUptoRow.holds Try.pinned (OpenSpec.upto escapeJoinsSpec)

/-- 'flaillaw21.EscapeUnlike', WHERE WHAT IT READS IS OF BULK AT MOST 1048576: true; the input reads as it did. -/
def escapeUnlikeUptoRow : OpenClaim := { program := "ytajfpegacbohdaa", sum := "2113004e45b167603b3872548d2ec0d37a2ae9a4c9d82a62b04d7b75a2a27e13", func := "flail/flaillaw21.EscapeUnlike", spec := "escapeUnlike", inPlace := ["sync/atomic.LoadUint32", "(*internal/sync.Mutex).Lock", "internal/race.Disable", "sync/atomic.CompareAndSwapInt32", "internal/race.Enable", "internal/race.Acquire", "(*internal/sync.Mutex).lockSlow", "internal/sync.runtime_canSpin", "internal/sync.runtime_doSpin", "internal/sync.throw", "internal/sync.runtime_nanotime", "internal/sync.runtime_SemacquireMutex", "sync/atomic.AddInt32", "(*internal/sync.Mutex).Unlock", "internal/race.ReleaseMerge", "(*internal/sync.Mutex).unlockSlow", "internal/sync.fatal", "internal/sync.runtime_Semrelease", "sync/atomic.StoreUint32"], unfollowed := true, recurses := true, apart := false, narrowed := true }
def EscapeUnlikeUptoSaid : Prop := escapeUnlikeUptoRow.holds Try.pinned (OpenSpec.upto escapeUnlikeSpec)

end Rows
end Go.Proofs.Ytajfpegacbohdaa
