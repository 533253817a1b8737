/-
  DERIVED. GIVEN WITH THE SEED: THE CARDS: each row of YtdheknlnhfegnaaDoorRows.lean that lists a variable, with what it lists TIED to the program's text (the seventh form; the later family's looks); each row that meets fmt, with fmt's text TOLD by the authors' own Lean function (tested against real Go, not proved from fmt's source: count such statements apart). THE CARD IS WHAT COUNTS. Prove the row's statement (the work); the ties are given (YtdheknlnhfegnaaDoorTie.lean); close each card by the builder's one call (the guide's Derived/Test/ToyasCard.lean, 'card_holds'). Laid BY PROGRAM, IN A SANDBOX (cutbox-door.mjs). By AI agents, Wed Nov 11 2026. No macro, syntax, notation, axiom, sorry.
-/
import Derived.Test.YtdheknlnhfegnaaDoorRows
import GoSem.ClaimSeven
namespace Go.Proofs.YtdheknlnhfegnaaDoor
namespace Rows

/-- THE TIED CARD OF 'flaillaw25.SafeTells'. -/
def safeTellsCard : Claim7 := { stood := { row := safeTellsRow, standIns := [], harness := (true, "b53cb99e5f0566119386c60a93cd07399db37f77e1976c0972e1f9d1951917a2"), looks := true }, kinds := [], alts := [], laidByText := true, laidKinds := [.data, .data, .data, .sentinel, .sentinel], laidTests := true, laidLooks := .later }
def SafeTellsCardSaid : Prop := Claim7.holds Tryd.pinned (.plain (OpenSpec.ofChange safeTellsSpec)) safeTellsCard

/-- THE TIED CARD OF 'flaillaw25.SafeParts'. -/
def safePartsCard : Claim7 := { stood := { row := safePartsRow, standIns := [], harness := (true, "b53cb99e5f0566119386c60a93cd07399db37f77e1976c0972e1f9d1951917a2"), looks := true }, kinds := [], alts := [], laidByText := true, laidKinds := [.data, .data, .data, .sentinel, .sentinel], laidTests := true, laidLooks := .later }
def SafePartsCardSaid : Prop := Claim7.holds Tryd.pinned (.plain (OpenSpec.ofChange safePartsSpec)) safePartsCard

/-- THE TIED CARD OF 'flaillaw25.SafeRefs'. -/
def safeRefsCard : Claim7 := { stood := { row := safeRefsRow, standIns := [], harness := (true, "b53cb99e5f0566119386c60a93cd07399db37f77e1976c0972e1f9d1951917a2"), looks := true }, kinds := [], alts := [], laidByText := true, laidKinds := [.data, .data, .data, .sentinel, .sentinel], laidTests := true, laidLooks := .later }
def SafeRefsCardSaid : Prop := Claim7.holds Tryd.pinned (.plain (OpenSpec.ofChange safeRefsSpec)) safeRefsCard

/-- THE SECOND FORM's CARD OF 'flaillaw25.SafeTells'. -/
def safeTellsUptoCard : Claim7 := { stood := { row := safeTellsUptoRow, standIns := [], harness := (true, "b53cb99e5f0566119386c60a93cd07399db37f77e1976c0972e1f9d1951917a2"), looks := true }, kinds := [], alts := [], laidByText := true, laidKinds := [.data, .data, .data, .sentinel, .sentinel], laidTests := true, laidLooks := .later }
def SafeTellsUptoCardSaid : Prop := Claim7.holds Tryd.pinned (.plain (OpenSpec.upto safeTellsSpec)) safeTellsUptoCard

/-- THE SECOND FORM's CARD OF 'flaillaw25.SafeParts'. -/
def safePartsUptoCard : Claim7 := { stood := { row := safePartsUptoRow, standIns := [], harness := (true, "b53cb99e5f0566119386c60a93cd07399db37f77e1976c0972e1f9d1951917a2"), looks := true }, kinds := [], alts := [], laidByText := true, laidKinds := [.data, .data, .data, .sentinel, .sentinel], laidTests := true, laidLooks := .later }
def SafePartsUptoCardSaid : Prop := Claim7.holds Tryd.pinned (.plain (OpenSpec.upto safePartsSpec)) safePartsUptoCard

/-- THE SECOND FORM's CARD OF 'flaillaw25.SafeRefs'. -/
def safeRefsUptoCard : Claim7 := { stood := { row := safeRefsUptoRow, standIns := [], harness := (true, "b53cb99e5f0566119386c60a93cd07399db37f77e1976c0972e1f9d1951917a2"), looks := true }, kinds := [], alts := [], laidByText := true, laidKinds := [.data, .data, .data, .sentinel, .sentinel], laidTests := true, laidLooks := .later }
def SafeRefsUptoCardSaid : Prop := Claim7.holds Tryd.pinned (.plain (OpenSpec.upto safeRefsSpec)) safeRefsUptoCard
end Rows
end Go.Proofs.YtdheknlnhfegnaaDoor
