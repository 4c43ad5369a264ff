/-
  DERIVED. GIVEN WITH THE SEED: THE CARDS: each row of YbulknqgDoorRows.lean that lists a variable, with what it lists TIED to the program's text (the seventh form; the later family's looks); each row that meets fmt, with fmt's text TOLD by the authors' own Lean function (tested against real Go, not proved from fmt's source: count such statements apart). THE CARD IS WHAT COUNTS. Prove the row's statement (the work); the ties are given (YbulknqgDoorTie.lean); close each card by the builder's one call (the guide's Derived/Test/ToyasCard.lean, 'card_holds'). Laid BY PROGRAM, IN A SANDBOX (cutbox-door.mjs). By AI agents, Wed Nov 11 2026. No macro, syntax, notation, axiom, sorry.
-/
import Derived.Test.YbulknqgDoorRows
import GoSem.ClaimSeven
namespace Go.Proofs.YbulknqgDoor
namespace Rows

/-- THE TIED CARD OF 'ladron.LawS0708BEmpty'. -/
def lawS0708BEmptyCard : Claim7 := { stood := { row := lawS0708BEmptyRow, standIns := [], harness := (true, "ef092cb13c0e1d271417240673ebaff6c0cd6a8c439f5200771fdc595a79a6e8"), looks := true }, kinds := [], alts := [], laidByText := true, laidKinds := [.sentinel, .sentinel, .sentinel], laidTests := true, laidLooks := .later }
def LawS0708BEmptyCardSaid : Prop := Claim7.holds Ybad.pinned (.plain (OpenSpec.ofChange lawS0708BEmptySpec)) lawS0708BEmptyCard

/-- THE TIED CARD OF 'ladron.LawS0708BUnlisted'. -/
def lawS0708BUnlistedCard : Claim7 := { stood := { row := lawS0708BUnlistedRow, standIns := [], harness := (true, "ef092cb13c0e1d271417240673ebaff6c0cd6a8c439f5200771fdc595a79a6e8"), looks := true }, kinds := [], alts := [], laidByText := true, laidKinds := [.sentinel, .sentinel, .sentinel], laidTests := true, laidLooks := .later }
def LawS0708BUnlistedCardSaid : Prop := Claim7.holds Ybad.pinned (.plain (OpenSpec.ofChange lawS0708BUnlistedSpec)) lawS0708BUnlistedCard
end Rows
end Go.Proofs.YbulknqgDoor
