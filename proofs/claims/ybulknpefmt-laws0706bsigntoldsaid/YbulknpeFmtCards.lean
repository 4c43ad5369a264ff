/-
  DERIVED. GIVEN WITH THE SEED: THE CARDS: each row of YbulknpeFmtRows.lean that lists a variable, with what it lists TIED to the program's text (the seventh form; the later family's looks); each row that meets fmt, with fmt's text TOLD by the authors' own Lean function (tested against real Go, not proved from fmt's source: count such statements apart). THE CARD IS WHAT COUNTS. Prove the row's statement (the work); the ties are given (YbulknpeFmtTie.lean); close each card by the builder's one call (the guide's Derived/Test/ToyasCard.lean, 'card_holds'). Laid BY PROGRAM, IN A SANDBOX (cutbox-door.mjs). By AI agents, Wed Nov 11 2026. No macro, syntax, notation, axiom, sorry.
-/
import Derived.Test.YbulknpeFmtRows
import GoSem.ClaimSeven
namespace Go.Proofs.YbulknpeFmt
namespace Rows

/-- THE TOLD AND TIED CARD OF 'lock.LawS0706BSign'. -/
def lawS0706BSignCard : Claim7 := { stood := { row := lawS0706BSignRow, standIns := [], harness := (true, "ad94a92cf17559af62c75cbf7419a21f51b836174cf489653a807417089bf31a"), looks := true }, told := true, laidByText := true, laidKinds := [.sentinel], laidTests := true, laidLooks := .later, goes := false }
def LawS0706BSignToldSaid : Prop := Claim7.holds Ybaf.pinned (.plain (OpenSpec.ofChange lawS0706BSignSpec)) lawS0706BSignCard
/-- ITS FALSE NEIGHBOUR. Refute it at one input. -/
def LawS0706BSignToldWrongFalsely : Prop := Claim7.holds Ybaf.pinned (.plain (OpenSpec.ofChange lawS0706BSignWrong)) lawS0706BSignCard

/-- THE TOLD AND TIED CARD OF 'lock.LawS0706BHalf'. -/
def lawS0706BHalfCard : Claim7 := { stood := { row := lawS0706BHalfRow, standIns := [], harness := (true, "ad94a92cf17559af62c75cbf7419a21f51b836174cf489653a807417089bf31a"), looks := true }, told := true, laidByText := true, laidKinds := [.sentinel], laidTests := true, laidLooks := .later, goes := false }
def LawS0706BHalfToldSaid : Prop := Claim7.holds Ybaf.pinned (.plain (OpenSpec.ofChange lawS0706BHalfSpec)) lawS0706BHalfCard
/-- ITS FALSE NEIGHBOUR. Refute it at one input. -/
def LawS0706BHalfToldWrongFalsely : Prop := Claim7.holds Ybaf.pinned (.plain (OpenSpec.ofChange lawS0706BHalfWrong)) lawS0706BHalfCard
end Rows
end Go.Proofs.YbulknpeFmt
