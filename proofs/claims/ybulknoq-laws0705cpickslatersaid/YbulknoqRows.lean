/-
  No cell of these rows narrows 'for every input' (looked for: loops, veiled, ifaces, maps, wideKeys, modest, calm, conditions, laid).
  DERIVED. THE GIVEN ROWS OF THIS SEAT. 2 by the template 'for every input the law returns true; each argument reads behind the call as it read before'; 0 by the template 'total and deterministic' (their statements: YbulknoqTotals.lean).
  GIVEN WITH THE SEED: the statements are not yours to turn. If you find one false, say at which input.
  Laid BY PROGRAM, IN A SANDBOX (cutbox-rows.mjs): the forced cells as the released guide's own fill.sh prints them over the translation 19ff940443003837… (all of the seat's roots in one cut). By AI agents, Wed Nov 11 2026. No macro, syntax, notation, axiom, sorry.
-/
import Derived.Test.YbulknoqChecked
import GoSem.Claim
import GoSem.ClaimJoined
import GoSem.ClaimMapViews
import Derived.JoinedTies
import Derived.KernelRfl
namespace Go.Proofs.Ybulknoq
/- THE CELL 'sum', in the pinned program and in every row, IS THE sha256 OF THE DUMP (.gsa) THAT YbulknoqProg.lean LOADS. Nothing in Lean hashes anything: it is a label: what it is worth is what the hold of that sum in a sandbox is worth. -/
noncomputable def Yba.pinned : Pinned := { name := "ybulknoq", sum := "19ff9404430038373a4ae086b14676e7233447ca715c1b9b683d80f3acfdde6c", checked := Yba.checked }
namespace Rows
def none {H : Type} : Left H := { results := [], args := [] }

/-- 'client.LawS0705CPicksLater': WHATEVER THE INPUT: true; the input reads as it did. -/
def lawS0705CPicksLaterSpec : ChangeSpec := { name := "lawS0705CPicksLater", fn := fun _ => fun
  | [d1, d2] => { results := [.lit (.bool true)], args := [d1, d2] }
  | _ => none }
def lawS0705CPicksLaterRow : OpenClaim := { program := "ybulknoq", sum := "19ff9404430038373a4ae086b14676e7233447ca715c1b9b683d80f3acfdde6c", func := "example.com/ledgerfence/ledgerfence/client.LawS0705CPicksLater", spec := "lawS0705CPicksLater", apart := false }
def LawS0705CPicksLaterSaid : Prop := lawS0705CPicksLaterRow.holds Yba.pinned (OpenSpec.ofChange lawS0705CPicksLaterSpec)

/-- ITS FALSE NEIGHBOUR: 'it returns false'. Refute it at one input. -/
def lawS0705CPicksLaterWrong : ChangeSpec := { name := "lawS0705CPicksLater", fn := fun _ => fun
  | [d1, d2] => { results := [.lit (.bool false)], args := [d1, d2] }
  | _ => none }
def LawS0705CPicksLaterWrongFalsely : Prop := lawS0705CPicksLaterRow.holds Yba.pinned (OpenSpec.ofChange lawS0705CPicksLaterWrong)

/-- 'client.LawS0705CSymmetric': WHATEVER THE INPUT: true; the input reads as it did. -/
def lawS0705CSymmetricSpec : ChangeSpec := { name := "lawS0705CSymmetric", fn := fun _ => fun
  | [d1, d2] => { results := [.lit (.bool true)], args := [d1, d2] }
  | _ => none }
def lawS0705CSymmetricRow : OpenClaim := { program := "ybulknoq", sum := "19ff9404430038373a4ae086b14676e7233447ca715c1b9b683d80f3acfdde6c", func := "example.com/ledgerfence/ledgerfence/client.LawS0705CSymmetric", spec := "lawS0705CSymmetric", apart := false }
def LawS0705CSymmetricSaid : Prop := lawS0705CSymmetricRow.holds Yba.pinned (OpenSpec.ofChange lawS0705CSymmetricSpec)

/-- ITS FALSE NEIGHBOUR: 'it returns false'. Refute it at one input. -/
def lawS0705CSymmetricWrong : ChangeSpec := { name := "lawS0705CSymmetric", fn := fun _ => fun
  | [d1, d2] => { results := [.lit (.bool false)], args := [d1, d2] }
  | _ => none }
def LawS0705CSymmetricWrongFalsely : Prop := lawS0705CSymmetricRow.holds Yba.pinned (OpenSpec.ofChange lawS0705CSymmetricWrong)

end Rows
end Go.Proofs.Ybulknoq
