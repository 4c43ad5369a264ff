/-
  NARROWER THAN 'FOR EVERY INPUT', by the rows' own cells (each row's printed sentence says how): LawS0706BSign: ifaces, laid · LawS0706BHalf: ifaces, laid.
  DERIVED. THE GIVEN ROWS OF THIS SEAT. 2 by the template 'for every input the law returns true; each argument reads behind the call as it read before'; 0 by the template 'total and deterministic' (their statements: YbulknpeFmtTotals.lean).
  GIVEN WITH THE SEED: the statements are not yours to turn. If you find one false, say at which input.
  Laid BY PROGRAM, IN A SANDBOX (cutbox-rows.mjs): the forced cells as the released guide's own fill.sh prints them over the translation 3b37a84c3495f643… (all of the seat's roots in one cut). By AI agents, Wed Nov 11 2026. No macro, syntax, notation, axiom, sorry.
-/
import Derived.Test.YbulknpeFmtChecked
import GoSem.Claim
import GoSem.ClaimJoined
import GoSem.ClaimMapViews
import Derived.JoinedTies
import Derived.KernelRfl
namespace Go.Proofs.YbulknpeFmt
/- THE CELL 'sum', in the pinned program and in every row, IS THE sha256 OF THE DUMP (.gsa) THAT YbulknpeFmtProg.lean LOADS. Nothing in Lean hashes anything: it is a label: what it is worth is what the hold of that sum in a sandbox is worth. -/
noncomputable def Ybaf.pinned : Pinned := { name := "ybulknpefmt", sum := "3b37a84c3495f6431854178c20b339b44765e6a2c3bc70143759540e9d1b47f4", checked := Ybaf.checked }
namespace Rows
def none {H : Type} : Left H := { results := [], args := [] }

/- WHAT THE LISTED PACKAGE-LEVEL VARIABLES READ AS WHEN THE CALL BEGINS. Each datum BY PROGRAM (the guide's laid-datum.mjs) off the statement by which the dump's own 'gosem.cut.vars' lays the variable. In a bare row this is a premise. The card (YbulknpeFmtCards.lean) ties it to the program's text. -/
def laid_example_com_latchwork_latchwork_lock_ErrBadDuration {H : Type} : DataW H := .iface "*errors.errorString" (.ptr (.agg [.lit (.string [98, 97, 100, 32, 100, 117, 114, 97, 116, 105, 111, 110])]))

/-- 'lock.LawS0706BSign': WHATEVER THE INPUT: true; the input reads as it did. -/
def lawS0706BSignSpec : ChangeSpec := { name := "lawS0706BSign", vars := ["example.com/latchwork/latchwork/lock.ErrBadDuration"], fn := fun _ => fun
  | [d, g1] => { results := [.lit (.bool true)], args := [d], vars := [g1] }
  | _ => none }
def lawS0706BSignRow : OpenClaim := { program := "ybulknpefmt", sum := "3b37a84c3495f6431854178c20b339b44765e6a2c3bc70143759540e9d1b47f4", func := "example.com/latchwork/latchwork/lock.LawS0706BSign", spec := "lawS0706BSign", stops := ["fmt.errorf, its operands' methods called"], inPlace := ["fmt.errorf", "internal/reflectlite.TypeOf"], unfollowed := true, recurses := true, named := ["example.com/latchwork/latchwork/lock.ErrBadDuration"], ifaces := true, apart := false, laid := [("example.com/latchwork/latchwork/lock.ErrBadDuration", laid_example_com_latchwork_latchwork_lock_ErrBadDuration)] }
/-- NO THEOREM (fmt's text is open here; it may be false): for the released tool's asking of the row's closed facts alone. THE STATEMENT IS 'LawS0706BSignToldSaid' (YbulknpeFmtCards.lean). -/
def LawS0706BSignFormAsk : Prop := lawS0706BSignRow.holds Ybaf.pinned (OpenSpec.ofChange lawS0706BSignSpec)

/-- ITS FALSE NEIGHBOUR: 'it returns false'. Refute it at one input. -/
def lawS0706BSignWrong : ChangeSpec := { name := "lawS0706BSign", vars := ["example.com/latchwork/latchwork/lock.ErrBadDuration"], fn := fun _ => fun
  | [d, g1] => { results := [.lit (.bool false)], args := [d], vars := [g1] }
  | _ => none }
def LawS0706BSignWrongFormAsk : Prop := lawS0706BSignRow.holds Ybaf.pinned (OpenSpec.ofChange lawS0706BSignWrong)

/-- 'lock.LawS0706BHalf': WHATEVER THE INPUT: true; the input reads as it did. -/
def lawS0706BHalfSpec : ChangeSpec := { name := "lawS0706BHalf", vars := ["example.com/latchwork/latchwork/lock.ErrBadDuration"], fn := fun _ => fun
  | [d, g1] => { results := [.lit (.bool true)], args := [d], vars := [g1] }
  | _ => none }
def lawS0706BHalfRow : OpenClaim := { program := "ybulknpefmt", sum := "3b37a84c3495f6431854178c20b339b44765e6a2c3bc70143759540e9d1b47f4", func := "example.com/latchwork/latchwork/lock.LawS0706BHalf", spec := "lawS0706BHalf", stops := ["fmt.errorf, its operands' methods called"], inPlace := ["fmt.errorf"], unfollowed := true, recurses := true, named := ["example.com/latchwork/latchwork/lock.ErrBadDuration"], ifaces := true, apart := false, laid := [("example.com/latchwork/latchwork/lock.ErrBadDuration", laid_example_com_latchwork_latchwork_lock_ErrBadDuration)] }
/-- NO THEOREM (fmt's text is open here; it may be false): for the released tool's asking of the row's closed facts alone. THE STATEMENT IS 'LawS0706BHalfToldSaid' (YbulknpeFmtCards.lean). -/
def LawS0706BHalfFormAsk : Prop := lawS0706BHalfRow.holds Ybaf.pinned (OpenSpec.ofChange lawS0706BHalfSpec)

/-- ITS FALSE NEIGHBOUR: 'it returns false'. Refute it at one input. -/
def lawS0706BHalfWrong : ChangeSpec := { name := "lawS0706BHalf", vars := ["example.com/latchwork/latchwork/lock.ErrBadDuration"], fn := fun _ => fun
  | [d, g1] => { results := [.lit (.bool false)], args := [d], vars := [g1] }
  | _ => none }
def LawS0706BHalfWrongFormAsk : Prop := lawS0706BHalfRow.holds Ybaf.pinned (OpenSpec.ofChange lawS0706BHalfWrong)

end Rows
end Go.Proofs.YbulknpeFmt
