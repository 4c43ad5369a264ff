/-
  What the three listed sentinels give the two walks; the start that is shown.
-/
import Derived.Test.YbulknqgDoorRows
import Derived.ProofKit
import Derived.WalkSmall
import Derived.ChangeSame
import Derived.ChangeVars
import Derived.JoinedOf
import Derived.RowKit
import Derived.RowKitTokens
import Derived.LaidLaws
import Derived.LaidHandle
import Derived.MakeChecks
import Derived.Stop.Joined
import Derived.Stop.LaidErr
namespace Go.Proofs.YbulknqgDoor
open Go.ChangeShapes Go.WideShapes Go.ChangeAt Go.RowKit
set_option linter.unusedVariables false

theorem Ybad.own : ownKnob Ybad.prog.godebug = none := by kernel_rfl
/-- The sentinels' names, off the given specification. -/
def nmN : String := Rows.lawS0708BEmptySpec.vars.headD default
def nmU : String := Rows.lawS0708BEmptySpec.vars.tail.headD default
def nmC : String := Rows.lawS0708BEmptySpec.vars.tail.tail.headD default
theorem gN : Ybad.prog.globalNamed nmN = some 0 := by kernel_rfl
theorem gU : Ybad.prog.globalNamed nmU = some 1 := by kernel_rfl
theorem gC : Ybad.prog.globalNamed nmC = some 2 := by kernel_rfl
theorem tN : (Ybad.prog.globals[0]?).map (·.type) = some 73 := by kernel_rfl
theorem tU : (Ybad.prog.globals[1]?).map (·.type) = some 73 := by kernel_rfl
theorem tC : (Ybad.prog.globals[2]?).map (·.type) = some 73 := by kernel_rfl
theorem cells223 : Ybad.prog.cellsOf 223 = 1 := by kernel_rfl
theorem cells9 : Ybad.prog.cellsOf 9 = 1 := by kernel_rfl
/-- The sentinels' type's name, off the given datum. -/
def errName : String := match (Rows.laid_example_com_ladron_ladron_ErrClosed : DataW Unit) with
  | .iface n _ => n
  | _ => default
theorem row188 (u : TypeId) (h : Ybad.prog.typeName? 3 u = some errName) : u = 188 :=
  typeName_ptr_named (nm := "errors.errorString") (by kernel_rfl) (by kernel_rfl) (by decide) u (h.trans (by kernel_rfl))

/-- What the condition gives: each variable holds an interface value of a pointer that is not nil. -/
theorem of_laid {W : World} (h : laidMetH Ybad.prog Rows.lawS0708BEmptyRow.laid W) : ∃ aN aU aC : Addr,
    W.var? Ybad.prog nmN = some #[.iface 188 (.pointer (some aN))] ∧ W.var? Ybad.prog nmU = some #[.iface 188 (.pointer (some aU))] ∧ W.var? Ybad.prog nmC = some #[.iface 188 (.pointer (some aC))] := by
  rw [MakeChecks.laidMetH_plain _ _ _ (by kernel_rfl)] at h
  obtain ⟨aC, _, hC, _, _, _⟩ := laid_sentinel (n := nmC) h gC tC Ybad.underlying73 row188 Ybad.underlying188 Ybad.underlying223 rfl rfl Ybad.underlying9 cells223 cells9
  obtain ⟨aN, _, hN, _, _, _⟩ := laid_sentinel (n := nmN) h.tail gN tN Ybad.underlying73 row188 Ybad.underlying188 Ybad.underlying223 rfl rfl Ybad.underlying9 cells223 cells9
  obtain ⟨aU, _, hU, _, _, _⟩ := laid_sentinel (n := nmU) h.tail.tail gU tU Ybad.underlying73 row188 Ybad.underlying188 Ybad.underlying223 rfl rfl Ybad.underlying9 cells223 cells9
  exact ⟨aN, aU, aC, hN, hU, hC⟩

theorem vars_read {H : Type} (enc : TypeId × Value → H) {W : World} {x0 x1 x2 : Value} (h0 : W.var? Ybad.prog nmN = some #[x0]) (h1 : W.var? Ybad.prog nmU = some #[x1]) (h2 : W.var? Ybad.prog nmC = some #[x2]) (i0 : IsIface x0) (i1 : IsIface x1) (i2 : IsIface x2) (sp : Nat → Bool) :
    DataW.TrodVars enc Ybad.prog W sp [nmN, nmU, nmC] [tok enc x0, tok enc x1, tok enc x2] [.cell 0 0, .cell 1 0, .cell 2 0] :=
  ⟨0, 73, #[x0], 1, [], [.cell 1 0, .cell 2 0], gN, tN, h0, trod_held Ybad.underlying73 i0 0,
    ⟨1, 73, #[x1], 1, [], [.cell 2 0], gU, tU, h1, trod_held Ybad.underlying73 i1 0, ⟨2, 73, #[x2], 1, [], [], gC, tC, h2, trod_held Ybad.underlying73 i2 0, rfl, rfl⟩, rfl⟩, rfl⟩

/-! ### THE START THAT IS SHOWN: each sentinel lies in a block of its own. -/
abbrev bytN : ByteArray := { data := #[108, 97, 100, 114, 111, 110, 58, 32, 110, 111, 32, 108, 105, 118, 101, 32, 112, 114, 111, 99, 101, 115, 115, 32, 104, 97, 115, 32, 116, 104, 97, 116, 32, 80, 73, 68] }
abbrev bytU : ByteArray := { data := #[108, 97, 100, 114, 111, 110, 58, 32, 116, 104, 101, 32, 112, 114, 111, 99, 101, 115, 115, 32, 104, 97, 115, 32, 110, 111, 32, 121, 105, 101, 108, 100, 32, 116, 111, 32, 99, 111, 109, 112, 108, 101, 116, 101, 32, 117, 110, 100, 101, 114, 32, 116, 104, 97, 116, 32, 116, 97, 103] }
abbrev bytC : ByteArray := { data := #[108, 97, 100, 114, 111, 110, 58, 32, 115, 99, 104, 101, 100, 117, 108, 101, 114, 32, 105, 115, 32, 115, 104, 117, 116, 32, 100, 111, 119, 110] }
def lowOf (P : Program) : Nat := (World.holding P default ⟨#[], #[], []⟩).heap.size
def putCell (x : Value) : Obj → Obj
  | .cells _ t frozen => .cells #[x] t frozen
  | o => o
def heldOf (P : Program) (os : Os) : World := World.holding P os ⟨#[.cells #[.string bytN] 223, .cells #[.string bytU] 223, .cells #[.string bytC] 223], #[], []⟩
def laidOf (P : Program) (os : Os) : World :=
  { heldOf P os with heap := (((heldOf P os).heap.modify 0 (putCell (.iface 188 (.pointer (some ⟨lowOf P, 0, none⟩))))).modify 1 (putCell (.iface 188 (.pointer (some ⟨lowOf P + 1, 0, none⟩))))).modify 2 (putCell (.iface 188 (.pointer (some ⟨lowOf P + 2, 0, none⟩)))) }
theorem laid_met (os : Os) (args : Array Value) : laidMetH Ybad.prog Rows.lawS0708BEmptyRow.laid ((laidOf Ybad.prog os).forCall (fun _ _ => 0) ⟨#[], args, []⟩).memory := by
  rw [MakeChecks.laidMetH_plain _ _ _ (by kernel_rfl)]
  exact laidMet_of_run (ps := [.cell 2 0, .cell (lowOf Ybad.prog + 2) 0, .cell 0 0, .cell (lowOf Ybad.prog) 0, .cell 1 0, .cell (lowOf Ybad.prog + 1) 0]) 8 (by kernel_rfl) (by kernel_rfl) (by kernel_rfl)
end Go.Proofs.YbulknqgDoor
