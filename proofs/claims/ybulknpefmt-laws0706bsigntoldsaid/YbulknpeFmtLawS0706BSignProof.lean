/-
  'Rows.LawS0706BSignToldSaid': the told and tied card of lock.LawS0706BSign: CheckWait accepts just the durations that are zero or more, and every refusal wraps ErrBadDuration.
  The walk holds for whatever text fmt gives ('F'): the told card takes it at the told one.
-/
import Derived.Test.YbulknpeFmtCards
import Derived.Test.YbulknpeFmtTie
import Derived.Test.YbulknpeFmtWalks
import Derived.ProofKit
import Derived.WalkSmall
import Derived.Stop.JoinedAt
import Derived.Stop.JoinedTold
import Derived.Stop.Texts
import Derived.Stop.LaidErr
import Derived.SevenToldRow
import Derived.SevenTiedAt
namespace Go.Proofs.YbulknpeFmt.lawS0706BSign
open Go.ChangeShapes Go.WideShapes Go.ChangeAt Go.RowKit Go.Kit
open Go.Extern.Stop Go.Stop Go.Extern
set_option linter.unusedVariables false

theorem own : ownKnob Ybaf.prog.godebug = none := by kernel_rfl
theorem laidOut : laidOutB Ybaf.pinned.checked.prog = true := by kernel_rfl
theorem stopKnobs : Ybaf.pinned.checked.prog.stopKnobs = [] := by kernel_rfl
theorem quiet (os : Os) : Stop.quiet Ybaf.pinned.checked.prog os := by
  intro k hk
  rw [stopKnobs] at hk
  cases hk
/-- The sentinel's name, off the given specification. -/
def nm : String := Rows.lawS0706BSignSpec.vars.headD default
theorem gE : Ybaf.prog.globalNamed nm = some 0 := by kernel_rfl
theorem gEType : (Ybaf.prog.globals[0]?).map (·.type) = some 23 := by kernel_rfl
theorem cells50 : Ybaf.prog.cellsOf 50 = 1 := by kernel_rfl
theorem cells9 : Ybaf.prog.cellsOf 9 = 1 := by kernel_rfl
theorem row48 (u : TypeId) (h : Ybaf.prog.typeName? 3 u = some Ybaf.errName) : u = 48 :=
  typeName_ptr_named (nm := "errors.errorString") (by kernel_rfl) (by kernel_rfl) (by decide) u (h.trans (by kernel_rfl))

/-! ### THE START THAT IS SHOWN: the sentinel lies in a block of its own. -/
abbrev badS : ByteArray := { data := #[98, 97, 100, 32, 100, 117, 114, 97, 116, 105, 111, 110] }
def lowOf (P : Program) : Nat := (World.holding P default ⟨#[], #[], []⟩).heap.size
def laidOf (P : Program) (os : Os) : World :=
  { World.holding P os ⟨#[.cells #[.string badS] 50], #[], []⟩ with heap := (World.holding P os ⟨#[.cells #[.string badS] 50], #[], []⟩).heap.modify 0 fun
      | .cells _ t frozen => .cells #[.iface 48 (.pointer (some ⟨lowOf P, 0, none⟩))] t frozen
      | o => o }
theorem laid_met (os : Os) (args : Array Value) : laidMet Ybaf.prog Rows.lawS0706BSignRow.laid ((laidOf Ybaf.prog os).forCall (fun _ _ => 0) ⟨#[], args, []⟩).memory :=
  laidMet_of_run (ps := [.cell 0 0, .cell (lowOf Ybaf.prog) 0]) 8 (by kernel_rfl) (by kernel_rfl) (by kernel_rfl)

set_option maxRecDepth 100000 in
theorem lifted (os : Os) (started : os.Started) (H : Type) (enc : TypeId × Value → H) :
    ReturnsInTold none {} Ybaf.checked os 3 .any Input.okWide ((OpenSpec.ofChange Rows.lawS0706BSignSpec).preRow enc Ybaf.prog Ybaf.f3 Rows.lawS0706BSignRow.domain false Rows.lawS0706BSignRow.laid)
      (fun F => ((OpenSpec.ofChange Rows.lawS0706BSignSpec).at F).post enc Ybaf.prog Ybaf.f3 false true false false) (aloneAtReturn Ybaf.prog) nothingAlways := by
  refine returnsInTold_of_row (C := Ybaf.checked) (s := OpenSpec.ofChange Rows.lawS0706BSignSpec) (by kernel_rfl) own started (by kernel_rfl) Ybaf.func3
    (OpenSpec.witness_stopped_at (enc := enc) (C := Ybaf.checked) false (laidOf Ybaf.prog os) #[.int .i64 0] rfl (by kernel_rfl) (by kernel_rfl) (by kernel_rfl)
      (OpenSpec.preRow_of_B rfl 8 (by kernel_rfl) (by kernel_rfl) (laid_met os _))) ?_
  intro F W base args ds gs before _ hF hval0 hW _ _ _ hL _
  have hval : ∀ (j : Nat) t v, Ybaf.f3.params[j]? = some t → args[j]? = some v → Value.okWide Ybaf.prog W .any base t v := hval0
  have hW' := hW
  obtain ⟨p, q, hA0, hV0, rfl, hfz, hnd⟩ := hW
  have hA : DataW.TrodAll enc Ybaf.prog W 0 (fun _ => true) true Ybaf.f3.params.toList args.toList ds p := hA0
  have hV : DataW.TrodVars enc Ybaf.prog W (fun _ => true) [nm] gs q := hV0
  rw [Ybaf.params3] at hA hval
  obtain ⟨v0, d0, rfl, rfl, h0⟩ := trodAll_one hA
  obtain ⟨n, rfl, rfl, rfl, wn⟩ := open_int Ybaf.underlying2 (hval 0 2 v0 rfl rfl) h0
  have hL' : laidMet Ybaf.prog [(nm, .iface Ybaf.errName (.ptr (.agg [.lit (.string [98, 97, 100, 32, 100, 117, 114, 97, 116, 105, 111, 110])])))] W := hL
  obtain ⟨a0, s0, hv0, hc0, hs0, hz0⟩ := laid_sentinel hL' gE gEType Ybaf.underlying23 row48 Ybaf.underlying48 Ybaf.underlying50 rfl rfl Ybaf.underlying9 cells50 cells9
  obtain ⟨rfl, rfl⟩ := hV.unique (vars_read1 enc gE gEType Ybaf.underlying23 hv0 trivial _)
  clear hA0 hV0 hval0
  have hg0 : W.cell? ⟨0, 0, none⟩ = some (.iface 48 (.pointer (some a0))) := by simpa using World.var?_cell gE hv0 0
  have hgB : 0 < W.heap.size := World.block_lt_of_cell? _ _ hg0
  have e1 : ((OpenSpec.ofChange Rows.lawS0706BSignSpec).at F.told).fn H ([.lit (.int .i64 n)] ++ [tok enc (.iface 48 (.pointer (some a0)))]) = { results := [.lit (.bool true)], args := [.lit (.int .i64 n)], vars := [tok enc (.iface 48 (.pointer (some a0)))] } := rfl
  have fin : ∀ (e : Ending) (W' : World), (e = .returned (.bool true) ∧ Below W.heap.size W W') → ∃ v, e = .returned v ∧ ((OpenSpec.ofChange Rows.lawS0706BSignSpec).at F.told).post enc Ybaf.checked.prog Ybaf.f3 false true false false W #[.int .i64 n] v W' := by
    rintro e W' ⟨rfl, hb⟩
    refine ⟨_, rfl, _, _, _, [], [], [.cell 0 0], hW', ?_, ?_, ?_, hb.frame _, fun h => by cases h⟩
    · rw [e1]; exact trodAll_mk1 (shut_bool Ybaf.underlying4 true)
    · rw [e1]; exact trodAll_mk1 (shut_int Ybaf.underlying2 wn)
    · rw [e1]; exact vars_read1 enc gE gEType Ybaf.underlying23 (var?_below hb gE hgB hv0) trivial _
  by_cases hn : n < 0
  · exact (law_neg F.told n a0 s0 W hF hg0 hc0 (by simp [Lit.wf] at wn; have e1 : IntKind.i64.min = -9223372036854775808 := rfl; omega) hn).mono fin
  · exact (law_nil n W hn).mono fin

/-- ████ THE STATEMENT ████ -/
theorem proved : Rows.LawS0706BSignToldSaid :=
  Claim7.holds_of_told_tied_any_at .later 3 Ybaf.f3 _ _ [] _ _ _ _ _ (by kernel_rfl) rfl rfl rfl laidOut (by kernel_rfl) rfl ⟨rfl, rfl, rfl, rfl, rfl, rfl, rfl⟩ rfl rfl (by kernel_rfl) (by kernel_rfl) Ybaf.func3 (by kernel_rfl)
    (of_decide_eq_true (by kernel_rfl)) (of_decide_eq_true (by kernel_rfl)) (by kernel_rfl) rfl stopKnobs.symm (by kernel_rfl)
    (by kernel_rfl) (by kernel_rfl) (by kernel_rfl) (by kernel_rfl) (by kernel_rfl) (by kernel_rfl) (by kernel_rfl) (by kernel_rfl) (by kernel_rfl) rfl (by kernel_rfl) rfl rfl
    rfl rfl
    rfl (by kernel_rfl) (by kernel_rfl) (by kernel_rfl) (by decide) (by kernel_rfl) lawS0706BSign_row_tie
    (OpenClaim.moreEntering_of (by kernel_rfl) (by kernel_rfl) (by kernel_rfl) (by kernel_rfl) (by kernel_rfl) (by kernel_rfl) (by kernel_rfl) (by kernel_rfl) (by kernel_rfl) (by kernel_rfl))
    ⟨_, WideRow.started_initial, quiet _⟩
    (fun os started _ H enc _ => lifted os started H enc)
end Go.Proofs.YbulknpeFmt.lawS0706BSign
