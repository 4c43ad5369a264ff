/-
  'Rows.LawS0708BEmptyCardSaid': the tied card of ladron.LawS0708BEmpty: a scheduler's zero value answers every completeYield with ErrNoProcess.
-/
import Derived.Test.YbulknqgDoorCards
import Derived.Test.YbulknqgDoorTie
import Derived.Test.YbulknqgDoorEmpty
import Derived.Test.YbulknqgDoorLaid
import Derived.SevenTiedAt
namespace Go.Proofs.YbulknqgDoor.lawS0708BEmpty
open Go.ChangeShapes Go.WideShapes Go.ChangeAt Go.RowKit
set_option linter.unusedVariables false

set_option maxRecDepth 100000 in
theorem lifted (os : Os) (started : os.Started) (H : Type) (enc : TypeId × Value → H) :
    ReturnsInHanded {} Ybad.checked os 3 .any (fun w args => (Rows.lawS0708BEmptySpec.pre enc Ybad.prog Ybad.f3 [] false w args ∧ laidMetH Ybad.prog Rows.lawS0708BEmptyRow.laid w) ∧ sizedMet enc Ybad.prog Ybad.f3 (OpenSpec.ofChange Rows.lawS0708BEmptySpec) false w args)
      (Rows.lawS0708BEmptySpec.post enc Ybad.prog Ybad.f3 false true false false) := by
  refine returnsInHanded_of_change_and (C := Ybad.checked) (X := fun w _ => laidMetH Ybad.prog Rows.lawS0708BEmptyRow.laid w) (fun _ _ _ hh h => h.of_heap hh) Ybad.own started (by kernel_rfl) Ybad.func3
    (ChangeSpec.witness_at (enc := enc) (C := Ybad.checked) (os := os) (X := fun w _ => laidMetH Ybad.prog Rows.lawS0708BEmptyRow.laid w) false (laidOf Ybad.prog os) #[.int .u64 0, .int .u64 0] 8 rfl (by kernel_rfl) (by kernel_rfl) (by kernel_rfl) (by kernel_rfl) (by kernel_rfl) (laid_met os _)) ?_
  intro W base args ds gs before hval0 hW _ _ hL _
  have hval : ∀ (j : Nat) t v, Ybad.f3.params[j]? = some t → args[j]? = some v → Value.okWide Ybad.prog W .any base t v := hval0
  have hW' := hW
  obtain ⟨p, q, hA0, hV0, rfl, hfz, hnd⟩ := hW
  have hA : DataW.TrodAll enc Ybad.prog W 0 (fun _ => true) true Ybad.f3.params.toList args.toList ds p := hA0
  have hV : DataW.TrodVars enc Ybad.prog W (fun _ => true) [nmN, nmU, nmC] gs q := hV0
  rw [Ybad.params3] at hA hval
  obtain ⟨v0, v1, d0, d1, p0, p1, rfl, rfl, rfl, h0, h1⟩ := trodAll_two hA
  obtain ⟨x, rfl, rfl, rfl, wx⟩ := open_int Ybad.underlying22 (hval 0 22 v0 rfl rfl) h0
  obtain ⟨y, rfl, rfl, rfl, wy⟩ := open_int Ybad.underlying22 (hval 1 22 v1 rfl rfl) h1
  obtain ⟨aN, aU, aC, hN, hU, hC⟩ := of_laid hL
  obtain ⟨rfl, rfl⟩ := hV.unique (vars_read enc hN hU hC trivial trivial trivial _)
  clear hA0 hV0 hval0
  have hg0 : W.cell? ⟨0, 0, none⟩ = some (.iface 188 (.pointer (some aN))) := by simpa using World.var?_cell gN hN 0
  have hg1 : W.cell? ⟨1, 0, none⟩ = some (.iface 188 (.pointer (some aU))) := by simpa using World.var?_cell gU hU 0
  have hg2 : W.cell? ⟨2, 0, none⟩ = some (.iface 188 (.pointer (some aC))) := by simpa using World.var?_cell gC hC 0
  have l0 : 0 < W.heap.size := World.block_lt_of_cell? _ _ hg0
  have l1 : 1 < W.heap.size := World.block_lt_of_cell? _ _ hg1
  have l2 : 2 < W.heap.size := World.block_lt_of_cell? _ _ hg2
  have e1 : Rows.lawS0708BEmptySpec.fn H ([.lit (.int .u64 x), .lit (.int .u64 y)] ++ [tok enc (.iface 188 (.pointer (some aN))), tok enc (.iface 188 (.pointer (some aU))), tok enc (.iface 188 (.pointer (some aC)))]) = { results := [.lit (.bool true)], args := [.lit (.int .u64 x), .lit (.int .u64 y)], vars := [tok enc (.iface 188 (.pointer (some aN))), tok enc (.iface 188 (.pointer (some aU))), tok enc (.iface 188 (.pointer (some aC)))] } := rfl
  refine (empty_walk x y aN W hg0).mono fun e W' ⟨he, hb⟩ => ?_
  subst he
  refine ⟨_, rfl, _, _, _, [], [], [.cell 0 0, .cell 1 0, .cell 2 0], hW', ?_, ?_, ?_, hb.frame _, fun h => by cases h⟩
  · rw [e1]; exact trodAll_mk1 (shut_bool Ybad.underlying4 true)
  · rw [e1]; exact trodAll_mk2 (shut_int Ybad.underlying22 wx) (shut_int Ybad.underlying22 wy)
  · rw [e1]; exact vars_read enc (var?_below hb gN l0 hN) (var?_below hb gU l1 hU) (var?_below hb gC l2 hC) trivial trivial trivial _

theorem row_holds : Rows.LawS0708BEmptySaid :=
  OpenClaim.holds_of_wide 3 Ybad.f3 rfl rfl rfl rfl rfl rfl rfl ⟨rfl, rfl, rfl, rfl, rfl⟩ rfl rfl rfl rfl rfl (by kernel_rfl) Ybad.func3 (by kernel_rfl)
    (of_decide_eq_true (by kernel_rfl)) (by unfold Func.isWrapper; first | (rw [if_pos (by decide +kernel)]; kernel_rfl) | (rw [if_neg (by decide +kernel)]; exact ⟨rfl, rfl⟩))
    (fun os started H enc _ => lifted os started H enc)

/-- ████ THE STATEMENT ████ -/
theorem proved : Rows.LawS0708BEmptyCardSaid :=
  Claim7.holds_tied_plain_at .later [] [.sentinel, .sentinel, .sentinel] true _ true
    row_holds (fun _ h => by cases h) (by kernel_rfl) (fun _ h => by cases h) lawS0708BEmpty_row_tie rfl ⟨rfl, rfl⟩ (by kernel_rfl) rfl
    (fun f fn hf hfn => by
      obtain rfl : f = 3 := Option.some.inj ((show Ybad.prog.funcNamed Rows.lawS0708BEmptyRow.func = some 3 by kernel_rfl).symm.trans hf) |>.symm
      obtain rfl : fn = Ybad.f3 := (Option.some.inj (Ybad.func3.symm.trans hfn)).symm
      exact ⟨by kernel_rfl, fun j t ht => by
        rw [Ybad.params3] at ht
        have h3 : t = 22 := by
          rcases j with _ | _ | j
          · simpa using ht.symm
          · simpa using ht.symm
          · simp at ht
        subst h3
        exact (show Ybad.prog.wantsStandIn 22 = false by kernel_rfl)⟩)
    (by kernel_rfl)
end Go.Proofs.YbulknqgDoor.lawS0708BEmpty
