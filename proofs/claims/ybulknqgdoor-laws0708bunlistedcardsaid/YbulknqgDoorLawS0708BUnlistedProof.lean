/-
  'Rows.LawS0708BUnlistedCardSaid': the tied card of ladron.LawS0708BUnlisted: with one process listed, a PID that names no accepted process is answered with ErrNoProcess.
-/
import Derived.Test.YbulknqgDoorCards
import Derived.Test.YbulknqgDoorTie
import Derived.Test.YbulknqgDoorUnlisted
import Derived.Test.YbulknqgDoorLaid
import Derived.SevenTiedAt
namespace Go.Proofs.YbulknqgDoor.lawS0708BUnlisted
open Go.ChangeShapes Go.WideShapes Go.ChangeAt Go.RowKit
set_option linter.unusedVariables false

set_option maxRecDepth 100000 in
theorem lifted (os : Os) (started : os.Started) (H : Type) (enc : TypeId × Value → H) :
    ReturnsInHanded {} Ybad.checked os 4 .any (fun w args => (Rows.lawS0708BUnlistedSpec.pre enc Ybad.prog Ybad.f4 [] false w args ∧ laidMetH Ybad.prog Rows.lawS0708BUnlistedRow.laid w) ∧ sizedMet enc Ybad.prog Ybad.f4 (OpenSpec.ofChange Rows.lawS0708BUnlistedSpec) false w args)
      (Rows.lawS0708BUnlistedSpec.post enc Ybad.prog Ybad.f4 false true false false) := by
  refine returnsInHanded_of_change_and (C := Ybad.checked) (X := fun w _ => laidMetH Ybad.prog Rows.lawS0708BUnlistedRow.laid w) (fun _ _ _ hh h => h.of_heap hh) Ybad.own started (by kernel_rfl) Ybad.func4
    (ChangeSpec.witness_at (enc := enc) (C := Ybad.checked) (os := os) (X := fun w _ => laidMetH Ybad.prog Rows.lawS0708BUnlistedRow.laid w) false (laidOf Ybad.prog os) #[.int .u32 0, .int .u16 0, .int .u64 0, .bool false, .bool false, .int .u64 0] 8 rfl (by kernel_rfl) (by kernel_rfl) (by kernel_rfl) (by kernel_rfl) (by kernel_rfl) (laid_met os _)) ?_
  intro W base args ds gs before hval0 hW _ _ hL _
  have hval : ∀ (j : Nat) t v, Ybad.f4.params[j]? = some t → args[j]? = some v → Value.okWide Ybad.prog W .any base t v := hval0
  have hW' := hW
  obtain ⟨p, q, hA0, hV0, rfl, hfz, hnd⟩ := hW
  have hA : DataW.TrodAll enc Ybad.prog W 0 (fun _ => true) true Ybad.f4.params.toList args.toList ds p := hA0
  have hV : DataW.TrodVars enc Ybad.prog W (fun _ => true) [nmN, nmU, nmC] gs q := hV0
  rw [Ybad.params4] at hA hval
  obtain ⟨v0, _, d0, _, p0, _, ha, rfl, rfl, h0, hA1⟩ := trodAll_cons hA
  obtain ⟨v1, _, d1, _, p1, _, rfl, rfl, rfl, h1, hA2⟩ := trodAll_cons hA1
  obtain ⟨v2, _, d2, _, p2, _, rfl, rfl, rfl, h2, hA3⟩ := trodAll_cons hA2
  obtain ⟨v3, _, d3, _, p3, _, rfl, rfl, rfl, h3, hA4⟩ := trodAll_cons hA3
  obtain ⟨v4, _, d4, _, p4, _, rfl, rfl, rfl, h4, hA5⟩ := trodAll_cons hA4
  obtain ⟨v5, _, d5, _, p5, _, rfl, rfl, rfl, h5, hA6⟩ := trodAll_cons hA5
  obtain ⟨rfl, rfl, rfl⟩ := trodAll_nil hA6
  obtain rfl : args = #[v0, v1, v2, v3, v4, v5] := by cases args; simp_all
  obtain ⟨x0, rfl, rfl, rfl, w0⟩ := open_int Ybad.underlying33 (hval 0 33 v0 rfl rfl) h0
  obtain ⟨x1, rfl, rfl, rfl, w1⟩ := open_int Ybad.underlying77 (hval 1 77 v1 rfl rfl) h1
  obtain ⟨x2, rfl, rfl, rfl, w2⟩ := open_int Ybad.underlying22 (hval 2 22 v2 rfl rfl) h2
  obtain ⟨x3, rfl, rfl, rfl⟩ := open_bool Ybad.underlying4 (hval 3 4 v3 rfl rfl) h3
  obtain ⟨x4, rfl, rfl, rfl⟩ := open_bool Ybad.underlying4 (hval 4 4 v4 rfl rfl) h4
  obtain ⟨x5, rfl, rfl, rfl, w5⟩ := open_int Ybad.underlying22 (hval 5 22 v5 rfl rfl) h5
  have r0 : 0 ≤ x0 ∧ x0 < 4294967296 := by simp [Lit.wf, IntKind.min, IntKind.max, IntKind.signed, IntKind.bits] at w0; omega
  have r1 : 0 ≤ x1 ∧ x1 < 65536 := by simp [Lit.wf, IntKind.min, IntKind.max, IntKind.signed, IntKind.bits] at w1; omega
  obtain ⟨aN, aU, aC, hN, hU, hC⟩ := of_laid hL
  obtain ⟨rfl, rfl⟩ := hV.unique (vars_read enc hN hU hC trivial trivial trivial _)
  clear hA0 hV0 hval0
  have hg0 : W.cell? ⟨0, 0, none⟩ = some (.iface 188 (.pointer (some aN))) := by simpa using World.var?_cell gN hN 0
  have hg1 : W.cell? ⟨1, 0, none⟩ = some (.iface 188 (.pointer (some aU))) := by simpa using World.var?_cell gU hU 0
  have hg2 : W.cell? ⟨2, 0, none⟩ = some (.iface 188 (.pointer (some aC))) := by simpa using World.var?_cell gC hC 0
  have l0 : 0 < W.heap.size := World.block_lt_of_cell? _ _ hg0
  have l1 : 1 < W.heap.size := World.block_lt_of_cell? _ _ hg1
  have l2 : 2 < W.heap.size := World.block_lt_of_cell? _ _ hg2
  have e1 : Rows.lawS0708BUnlistedSpec.fn H ([.lit (.int .u32 x0), .lit (.int .u16 x1), .lit (.int .u64 x2), .lit (.bool x3), .lit (.bool x4), .lit (.int .u64 x5)] ++ [tok enc (.iface 188 (.pointer (some aN))), tok enc (.iface 188 (.pointer (some aU))), tok enc (.iface 188 (.pointer (some aC)))]) = { results := [.lit (.bool true)], args := [.lit (.int .u32 x0), .lit (.int .u16 x1), .lit (.int .u64 x2), .lit (.bool x3), .lit (.bool x4), .lit (.int .u64 x5)], vars := [tok enc (.iface 188 (.pointer (some aN))), tok enc (.iface 188 (.pointer (some aU))), tok enc (.iface 188 (.pointer (some aC)))] } := rfl
  refine (unlisted_any x0 x1 x2 x5 x3 x4 aN W hg0 r0.1 r0.2 r1.1 r1.2).mono fun e W' ⟨he, hb⟩ => ?_
  subst he
  refine ⟨_, rfl, _, _, _, [], [], [.cell 0 0, .cell 1 0, .cell 2 0], hW', ?_, ?_, ?_, hb.frame _, fun h => by cases h⟩
  · rw [e1]; exact trodAll_mk1 (shut_bool Ybad.underlying4 true)
  · rw [e1]; exact ⟨[], [], shut_int Ybad.underlying33 w0, ⟨[], [], shut_int Ybad.underlying77 w1, ⟨[], [], shut_int Ybad.underlying22 w2, ⟨[], [], shut_bool Ybad.underlying4 x3, trodAll_mk2 (shut_bool Ybad.underlying4 x4) (shut_int Ybad.underlying22 w5), rfl⟩, rfl⟩, rfl⟩, rfl⟩
  · rw [e1]; exact vars_read enc (var?_below hb gN l0 hN) (var?_below hb gU l1 hU) (var?_below hb gC l2 hC) trivial trivial trivial _

theorem row_holds : Rows.LawS0708BUnlistedSaid :=
  OpenClaim.holds_of_wide 4 Ybad.f4 rfl rfl rfl rfl rfl rfl rfl ⟨rfl, rfl, rfl, rfl, rfl⟩ rfl rfl rfl rfl rfl (by kernel_rfl) Ybad.func4 (by kernel_rfl)
    (of_decide_eq_true (by kernel_rfl)) (by unfold Func.isWrapper; first | (rw [if_pos (by decide +kernel)]; kernel_rfl) | (rw [if_neg (by decide +kernel)]; exact ⟨rfl, rfl⟩))
    (fun os started H enc _ => lifted os started H enc)

/-- ████ THE STATEMENT ████ -/
theorem proved : Rows.LawS0708BUnlistedCardSaid :=
  Claim7.holds_tied_plain_at .later [] [.sentinel, .sentinel, .sentinel] true _ true
    row_holds (fun _ h => by cases h) (by kernel_rfl) (fun _ h => by cases h) lawS0708BUnlisted_row_tie rfl ⟨rfl, rfl⟩ (by kernel_rfl) rfl
    (fun f fn hf hfn => by
      obtain rfl : f = 4 := Option.some.inj ((show Ybad.prog.funcNamed Rows.lawS0708BUnlistedRow.func = some 4 by kernel_rfl).symm.trans hf) |>.symm
      obtain rfl : fn = Ybad.f4 := (Option.some.inj (Ybad.func4.symm.trans hfn)).symm
      exact ⟨by kernel_rfl, fun j t ht => by
        rw [Ybad.params4] at ht
        have h3 : t = 33 ∨ t = 77 ∨ t = 22 ∨ t = 4 := by
          rcases j with _ | _ | _ | _ | _ | _ | j <;> simp at ht <;> subst ht <;> simp
        rcases h3 with rfl | rfl | rfl | rfl
        · exact (show Ybad.prog.wantsStandIn 33 = false by kernel_rfl)
        · exact (show Ybad.prog.wantsStandIn 77 = false by kernel_rfl)
        · exact (show Ybad.prog.wantsStandIn 22 = false by kernel_rfl)
        · exact (show Ybad.prog.wantsStandIn 4 = false by kernel_rfl)⟩)
    (by kernel_rfl)
end Go.Proofs.YbulknqgDoor.lawS0708BUnlisted
