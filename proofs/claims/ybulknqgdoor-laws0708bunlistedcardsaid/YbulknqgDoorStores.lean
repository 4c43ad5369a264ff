/-
  sync/atomic's stores on the road of the second law.
-/
import Derived.Test.YbulknqgDoorList
import Derived.Deep.RegionHeld3
namespace Go.Proofs.YbulknqgDoor
open Go.RowKit
set_option linter.unusedVariables false

theorem b32_off (w : World) : Calls Ybad.prog 13 #[.bool false] w fun e w' => e = .returned (.int .u32 0) ∧ w = w' := by
  go_enter Ybad.func13, Ybad.ntmps13
  go_wp2
  go_ret
  exact ⟨rfl, rfl⟩
theorem b32_on (w : World) : Calls Ybad.prog 13 #[.bool true] w fun e w' => e = .returned (.int .u32 1) ∧ w = w' := by
  go_enter Ybad.func13, Ybad.ntmps13
  go_wp2
  go_ret
  exact ⟨rfl, rfl⟩
theorem proc_store (b o p : Nat) (u : Value) (w : World) (hc : w.cell? ⟨b, o, none⟩ = some u) (hf : w.frozen? ⟨b, o, none⟩ = false) (hsh : w.shape? p = some (106, 18)) :
    Calls Ybad.prog 7 #[.pointer (some ⟨b, o, none⟩), .pointer (some ⟨p, 0, none⟩)] w fun e w' => e = .returned (.tuple #[]) ∧ w' = w.setCell ⟨b, o, none⟩ (.pointer (some ⟨p, 0, none⟩)) := by
  have h := run_call_storePtr (P := Ybad.prog) (y := some ⟨p, 0, none⟩) Ybad.func14 (by kernel_rfl) (by kernel_rfl) (by kernel_rfl) (by kernel_rfl) hc hf
  have hb := conv_to 80 106 Ybad.underlying80 ⟨p, 0, none⟩ 18 17 w (by kernel_rfl) hsh (Nat.zero_lt_succ 17)
  go_enter Ybad.func7, Ybad.ntmps7
  go_wp2
  go_end0
  exact ⟨rfl, rfl⟩
theorem chunks_store (b o c : Nat) (u : Value) (w : World) (hc : w.cell? ⟨b, o, none⟩ = some u) (hf : w.frozen? ⟨b, o, none⟩ = false) (hsh : w.shape? c = some (109, 1)) :
    Calls Ybad.prog 8 #[.pointer (some ⟨b, o, none⟩), .pointer (some ⟨c, 0, none⟩)] w fun e w' => e = .returned (.tuple #[]) ∧ w' = w.setCell ⟨b, o, none⟩ (.pointer (some ⟨c, 0, none⟩)) := by
  have h := run_call_storePtr (P := Ybad.prog) (y := some ⟨c, 0, none⟩) Ybad.func14 (by kernel_rfl) (by kernel_rfl) (by kernel_rfl) (by kernel_rfl) hc hf
  have hb := conv_to 52 109 Ybad.underlying52 ⟨c, 0, none⟩ 1 0 w (by kernel_rfl) hsh (Nat.zero_lt_succ 0)
  go_enter Ybad.func8, Ybad.ntmps8
  go_wp2
  go_end0
  exact ⟨rfl, rfl⟩
theorem bool_store (b o : Nat) (x : Int) (v : Bool) (w : World) (hc : w.cell? ⟨b, o, none⟩ = some (.int .u32 x)) (hf : w.frozen? ⟨b, o, none⟩ = false) :
    Calls Ybad.prog 6 #[.pointer (some ⟨b, o, none⟩), .bool v] w fun e w' => e = .returned (.tuple #[]) ∧ w' = w.drew.setCell ⟨b, o, none⟩ (.int .u32 (if v then 1 else 0)) := by
  have h : ∀ y : Int, (callFunc 12 #[.pointer (some ⟨b, o, none⟩), .int .u32 y]).run Ybad.prog w.drew = .ok (.value (.tuple #[])) (w.drew.setCell ⟨b, o, none⟩ (.int .u32 y)) := fun y => run_call_store (P := Ybad.prog) (k := .u32) (y := y) (w := w.drew) Ybad.func12 (by kernel_rfl) (by kernel_rfl) (by kernel_rfl) (by kernel_rfl) hc hf
  cases v
  · go_enter Ybad.func6, Ybad.ntmps6
    go_wp2_with fail
    go_region_held3 (fun _ => True)
      (trivial)
      ((go_at_call 13; refine (b32_off _).mono ?_; rintro e w' ⟨rfl, rfl⟩))
    go_wp2
    go_end0
    exact ⟨rfl, rfl⟩
  · go_enter Ybad.func6, Ybad.ntmps6
    go_wp2_with fail
    go_region_held3 (fun _ => True)
      (trivial)
      ((go_at_call 13; refine (b32_on _).mono ?_; rintro e w' ⟨rfl, rfl⟩))
    go_wp2
    go_end0
    exact ⟨rfl, rfl⟩
end Go.Proofs.YbulknqgDoor
