/-
  The walk of LawS0708BEmpty: a scheduler's zero value knows no process.
-/
import Derived.Test.YbulknqgDoorRoad
import Derived.LaidEql
import Derived.BigQuiet
import Derived.WalkSmall
import Derived.Stop.LaidErr
import Derived.Deep.QuietTactic
namespace Go.Proofs.YbulknqgDoor
open Go.RowKit
set_option linter.unusedVariables false

theorem eql73 (a : Addr) (w : World) : (binOp .eql 73 (.iface 188 (.pointer (some a))) (.iface 188 (.pointer (some a)))).run Ybad.prog w = .ok (.bool true) w := by
  obtain ⟨i, hi, hc⟩ := Option.map_eq_some_iff.1 (show (Ybad.prog.info? 188).map (·.comparable) = some true by kernel_rfl)
  obtain ⟨j, hj, _⟩ := Option.map_eq_some_iff.1 (show (Ybad.prog.info? 223).map (·.size) = some 1 by kernel_rfl)
  exact run_eql_iface_ptr_same w a Ybad.underlying73 Ybad.underlying188 hi hc hj

theorem empty_walk (q t : Int) (a : Addr) (w : World) (hg : w.cell? ⟨0, 0, none⟩ = some (.iface 188 (.pointer (some a)))) :
    Calls Ybad.prog 3 #[.int .u64 q, .int .u64 t] w fun e w' => e = .returned (.bool true) ∧ Below w.heap.size w w' := by
  have he := eql73 a
  go_enter Ybad.func3, Ybad.ntmps3
  go_wp2_with fail
  have hlt : 0 < w.heap.size := World.block_lt_of_cell? _ _ hg
  generalize hA : (#[.nilIface, .int .i64 0, .int .u64 0, .int .i64 0, .pointer none, .slice none 0 0, .int .i32 0, .int .u32 0, .nilIface, .int .u32 0, .int .u32 0, .int .u64 0, .pointer none, .pointer none, .int .u64 0, .int .i32 0, .int .i32 0, .pointer none, .pointer none, .pointer none, .int .i32 0, .pointer none, .int .i32 0, .int .u32 0, .int .u64 0, .int .u64 0, .int .i64 0, .int .u32 0, .bool false, .chan none, .int .u64 0, .int .u32 0] : Array Value) = A
  have hg' : (w.alloc (.cells A 71)).cell? ⟨0, 0, none⟩ = some (.iface 188 (.pointer (some a))) := cell?_alloc_old _ hg
  have h21 : (w.alloc (.cells A 71)).cell? ⟨w.heap.size, 21, none⟩ = some (.pointer none) := by rw [World.cell?_alloc_at _ _ _ _ rfl, ← hA]; rfl
  have h29 : (w.alloc (.cells A 71)).cell? ⟨w.heap.size, 29, none⟩ = some (.chan none) := by rw [World.cell?_alloc_at _ _ _ _ rfl, ← hA]; rfl
  clear hA
  have hB : Below w.heap.size w (w.alloc (.cells A 71)) := (Below.refl _ _).alloc (Nat.le_refl _) _
  generalize (w.alloc (.cells A 71)) = W at hg' h21 h29 hB ⊢
  generalize w.heap.size = b at h21 h29 ⊢
  have hl : ∀ w2 : World, (∀ ad, w2.cell? ad = W.cell? ad) → Calls Ybad.prog 5 #[.pointer (some ⟨b, 0, none⟩), .int .u64 q, .int .u64 t, .nilIface, .nilIface, .pointer none] w2 fun e w' => e = .returned (.iface 188 (.pointer (some a))) ∧ w' = w2 := fun w2 h2 =>
    Calls.mono (complete_none b q t 188 a w2 (lookup_nil b q _ w2 (by rw [h2]; exact h29) (by rw [h2]; exact hg') (get_nil ⟨b, 21, none⟩ q w2 (slot_nil b 21 q w2 (by rw [h2]; exact h21))))) fun _ _ h => ⟨h.1, h.2.symm⟩
  go_quiet ((go_at_call 5; refine Calls.quiet_of_same (hl _ (fun _ => rfl))))
  go_wp2
  go_ret
  exact ⟨rfl, below_drewN hB _⟩
end Go.Proofs.YbulknqgDoor
