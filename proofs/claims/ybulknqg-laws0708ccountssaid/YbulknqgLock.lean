/-
  atomic.Int32, sync.Mutex (free, uncontended) and sync.Cond.Signal (nobody waits), one goroutine: each by a contract.
-/
import Derived.Test.YbulknqgAtoms
namespace Go.Proofs.Ybulknqg
open Go.RowKit
set_option linter.unusedVariables false
set_option linter.unusedSimpArgs false

theorem i32_load (b o : Nat) (x : Int) (w : World) (hc : w.cell? ⟨b, o, none⟩ = some (.int .i32 x)) :
    Calls Yba.prog 14 #[.pointer (some ⟨b, o, none⟩)] w fun e w' => e = .returned (.int .i32 x) ∧ w = w' := by
  have h := run_call_load (P := Yba.prog) Yba.func29 (by kernel_rfl) (by kernel_rfl) (by kernel_rfl) .i32 (by kernel_rfl) hc
  go_enter Yba.func14, Yba.ntmps14
  go_wp2
  go_ret
  exact ⟨rfl, rfl⟩
theorem i32_store (b o : Nat) (x y : Int) (w : World) (hc : w.cell? ⟨b, o, none⟩ = some (.int .i32 x)) (hf : w.frozen? ⟨b, o, none⟩ = false) :
    Calls Yba.prog 12 #[.pointer (some ⟨b, o, none⟩), .int .i32 y] w fun e w' => e = .returned (.tuple #[]) ∧ w' = w.setCell ⟨b, o, none⟩ (.int .i32 y) := by
  have h := run_call_store (P := Yba.prog) (k := .i32) (y := y) Yba.func26 (by kernel_rfl) (by kernel_rfl) (by kernel_rfl) (by kernel_rfl) hc hf
  go_enter Yba.func12, Yba.ntmps12
  go_wp2
  go_end0
  exact ⟨rfl, rfl⟩
theorem add_run (x y s : Int) (h0 : -2147483648 ≤ x + y) (h1 : x + y ≤ 2147483647) (hs : s = x + y) (w : World) : (Op.intArith .add .i32 x y).run Yba.prog w = .ok (.int .i32 s) w := by
  subst hs
  have : wrap32 (x + y) = x + y := by unfold wrap32; omega
  simp [go_sem, this, IntKind.wrap_i32]
  omega
theorem i32_add (b o : Nat) (x y s : Int) (w : World) (h0 : -2147483648 ≤ x + y) (h1 : x + y ≤ 2147483647) (hs : s = x + y) (hc : w.cell? ⟨b, o, none⟩ = some (.int .i32 x)) (hf : w.frozen? ⟨b, o, none⟩ = false) :
    Calls Yba.prog 41 #[.pointer (some ⟨b, o, none⟩), .int .i32 y] w fun e w' => e = .returned (.int .i32 s) ∧ w' = w.setCell ⟨b, o, none⟩ (.int .i32 s) := by
  have h := run_call_add (P := Yba.prog) (y := y) (s := s) Yba.func48 (by kernel_rfl) (by kernel_rfl) (by kernel_rfl) .i32 (by kernel_rfl) hc hf (add_run x y s h0 h1 hs w)
  clear hs
  go_enter Yba.func41, Yba.ntmps41
  go_wp2
  go_ret
  exact ⟨rfl, rfl⟩

/-! ### package internal/race's marks: in the run of one goroutine they turn nothing. -/
theorem mark43 (w : World) : (callFunc 43 #[]).run Yba.prog w = .ok (.value (.tuple #[])) w := by kernel_rfl
theorem mark44 (w : World) : (callFunc 44 #[]).run Yba.prog w = .ok (.value (.tuple #[])) w := by kernel_rfl
theorem mark46 (a : Addr) (w : World) : (callFunc 46 #[.pointer (some a)]).run Yba.prog w = .ok (.value (.tuple #[])) w := by kernel_rfl
theorem mark47 (a : Addr) (w : World) : (callFunc 47 #[.pointer (some a)]).run Yba.prog w = .ok (.value (.tuple #[])) w := by kernel_rfl

/-- A pointer to the lock goes to type 36 as it is. -/
theorem conv164 (b o : Nat) (v : Value) (w : World) (hc : w.cell? ⟨b, o, none⟩ = some v) : (convert 164 36 (.pointer (some ⟨b, o, none⟩))).run Yba.prog w = .ok (.pointer (some ⟨b, o, none⟩)) w := by
  obtain ⟨e, n, hsh, hlt, hsp⟩ := World.shape?_of_cell? hc
  have hsz : (sizeOf 70).run Yba.prog w = .ok 2 w := by kernel_rfl
  have hge : ¬ (n ≤ o) := by simpa using hlt
  simp [convert, run_underlying Yba.underlying164, run_underlying Yba.underlying36]
  show Sem.run Yba.prog (underlying 164 >>= _) w = _
  simp [Conv.seenAt, viewAt, cellsIn, run_underlying Yba.underlying164, run_underlying Yba.underlying36, hsh, hsz, hge, Result.andThen]

set_option maxRecDepth 100000 in
set_option maxHeartbeats 1000000 in
theorem ilock_free (b o : Nat) (w : World) (hc : w.cell? ⟨b, o, none⟩ = some (.int .i32 0)) (hf : w.frozen? ⟨b, o, none⟩ = false) :
    Calls Yba.prog 40 #[.pointer (some ⟨b, o, none⟩)] w fun e w' => e = .returned (.tuple #[]) ∧ w' = w.setCell ⟨b, o, none⟩ (.int .i32 1) := by
  have h43 := mark43
  have h44 := mark44
  have h46 := mark46
  have hcas := run_call_cas_hit (P := Yba.prog) (y := 1) Yba.func45 (by kernel_rfl) (by kernel_rfl) (by kernel_rfl) .i32 (by kernel_rfl) hc hf
  have hcv := conv164 b o (.int .i32 1) (w.setCell ⟨b, o, none⟩ (.int .i32 1)) (by simp [go_sem, hc])
  go_enter Yba.func40, Yba.ntmps40
  go_wp2
  refine bodyPost_ret (results_none rfl _ _ _) rfl ?_
  exact ⟨rfl, rfl⟩
/-- (*sync.Mutex).Lock of a free lock. -/
theorem lock_free (b o : Nat) (w : World) (hc : w.cell? ⟨b, o, none⟩ = some (.int .i32 0)) (hf : w.frozen? ⟨b, o, none⟩ = false) :
    Calls Yba.prog 27 #[.pointer (some ⟨b, o, none⟩)] w fun e w' => e = .returned (.tuple #[]) ∧ w' = w.setCell ⟨b, o, none⟩ (.int .i32 1) := by
  go_enter Yba.func27, Yba.ntmps27
  go_wp2_with fail
  refine (ilock_free b o w hc hf).mono ?_
  rintro e w' ⟨rfl, rfl⟩
  go_wp2_with fail
  go_end0
  exact ⟨rfl, rfl⟩

set_option maxRecDepth 100000 in
set_option maxHeartbeats 1000000 in
theorem iunlock_held (b o : Nat) (w : World) (hc : w.cell? ⟨b, o, none⟩ = some (.int .i32 1)) (hf : w.frozen? ⟨b, o, none⟩ = false) :
    Calls Yba.prog 31 #[.pointer (some ⟨b, o, none⟩)] w fun e w' => e = .returned (.tuple #[]) ∧ w' = w.setCell ⟨b, o, none⟩ (.int .i32 0) := by
  have h43 := mark43
  have h44 := mark44
  have h47 := mark47
  have hadd := run_call_add (P := Yba.prog) (y := -1) (s := 0) Yba.func48 (by kernel_rfl) (by kernel_rfl) (by kernel_rfl) .i32 (by kernel_rfl) hc hf (add_run 1 (-1) 0 (by omega) (by omega) (by omega) w)
  have hcv := conv164 b o (.int .i32 1) w hc
  go_enter Yba.func31, Yba.ntmps31
  go_wp2
  go_end0
  exact ⟨rfl, rfl⟩
/-- (*sync.Mutex).Unlock of a held lock for which nobody waits. -/
theorem unlock_held (b o : Nat) (w : World) (hc : w.cell? ⟨b, o, none⟩ = some (.int .i32 1)) (hf : w.frozen? ⟨b, o, none⟩ = false) :
    Calls Yba.prog 16 #[.pointer (some ⟨b, o, none⟩)] w fun e w' => e = .returned (.tuple #[]) ∧ w' = w.setCell ⟨b, o, none⟩ (.int .i32 0) := by
  go_enter Yba.func16, Yba.ntmps16
  go_wp2_with fail
  refine (iunlock_held b o w hc hf).mono ?_
  rintro e w' ⟨rfl, rfl⟩
  go_wp2_with fail
  go_end0
  exact ⟨rfl, rfl⟩

set_option maxRecDepth 100000 in
set_option maxHeartbeats 1000000 in
theorem itryLock_free (b o : Nat) (w : World) (hc : w.cell? ⟨b, o, none⟩ = some (.int .i32 0)) (hf : w.frozen? ⟨b, o, none⟩ = false) :
    Calls Yba.prog 30 #[.pointer (some ⟨b, o, none⟩)] w fun e w' => e = .returned (.bool true) ∧ w' = w.setCell ⟨b, o, none⟩ (.int .i32 1) := by
  have h43 := mark43
  have h44 := mark44
  have h46 := mark46
  have hand : bits .and .i32 0 5 = 0 := by decide
  have hor : bits .or .i32 0 1 = 1 := by decide
  have hcas := run_call_cas_hit (P := Yba.prog) (y := 1) Yba.func45 (by kernel_rfl) (by kernel_rfl) (by kernel_rfl) .i32 (by kernel_rfl) hc hf
  have hcv := conv164 b o (.int .i32 1) (w.setCell ⟨b, o, none⟩ (.int .i32 1)) (by simp [go_sem, hc])
  go_enter Yba.func30, Yba.ntmps30
  go_wp2
  go_ret
  exact ⟨rfl, rfl⟩
/-- (*sync.Mutex).TryLock of a free lock. -/
theorem tryLock_free (b o : Nat) (w : World) (hc : w.cell? ⟨b, o, none⟩ = some (.int .i32 0)) (hf : w.frozen? ⟨b, o, none⟩ = false) :
    Calls Yba.prog 15 #[.pointer (some ⟨b, o, none⟩)] w fun e w' => e = .returned (.bool true) ∧ w' = w.setCell ⟨b, o, none⟩ (.int .i32 1) := by
  go_enter Yba.func15, Yba.ntmps15
  go_wp2_with fail
  refine (itryLock_free b o w hc hf).mono ?_
  rintro e w' ⟨rfl, rfl⟩
  go_wp2_with fail
  go_ret
  exact ⟨rfl, rfl⟩

/-- sync.Cond's own check of its first use: it stores its own address. -/
theorem check_run (b o : Nat) (w : World) (hc : w.cell? ⟨b, o, none⟩ = some (.int .u64 0)) (hf : w.frozen? ⟨b, o, none⟩ = false) :
    (callFunc 51 #[.pointer (some ⟨b, o, none⟩)]).run Yba.prog w = .ok (.value (.tuple #[])) (w.setCell ⟨b, o, none⟩ (.pointer (some ⟨b, o, none⟩))) := by
  rw [run_callFunc_extern Yba.func51 (e := Extern.SyncCond.check) (by kernel_rfl) (by kernel_rfl) (by kernel_rfl) (by kernel_rfl)]
  have hmk : ∀ (m : Mark) (w : World), (mark m).run Yba.prog w = .ok () w := fun _ _ => rfl
  show (Sem.run Yba.prog (asAddr (.pointer (some ⟨b, o, none⟩)) >>= _) w).andThen _ = _
  simp [Extern.SyncCond.isSelf, asAddr, hc, hf, hmk, run_store Yba.prog w ⟨b, o, none⟩ (.pointer (some ⟨b, o, none⟩)) .atomic rfl, Extern.SyncCond.none_]
theorem notify_run (b o : Nat) (w : World) (h0 : w.cell? ⟨b, o, none⟩ = some (.int .u32 0)) (h1 : w.cell? ⟨b, o + 1, none⟩ = some (.int .u32 0)) :
    (callFunc 52 #[.pointer (some ⟨b, o, none⟩)]).run Yba.prog w = .ok (.value (.tuple #[])) w := by
  rw [run_callFunc_extern Yba.func52 (e := Extern.SyncCond.notifyOne) (by kernel_rfl) (by kernel_rfl) (by kernel_rfl) (by kernel_rfl)]
  have hmk : ∀ (m : Mark) (w : World), (mark m).run Yba.prog w = .ok () w := fun _ _ => rfl
  simp [Extern.SyncCond.notifyOne, Extern.SyncCond.list, Extern.SyncCond.counter, Addr.add, h0, h1, hmk, Extern.SyncCond.none_]

set_option maxHeartbeats 400000 in
/-- (*sync.Cond).Signal of a Cond that has not been used yet and on which nobody waits. -/
theorem signal_none (b o : Nat) (w : World) (h1 : w.cell? ⟨b, o + 1, none⟩ = some (.int .u32 0)) (h2 : w.cell? ⟨b, o + 1 + 1, none⟩ = some (.int .u32 0)) (hc : w.cell? ⟨b, o + 6, none⟩ = some (.int .u64 0)) (hf : w.frozen? ⟨b, o + 6, none⟩ = false) :
    Calls Yba.prog 42 #[.pointer (some ⟨b, o, none⟩)] w fun e w' => e = .returned (.tuple #[]) ∧ w' = w.setCell ⟨b, o + 6, none⟩ (.pointer (some ⟨b, o + 6, none⟩)) := by
  have hck := check_run b (o + 6) w hc hf
  have hnt := notify_run b (o + 1) (w.setCell ⟨b, o + 6, none⟩ (.pointer (some ⟨b, o + 6, none⟩))) (by rw [World.cell?_setCell_other _ _ _ _ (by simp)]; exact h1) (by rw [World.cell?_setCell_other _ _ _ _ (by simp)]; exact h2)
  go_enter Yba.func42, Yba.ntmps42
  go_wp2
  go_end0
  exact ⟨rfl, rfl⟩
end Go.Proofs.Ybulknqg
