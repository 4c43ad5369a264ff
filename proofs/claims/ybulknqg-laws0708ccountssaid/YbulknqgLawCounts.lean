/-
  Scheduler.wakeOne, and the walk of LawS0708CCounts.
-/
import Derived.Test.YbulknqgLock
namespace Go.Proofs.Ybulknqg
open Go.RowKit
set_option linter.unusedVariables false
set_option linter.unusedSimpArgs false

set_option maxHeartbeats 1000000 in
theorem wakeOneLocked_yes (b : Nat) (x : Int) (w : World) (h15 : w.cell? ⟨b, 15, none⟩ = some (.int .i32 0)) (h16 : w.cell? ⟨b, 16, none⟩ = some (.int .i32 x)) (hx : 0 < x) (hx2 : x ≤ 2147483647)
    (h9 : w.cell? ⟨b, 9, none⟩ = some (.int .u32 0)) (h10 : w.cell? ⟨b, 10, none⟩ = some (.int .u32 0)) (h14 : w.cell? ⟨b, 14, none⟩ = some (.int .u64 0)) (fz : ∀ o, w.frozen? ⟨b, o, none⟩ = false) :
    Calls Yba.prog 28 #[.pointer (some ⟨b, 0, none⟩)] w fun e w' => e = .returned (.tuple #[]) ∧
      w' = ((w.setCell ⟨b, 16, none⟩ (.int .i32 (x - 1))).setCell ⟨b, 15, none⟩ (.int .i32 1)).setCell ⟨b, 14, none⟩ (.pointer (some ⟨b, 14, none⟩)) := by
  have f14 := fz 14
  have f15 := fz 15
  have f16 := fz 16
  clear fz
  go_enter Yba.func28, Yba.ntmps28
  go_wp2_with fail
  refine (i32_load b 15 0 _ h15).mono ?_
  rintro e w' ⟨rfl, rfl⟩
  go_wp2_with fail
  refine (i32_load b 16 x _ h16).mono ?_
  rintro e w' ⟨rfl, rfl⟩
  go_wp2_with fail
  refine (i32_add b 16 x (-1) (x - 1) _ (by omega) (by omega) (by omega) h16 f16).mono ?_
  rintro e w' ⟨rfl, rfl⟩
  go_wp2_with fail
  refine (i32_add b 15 0 1 1 _ (by omega) (by omega) (by omega) (by simp [go_sem, h15]) (by simp [go_sem, f15])).mono ?_
  rintro e w' ⟨rfl, rfl⟩
  go_wp2_with fail
  refine (signal_none b 8 _ (by simp [go_sem, h9]) (by simp [go_sem, h10]) (by simp [go_sem, h14]) (by simp [go_sem, f14])).mono ?_
  rintro e w' ⟨rfl, rfl⟩
  go_wp2_with fail
  go_end0
  exact ⟨rfl, rfl⟩

set_option maxHeartbeats 1000000 in
theorem wakeOne_yes (b : Nat) (x : Int) (w : World) (h15 : w.cell? ⟨b, 15, none⟩ = some (.int .i32 0)) (h16 : w.cell? ⟨b, 16, none⟩ = some (.int .i32 x)) (hx : 0 < x) (hx2 : x ≤ 2147483647) (h6 : w.cell? ⟨b, 6, none⟩ = some (.int .i32 0))
    (h9 : w.cell? ⟨b, 9, none⟩ = some (.int .u32 0)) (h10 : w.cell? ⟨b, 10, none⟩ = some (.int .u32 0)) (h14 : w.cell? ⟨b, 14, none⟩ = some (.int .u64 0)) (fz : ∀ o, w.frozen? ⟨b, o, none⟩ = false) :
    Calls Yba.prog 13 #[.pointer (some ⟨b, 0, none⟩)] w fun e w' => e = .returned (.tuple #[]) ∧
      w' = ((((w.setCell ⟨b, 6, none⟩ (.int .i32 1)).setCell ⟨b, 16, none⟩ (.int .i32 (x - 1))).setCell ⟨b, 15, none⟩ (.int .i32 1)).setCell ⟨b, 14, none⟩ (.pointer (some ⟨b, 14, none⟩))).setCell ⟨b, 6, none⟩ (.int .i32 0) := by
  have f6 := fz 6
  have fz1 : ∀ o, (w.setCell ⟨b, 6, none⟩ (.int .i32 1)).frozen? ⟨b, o, none⟩ = false := fun o => by rw [World.frozen?_setCell]; exact fz o
  have HF : Hid (∀ o, (w.setCell ⟨b, 6, none⟩ (.int .i32 1)).frozen? ⟨b, o, none⟩ = false) := fz1
  clear fz fz1
  go_enter Yba.func13, Yba.ntmps13
  go_wp2_with fail
  refine (i32_load b 15 0 _ h15).mono ?_
  rintro e w' ⟨rfl, rfl⟩
  go_wp2_with fail
  refine (i32_load b 16 x _ h16).mono ?_
  rintro e w' ⟨rfl, rfl⟩
  go_wp2_with fail
  refine (lock_free b 6 _ h6 f6).mono ?_
  rintro e w' ⟨rfl, rfl⟩
  go_wp2_with fail
  refine (wakeOneLocked_yes b x _ (by simp [go_sem, h15]) (by simp [go_sem, h16]) (by omega) (by omega) (by simp [go_sem, h9]) (by simp [go_sem, h10]) (by simp [go_sem, h14]) HF.out).mono ?_
  rintro e w' ⟨rfl, rfl⟩
  go_wp2_with fail
  refine (unlock_held b 6 _ (by simp [go_sem, h6]) (by simp [go_sem, f6])).mono ?_
  rintro e w' ⟨rfl, rfl⟩
  go_wp2_with fail
  go_end0
  exact ⟨rfl, rfl⟩

set_option maxHeartbeats 1000000 in
theorem wakeOne_no (b : Nat) (x y : Int) (w : World) (h15 : w.cell? ⟨b, 15, none⟩ = some (.int .i32 y)) (h16 : w.cell? ⟨b, 16, none⟩ = some (.int .i32 x)) (hx : ¬ (y = 0 ∧ 0 < x)) :
    Calls Yba.prog 13 #[.pointer (some ⟨b, 0, none⟩)] w fun e w' => e = .returned (.tuple #[]) ∧ w = w' := by
  by_cases hy : y = 0
  · subst hy
    have hx' : ¬ 0 < x := fun h => hx ⟨rfl, h⟩
    clear hx
    go_enter Yba.func13, Yba.ntmps13
    go_wp2_with fail
    refine (i32_load b 15 0 _ h15).mono ?_
    rintro e w' ⟨rfl, rfl⟩
    go_wp2_with fail
    refine (i32_load b 16 x _ h16).mono ?_
    rintro e w' ⟨rfl, rfl⟩
    go_wp2_with fail
    go_end0
    exact ⟨rfl, rfl⟩
  · have hy' : (y == 0) = false := by simpa using hy
    clear hx
    go_enter Yba.func13, Yba.ntmps13
    go_wp2_with fail
    refine (i32_load b 15 y _ h15).mono ?_
    rintro e w' ⟨rfl, rfl⟩
    go_wp2_with fail
    go_end0
    exact ⟨rfl, rfl⟩

set_option maxHeartbeats 4000000 in
theorem counts_yes (x : Int) (w : World) (hx : 0 < x) (hx2 : x ≤ 2147483647) :
    Calls Yba.prog 5 #[.int .i32 0, .int .i32 x] w fun e w' => e = .returned (.bool true) ∧ Below w.heap.size w w' := by
  go_enter Yba.func5, Yba.ntmps5
  go_wp2_with fail
  refine (i32_store w.heap.size 15 0 0 _ (by simp [go_sem]) (by simp [go_sem])).mono ?_
  rintro e w' ⟨rfl, rfl⟩
  go_wp2_with fail
  refine (i32_store w.heap.size 16 0 x _ (by simp [go_sem]) (by simp [go_sem])).mono ?_
  rintro e w' ⟨rfl, rfl⟩
  go_wp2_with fail
  refine (wakeOne_yes w.heap.size x _ (by simp [go_sem]) (by simp [go_sem]) hx hx2 (by simp [go_sem]) (by simp [go_sem]) (by simp [go_sem]) (by simp [go_sem]) (fun o => by simp [go_sem])).mono ?_
  rintro e w' ⟨rfl, rfl⟩
  go_wp2_with fail
  refine (i32_load w.heap.size 15 1 _ (by simp [go_sem])).mono ?_
  rintro e w' ⟨rfl, rfl⟩
  go_wp2_with fail
  refine (i32_load w.heap.size 16 (x - 1) _ (by simp [go_sem])).mono ?_
  rintro e w' ⟨rfl, rfl⟩
  go_wp2_with fail
  refine (tryLock_free w.heap.size 6 _ (by simp [go_sem]) (by simp [go_sem])).mono ?_
  rintro e w' ⟨rfl, rfl⟩
  go_wp2_with fail
  refine (unlock_held w.heap.size 6 _ (by simp [go_sem]) (by simp [go_sem])).mono ?_
  rintro e w' ⟨rfl, rfl⟩
  go_wp2_with fail
  go_ret
  exact ⟨rfl, (Below.refl _ _).alloc (Nat.le_refl _) _⟩

set_option maxHeartbeats 4000000 in
theorem counts_no (y x : Int) (w : World) (hx : ¬ (y = 0 ∧ 0 < x)) :
    Calls Yba.prog 5 #[.int .i32 y, .int .i32 x] w fun e w' => e = .returned (.bool true) ∧ Below w.heap.size w w' := by
  have HX : Hid (¬ (y = 0 ∧ 0 < x)) := hx
  by_cases hy : y = 0
  · subst hy
    have hx' : ¬ 0 < x := fun h => hx ⟨rfl, h⟩
    clear hx
    go_enter Yba.func5, Yba.ntmps5
    go_wp2_with fail
    refine (i32_store w.heap.size 15 0 0 _ (by simp [go_sem]) (by simp [go_sem])).mono ?_
    rintro e w' ⟨rfl, rfl⟩
    go_wp2_with fail
    refine (i32_store w.heap.size 16 0 x _ (by simp [go_sem]) (by simp [go_sem])).mono ?_
    rintro e w' ⟨rfl, rfl⟩
    go_wp2_with fail
    refine (wakeOne_no w.heap.size x 0 _ (by simp [go_sem]) (by simp [go_sem]) (by omega)).mono ?_
    rintro e w' ⟨rfl, rfl⟩
    go_wp2_with fail
    refine (i32_load w.heap.size 15 0 _ (by simp [go_sem])).mono ?_
    rintro e w' ⟨rfl, rfl⟩
    go_wp2_with fail
    refine (i32_load w.heap.size 16 x _ (by simp [go_sem])).mono ?_
    rintro e w' ⟨rfl, rfl⟩
    go_wp2_with fail
    refine (tryLock_free w.heap.size 6 _ (by simp [go_sem]) (by simp [go_sem])).mono ?_
    rintro e w' ⟨rfl, rfl⟩
    go_wp2_with fail
    refine (unlock_held w.heap.size 6 _ (by simp [go_sem]) (by simp [go_sem])).mono ?_
    rintro e w' ⟨rfl, rfl⟩
    go_wp2_with fail
    go_ret
    exact ⟨rfl, (Below.refl _ _).alloc (Nat.le_refl _) _⟩
  · have hy' : (y == 0) = false := by simpa using hy
    clear hx
    go_enter Yba.func5, Yba.ntmps5
    go_wp2_with fail
    refine (i32_store w.heap.size 15 0 y _ (by simp [go_sem]) (by simp [go_sem])).mono ?_
    rintro e w' ⟨rfl, rfl⟩
    go_wp2_with fail
    refine (i32_store w.heap.size 16 0 x _ (by simp [go_sem]) (by simp [go_sem])).mono ?_
    rintro e w' ⟨rfl, rfl⟩
    go_wp2_with fail
    refine (wakeOne_no w.heap.size x y _ (by simp [go_sem]) (by simp [go_sem]) HX.out).mono ?_
    rintro e w' ⟨rfl, rfl⟩
    go_wp2_with fail
    refine (i32_load w.heap.size 15 y _ (by simp [go_sem])).mono ?_
    rintro e w' ⟨rfl, rfl⟩
    go_wp2_with fail
    refine (i32_load w.heap.size 16 x _ (by simp [go_sem])).mono ?_
    rintro e w' ⟨rfl, rfl⟩
    go_wp2_with fail
    refine (tryLock_free w.heap.size 6 _ (by simp [go_sem]) (by simp [go_sem])).mono ?_
    rintro e w' ⟨rfl, rfl⟩
    go_wp2_with fail
    refine (unlock_held w.heap.size 6 _ (by simp [go_sem]) (by simp [go_sem])).mono ?_
    rintro e w' ⟨rfl, rfl⟩
    go_wp2_with fail
    go_ret
    exact ⟨rfl, (Below.refl _ _).alloc (Nat.le_refl _) _⟩
end Go.Proofs.Ybulknqg
