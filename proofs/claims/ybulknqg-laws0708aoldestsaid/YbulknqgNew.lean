/-
  newRing, and the law's maker of procs.
-/
import Derived.Test.YbulknqgAtoms
import Derived.Deep.OwnRows
namespace Go.Proofs.Ybulknqg
open Go.RowKit
set_option linter.unusedVariables false

theorem info139 : (Yba.prog.info? 139).map (fun i => (i.zero, i.size, i.bytes)) = some (some (.agg #[.pointer none]), 1, 8) := by kernel_rfl
theorem info41 : (Yba.prog.info? 41).map (fun i => (i.zero, i.size, i.bytes)) = some (some (.pointer none), 1, 8) := by kernel_rfl

theorem make139 (n : Nat) (hn : n ≤ 4096) (w : World) : (Instr.makeSlice 133 (.int .i64 (n : Int)) (.int .i64 (n : Int))).run Yba.prog w = .ok (.slice (some ⟨w.heap.size, 0, none⟩) n n) (w.alloc (.cells (madeCells #[.pointer none] n) 139)) := by
  obtain ⟨i, hi, hzz⟩ := Option.map_eq_some_iff.1 info139
  simp only [Prod.mk.injEq] at hzz
  obtain ⟨hz, hs, hb⟩ := hzz
  have hr := run_make (P := Yba.prog) w 133 139 i _ Yba.underlying133 hi hz .i64 .i64 n n (by omega) (Int.le_refl _) (by rw [hb]; omega) (by omega)
  simp only [Int.toNat_natCast, hs, Nat.mul_one] at hr
  exact hr

set_option maxHeartbeats 400000 in
theorem newRing_any (n : Nat) (w : World) (h0 : 1 ≤ n) (hn : n ≤ 4096) :
    Calls Yba.prog 35 #[.int .i64 n] w fun e w' => e = .returned (.pointer (some ⟨w.heap.size + 1, 0, none⟩)) ∧
      w' = (w.alloc (.cells (madeCells #[.pointer none] n) 139)).alloc (.cells #[.slice (some ⟨w.heap.size, 0, none⟩) n n, .int .u32 ((n : Int) - 1)] 135) := by
  have hm := make139 n hn
  go_enter Yba.func35, Yba.ntmps35
  go_wp2
  go_ret
  exact ⟨rfl, rfl⟩

theorem newRing_at (n : Nat) (q : Int) (hq : q = n) (w : World) (h0 : 1 ≤ n) (hn : n ≤ 4096) :
    Calls Yba.prog 35 #[.int .i64 q] w fun e w' => e = .returned (.pointer (some ⟨w.heap.size + 1, 0, none⟩)) ∧
      w' = (w.alloc (.cells (madeCells #[.pointer none] n) 139)).alloc (.cells #[.slice (some ⟨w.heap.size, 0, none⟩) n n, .int .u32 ((n : Int) - 1)] 135) := by
  subst hq
  exact newRing_any n w h0 hn

/-! ### zzs0708amk: a new slice of n new procs. -/
theorem make41 (n : Nat) (hn : n ≤ 4096) (w : World) : (Instr.makeSlice 43 (.int .i64 (n : Int)) (.int .i64 (n : Int))).run Yba.prog w = .ok (.slice (some ⟨w.heap.size, 0, none⟩) n n) (w.alloc (.cells (madeCells #[.pointer none] n) 41)) :=
  run_make_row' 43 41 (.pointer none) 8 Yba.underlying43 info41 rfl .i64 .i64 n (by omega) (by omega) w

def Made (w wr : World) (sb n : Nat) (ps : List Nat) : Prop := Below w.heap.size w wr ∧ w.heap.size ≤ sb ∧ sb < wr.heap.size ∧ (∀ j, j < n → ∃ x, wr.cell? ⟨sb, j, none⟩ = some (.pointer x)) ∧ (∀ j, j < n → wr.frozen? ⟨sb, j, none⟩ = false) ∧
  ∀ j p, ps[j]? = some p → wr.cell? ⟨sb, j, none⟩ = some (.pointer (some ⟨p, 0, none⟩)) ∧ sb < p ∧ p < wr.heap.size ∧ Proc wr p

theorem madeCells_get (n i : Nat) (h : i < n) : (madeCells #[.pointer none] n)[i]? = some (.pointer none) := by
  simp [madeCells, h, Nat.mod_one]

theorem Made.start (w : World) (n : Nat) : Made w (w.alloc (.cells (madeCells #[.pointer none] n) 41)) w.heap.size n [] := by
  refine ⟨(Below.refl _ _).alloc (Nat.le_refl _) _, Nat.le_refl _, by simp, fun j hj => ⟨none, ?_⟩, fun j hj => ?_, fun j p h => by simp at h⟩
  · rw [World.cell?_alloc_at _ _ _ _ rfl]; exact madeCells_get n j hj
  · exact World.frozen?_alloc_at _ _ _ _ rfl

theorem Proc.of_block {w w' : World} {p : Nat} (h : Proc w p) (hb : w'.heap[p]? = w.heap[p]?) : Proc w' p := by
  obtain ⟨c, hc, hs⟩ := h
  exact ⟨c, by rw [hb]; exact hc, hs⟩

theorem Made.step {w wr : World} {sb n : Nat} {ps : List Nat} (h : Made w wr sb n ps) (hl : ps.length < n) (Z : Array Value) (hZ : Z.size = 18) :
    Made w ((wr.setCell ⟨sb, ps.length, none⟩ (.pointer (some ⟨wr.heap.size, 0, none⟩))).alloc (.cells Z 90)) sb n (ps ++ [wr.heap.size]) := by
  obtain ⟨hb, h1, h2, hc, hf, hp⟩ := h
  rw [← World.setCell_alloc_past _ _ _ _ h2]
  have hcell : ∀ j, (wr.alloc (.cells Z 90)).cell? ⟨sb, j, none⟩ = wr.cell? ⟨sb, j, none⟩ := fun j => World.cell?_alloc_past _ _ _ h2
  have hfroz : ∀ j, (wr.alloc (.cells Z 90)).frozen? ⟨sb, j, none⟩ = wr.frozen? ⟨sb, j, none⟩ := fun j => World.frozen?_alloc_past _ _ _ h2
  have hsize : ((wr.alloc (.cells Z 90)).setCell ⟨sb, ps.length, none⟩ (.pointer (some ⟨wr.heap.size, 0, none⟩))).heap.size = wr.heap.size + 1 := by simp [World.setCell]
  obtain ⟨x0, hx0⟩ := hc ps.length hl
  have hhit : ((wr.alloc (.cells Z 90)).setCell ⟨sb, ps.length, none⟩ (.pointer (some ⟨wr.heap.size, 0, none⟩))).cell? ⟨sb, ps.length, none⟩ = some (.pointer (some ⟨wr.heap.size, 0, none⟩)) := by
    simp [go_sem, hcell, hx0]
  have hmiss : ∀ j, j ≠ ps.length → ((wr.alloc (.cells Z 90)).setCell ⟨sb, ps.length, none⟩ (.pointer (some ⟨wr.heap.size, 0, none⟩))).cell? ⟨sb, j, none⟩ = wr.cell? ⟨sb, j, none⟩ := fun j hj => by
    rw [World.cell?_setCell_other _ _ _ _ (by simp), hcell]
  have hblk : ∀ k, k ≠ sb → k ≤ wr.heap.size → ((wr.alloc (.cells Z 90)).setCell ⟨sb, ps.length, none⟩ (.pointer (some ⟨wr.heap.size, 0, none⟩))).heap[k]? = (wr.alloc (.cells Z 90)).heap[k]? := fun k hk _ => Below.heap_setCell _ _ _ _ hk
  refine ⟨(hb.alloc hb.size _).setCell h1 _, h1, by rw [hsize]; omega, fun j hj => ?_, fun j hj => ?_, fun j p hjp => ?_⟩
  · by_cases e : j = ps.length
    · subst e; exact ⟨_, hhit⟩
    · obtain ⟨x, hx⟩ := hc j hj
      exact ⟨x, by rw [hmiss j e]; exact hx⟩
  · rw [World.frozen?_setCell, hfroz]; exact hf j hj
  · by_cases e : j = ps.length
    · subst e
      simp at hjp
      subst hjp
      refine ⟨hhit, h2, by rw [hsize]; omega, Z, ?_, by rw [hZ, cells90]⟩
      rw [hblk _ (by omega) (Nat.le_refl _)]
      show (wr.heap.push _)[_]? = _
      simp
    · have hj' : ps[j]? = some p := by
        rw [List.getElem?_append] at hjp
        split at hjp
        · exact hjp
        · rename_i hge
          have : j - ps.length ≠ 0 := by omega
          cases hq : j - ps.length with
          | zero => omega
          | succ m => rw [hq] at hjp; simp at hjp
      obtain ⟨a1, a2, a3, a4⟩ := hp j p hj'
      refine ⟨by rw [hmiss j e]; exact a1, a2, by rw [hsize]; omega, a4.of_block ?_⟩
      rw [hblk _ (by omega) (by omega)]
      exact Below.heap_alloc _ _ _ a3

set_option maxHeartbeats 400000 in
theorem mk_any (n : Nat) (w : World) (hn : n ≤ 1024) :
    Calls Yba.prog 7 #[.int .i64 n] w fun e w' => ∃ (sb : Nat) (ps : List Nat), e = .returned (.slice (some ⟨sb, 0, none⟩) n n) ∧ ps.length = n ∧ Made w w' sb n ps := by
  have hm := make41 n (by omega)
  go_enter Yba.func7, Yba.ntmps7
  go_wp2
  go_loopw [9] (fun s9 wr => ∃ (ps : List Nat), s9 = .int .i64 ps.length ∧ ps.length ≤ n ∧ Made w wr w.heap.size n ps) (fun s9 _ => n - (intOf s9).toNat)
  case atStart => exact ⟨[], rfl, by simp, Made.start w n⟩
  case round =>
    obtain ⟨ps, rfl, hl, hM⟩ := hrel
    by_cases hlt : ps.length < n
    · obtain ⟨x, hc⟩ := hM.2.2.2.1 ps.length hlt
      have hf := hM.2.2.2.2.1 ps.length hlt
      have hsz := hM.2.2.1
      go_wp2
      exact ⟨⟨ps ++ [wr.heap.size], by simp, by simp; omega, hM.step hlt _ rfl⟩, by simp [intOf]; omega⟩
    · go_wp2
      go_ret
      have : ps.length = n := by omega
      exact ⟨_, ps, rfl, this, hM⟩
end Go.Proofs.Ybulknqg
