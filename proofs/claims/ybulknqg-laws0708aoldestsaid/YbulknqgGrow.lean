/-
  Deque.grow and Deque.Push.
-/
import Derived.Test.YbulknqgDeque
import Derived.Deep.RegionHeld3
import Derived.Deep.QuietTactic
import Derived.BigQuiet
namespace Go.Proofs.Ybulknqg
open Go.RowKit
set_option linter.unusedVariables false
set_option linter.unusedSimpArgs false

/-- Below the heap's size, of w' only block b has turned. -/
def FrB (b : Nat) (w w' : World) : Prop := w'.os = w.os ∧ w'.tape = w.tape ∧ w'.output = w.output ∧ w.heap.size ≤ w'.heap.size ∧ ∀ j, j < w.heap.size → j ≠ b → w'.heap[j]? = w.heap[j]?
theorem Keep.fr {WR : World} {S : Nat → Prop} {wb : Nat} {w w' : World} (h : Keep WR S wb w) (hf : FrB wb w w') : Keep WR S wb w' := by
  obtain ⟨h1, h2, h3, h4, h5⟩ := h
  obtain ⟨f1, f2, f3, f4, f5⟩ := hf
  refine ⟨f1.trans h1, f2.trans h2, f3.trans h3, by omega, fun j hj => ?_⟩
  obtain ⟨a1, a2, a3⟩ := h5 j hj
  exact ⟨a1, a2, by rw [f5 j (by omega) a2]; exact a3⟩


theorem ringBlk_new (w : World) (A : Obj) (sb n : Nat) (m : Int) (hm : m = (n : Int) - 1) : RingBlk ((w.alloc A).alloc (.cells #[.slice (some ⟨sb, 0, none⟩) n n, .int .u32 m] 135)) (w.heap.size + 1) sb n := by
  subst hm
  unfold RingBlk
  show ((w.heap.push A).push _)[w.heap.size + 1]? = _
  rw [Array.getElem?_push, if_pos (by simp)]

set_option maxHeartbeats 400000 in
theorem grow_nil (wb : Nat) (w : World) (c4 : w.cell? ⟨wb, 4, none⟩ = some (.pointer none)) (f4 : w.frozen? ⟨wb, 4, none⟩ = false) :
    Calls Yba.prog 20 #[.pointer (some ⟨wb, 2, none⟩), .pointer none, .int .u32 0, .int .u32 0] w fun e w' => e = .returned (.pointer (some ⟨w.heap.size + 1, 0, none⟩)) ∧
      w' = ((w.setCell ⟨wb, 4, none⟩ (.pointer (some ⟨w.heap.size + 1, 0, none⟩))).alloc (.cells (madeCells #[.pointer none] 32) 139)).alloc (.cells #[.slice (some ⟨w.heap.size, 0, none⟩) 32 32, .int .u32 31] 135) := by
  have hwb : wb < w.heap.size := World.block_lt_of_cell? _ _ c4
  go_enter Yba.func20, Yba.ntmps20
  go_wp2_with fail
  refine (newRing_at 32 32 rfl _ (by omega) (by omega)).mono ?_
  rintro e w' ⟨rfl, rfl⟩
  go_wp2_with fail
  refine (ring_store wb 4 (w.heap.size + 1) w.heap.size 32 (.pointer none) _ ?_ ?_ ?_).mono ?_
  · simp [go_sem, hwb, c4]
  · simp [go_sem, hwb, f4]
  · exact ringBlk_new w _ _ 32 31 rfl
  rintro e w' ⟨rfl, rfl⟩
  go_wp2_with fail
  go_ret
  exact ⟨rfl, rfl⟩

theorem dq_first (wb : Nat) (w : World) (h : Dq0 wb w) :
    Dq wb (w.heap.size + 1) w.heap.size 32 (((w.setCell ⟨wb, 4, none⟩ (.pointer (some ⟨w.heap.size + 1, 0, none⟩))).alloc (.cells (madeCells #[.pointer none] 32) 139)).alloc (.cells #[.slice (some ⟨w.heap.size, 0, none⟩) 32 32, .int .u32 31] 135)) 0 [] := by
  obtain ⟨c2, c3, c4, c5, fw⟩ := h
  have hwb : wb < w.heap.size := World.block_lt_of_cell? _ _ c4
  have hsz : (w.setCell ⟨wb, 4, none⟩ (.pointer (some ⟨w.heap.size + 1, 0, none⟩))).heap.size = w.heap.size := by simp [World.setCell]
  have hR := ringBlk_new (w.setCell ⟨wb, 4, none⟩ (.pointer (some ⟨w.heap.size + 1, 0, none⟩))) (.cells (madeCells #[.pointer none] 32) 139) w.heap.size 32 31 rfl
  rw [hsz] at hR
  refine ⟨Pow.first, by simp, by simp, hR, by omega, by omega, by omega, ⟨0, by omega, by omega, by omega, ?_⟩, ?_, ?_, ⟨0, by omega, by omega, ?_⟩, fun o => ?_, fun i => ?_, fun i hi => ⟨none, ?_⟩, fun i p _ hp => by simp at hp⟩
  · simp [go_sem, hwb, c2]
  · simp [go_sem, hwb, c3]
  · simp [go_sem, hwb, c4]
  · simp [go_sem, hwb, c5]
  · simp [go_sem, hwb, fw]
  · simp [go_sem]
  · simp [go_sem]; exact madeCells_get 32 i hi

/-- The new ring, after the first i items have been copied. -/
def Copied (w wr : World) (n : Nat) (l : List Nat) (i : Nat) : Prop :=
  Below w.heap.size w wr ∧ w.heap.size + 1 < wr.heap.size ∧ RingBlk wr (w.heap.size + 1) w.heap.size (2 * n) ∧ (∀ j, j < 2 * n → ∃ x, wr.cell? ⟨w.heap.size, j, none⟩ = some (.pointer x)) ∧ (∀ j, wr.frozen? ⟨w.heap.size, j, none⟩ = false) ∧
  ∀ j p, j < i → l[j]? = some p → wr.cell? ⟨w.heap.size, j, none⟩ = some (.pointer (some ⟨p, 0, none⟩))

theorem copied_start (w : World) (n : Nat) (l : List Nat) (m : Int) (hm : m = ((2 * n : Nat) : Int) - 1) : Copied w ((w.alloc (.cells (madeCells #[.pointer none] (2 * n)) 139)).alloc (.cells #[.slice (some ⟨w.heap.size, 0, none⟩) (2 * n) (2 * n), .int .u32 m] 135)) n l 0 := by
  refine ⟨((Below.refl _ _).alloc (Nat.le_refl _) _).alloc (by simp) _, by simp, ringBlk_new w _ _ _ m hm, fun j hj => ⟨none, ?_⟩, fun j => ?_, fun j p hj => by omega⟩
  · simp [go_sem]; exact madeCells_get (2 * n) j hj
  · simp [go_sem]

theorem copied_step {w wr : World} {n : Nat} {l : List Nat} {i : Nat} (h : Copied w wr n l i) (hi : i < n) (p : Nat) (hp : l[i]? = some p) : Copied w (wr.setCell ⟨w.heap.size, i, none⟩ (.pointer (some ⟨p, 0, none⟩))).drew n l (i + 1) := by
  obtain ⟨h1, h2, h3, h4, h5, h6⟩ := h
  obtain ⟨x0, hx0⟩ := h4 i (by omega)
  have hhit : (wr.setCell ⟨w.heap.size, i, none⟩ (.pointer (some ⟨p, 0, none⟩))).drew.cell? ⟨w.heap.size, i, none⟩ = some (.pointer (some ⟨p, 0, none⟩)) := by simp [go_sem, hx0]
  have hmiss : ∀ j, j ≠ i → (wr.setCell ⟨w.heap.size, i, none⟩ (.pointer (some ⟨p, 0, none⟩))).drew.cell? ⟨w.heap.size, j, none⟩ = wr.cell? ⟨w.heap.size, j, none⟩ := fun j hj => by
    show (wr.setCell _ _).cell? _ = _
    rw [World.cell?_setCell_other _ _ _ _ (by simp [Ne.symm hj])]
  refine ⟨(h1.setCell (Nat.le_refl _) _).drew, by simpa [World.setCell] using h2, ?_, fun j hj => ?_, fun j => ?_, fun j q hj hq => ?_⟩
  · unfold RingBlk
    show (wr.setCell _ _).heap[_]? = _
    rw [Below.heap_setCell _ _ _ _ (by show w.heap.size + 1 ≠ w.heap.size; omega)]
    exact h3
  · by_cases e : j = i
    · subst e; exact ⟨_, hhit⟩
    · obtain ⟨x, hx⟩ := h4 j hj
      exact ⟨x, by rw [hmiss j e]; exact hx⟩
  · show (wr.setCell _ _).frozen? _ = _
    rw [World.frozen?_setCell]; exact h5 j
  · by_cases e : j = i
    · subst e
      rw [hp] at hq
      cases hq
      exact hhit
    · rw [hmiss j e]; exact h6 j q (by omega) hq

theorem frB_copied {w wr : World} {wb : Nat} (h : Below w.heap.size w wr) (hwb : wb < w.heap.size) {v : Value} : FrB wb w (wr.setCell ⟨wb, 4, none⟩ v) := by
  refine ⟨h.os, h.tape, h.output, by simpa [World.setCell] using h.size, fun j hj hne => ?_⟩
  rw [Below.heap_setCell _ _ _ _ hne]
  exact h.block j hj

theorem copied_done (wb rb n : Nat) (l : List Nat) (w wr : World) (h : Copied w wr n l n) (hP2 : Pow (2 * n)) (hl : l.length ≤ n)
    (c2 : ∃ top : Int, 0 ≤ top ∧ top < 18446744073709551616 ∧ top % 4294967296 = ((0 : Nat) : Int) ∧ w.cell? ⟨wb, 2, none⟩ = some (.int .u64 top))
    (c3 : w.cell? ⟨wb, 3, none⟩ = some (.int .u32 l.length)) (c4 : w.cell? ⟨wb, 4, none⟩ = some (.pointer (some ⟨rb, 0, none⟩)))
    (c5 : ∃ h : Int, 0 ≤ h ∧ h < 4294967296 ∧ w.cell? ⟨wb, 5, none⟩ = some (.int .u32 h)) (fw : ∀ o, w.frozen? ⟨wb, o, none⟩ = false) (hwb : wb < w.heap.size) :
    Dq wb (w.heap.size + 1) w.heap.size (2 * n) (wr.setCell ⟨wb, 4, none⟩ (.pointer (some ⟨w.heap.size + 1, 0, none⟩))) 0 l := by
  obtain ⟨h1, h2, h3, h4, h5, h6⟩ := h
  have hcell : ∀ o, o ≠ 4 → (wr.setCell ⟨wb, 4, none⟩ (.pointer (some ⟨w.heap.size + 1, 0, none⟩))).cell? ⟨wb, o, none⟩ = w.cell? ⟨wb, o, none⟩ := fun o ho => by
    rw [World.cell?_setCell_other _ _ _ _ (by simp [Ne.symm ho]), h1.cell hwb]
  have hslot : ∀ j, (wr.setCell ⟨wb, 4, none⟩ (.pointer (some ⟨w.heap.size + 1, 0, none⟩))).cell? ⟨w.heap.size, j, none⟩ = wr.cell? ⟨w.heap.size, j, none⟩ := fun j => by
    rw [World.cell?_setCell_other _ _ _ _ (by simp)]
  have k4 : wr.cell? ⟨wb, 4, none⟩ = some (.pointer (some ⟨rb, 0, none⟩)) := by rw [h1.cell hwb]; exact c4
  refine ⟨hP2, by omega, by omega, ?_, by omega, by omega, by omega, ?_, ?_, ?_, ?_, fun o => ?_, fun j => ?_, fun j hj => ?_, fun j p _ hp => ?_⟩
  · unfold RingBlk
    rw [Below.heap_setCell _ _ _ _ (by show w.heap.size + 1 ≠ wb; omega)]
    exact h3
  · obtain ⟨top, a1, a2, a3, a4⟩ := c2
    exact ⟨top, a1, a2, a3, by rw [hcell 2 (by decide)]; exact a4⟩
  · rw [hcell 3 (by decide)]; exact c3
  · simp [go_sem, k4]
  · obtain ⟨x, a1, a2, a4⟩ := c5
    exact ⟨x, a1, a2, by rw [hcell 5 (by decide)]; exact a4⟩
  · rw [World.frozen?_setCell, h1.frozen hwb]; exact fw o
  · rw [World.frozen?_setCell]; exact h5 j
  · rw [hslot]; exact h4 j hj
  · rw [hslot]
    have : j < l.length := by
      rcases Nat.lt_or_ge j l.length with h | h
      · exact h
      · rw [List.getElem?_eq_none h] at hp; cases hp
    exact h6 j p (by omega) hp

set_option maxHeartbeats 1000000 in
theorem grow_full (wb rb sb n : Nat) (l : List Nat) (w : World) (h : Dq wb rb sb n w 0 l) (hl : l.length = n) (hn : n < 2048) (hp : ∀ p, p ∈ l → Proc w p) :
    Calls Yba.prog 20 #[.pointer (some ⟨wb, 2, none⟩), .pointer (some ⟨rb, 0, none⟩), .int .u32 0, .int .u32 l.length] w fun e w' => e = .returned (.pointer (some ⟨w.heap.size + 1, 0, none⟩)) ∧
      Dq wb (w.heap.size + 1) w.heap.size (2 * n) w' 0 l ∧ FrB wb w w' := by
  obtain ⟨hP, hln, htl, hR, n1, n2, n3, ⟨top, t0, t1, t2, c2⟩, c3, c4, ⟨hh, h0, h1, c5⟩, fw, fs, cs, ci⟩ := h
  have g1 := hP.lo
  have g2 := hP.hi
  have hP2 := hP.double hn
  have r0 := hR.cell0
  have r1 := hR.cell1
  have hwb : wb < w.heap.size := World.block_lt_of_cell? _ _ c3
  have hrb : rb < w.heap.size := World.block_lt_of_cell? _ _ r0
  have HC : Hid (∀ i p, 0 ≤ i → l[i]? = some p → w.cell? ⟨sb, i, none⟩ = some (.pointer (some ⟨p, 0, none⟩))) := ci
  have HL : Hid (l.length = n) := hl
  have c2' : ∃ top : Int, 0 ≤ top ∧ top < 18446744073709551616 ∧ top % 4294967296 = ((0 : Nat) : Int) ∧ w.cell? ⟨wb, 2, none⟩ = some (.int .u64 top) := ⟨top, t0, t1, t2, c2⟩
  have c5' : ∃ h : Int, 0 ≤ h ∧ h < 4294967296 ∧ w.cell? ⟨wb, 5, none⟩ = some (.int .u32 h) := ⟨hh, h0, h1, c5⟩
  have HP : Hid (∀ p, p ∈ l → Proc w p) := hp
  have HS : Hid (∀ i, i < n → ∃ x, w.cell? ⟨sb, i, none⟩ = some (.pointer x)) := cs
  have hl1 : l.length ≤ n := by omega
  have hl2 : n ≤ l.length := by omega
  clear ci hl hp cs
  go_enter Yba.func20, Yba.ntmps20
  go_wp2_with fail
  refine (newRing_at (2 * n) (2 * (n : Int)) (by omega) _ (by omega) (by omega)).mono ?_
  rintro e w' ⟨rfl, rfl⟩
  go_wp2_with fail
  go_loopw [10] (fun s10 wr => ∃ i : Nat, s10 = .int .u32 i ∧ i ≤ n ∧ Copied w wr n l i) (fun s10 _ => n - (intOf s10).toNat)
  case atStart => exact ⟨0, rfl, by omega, copied_start w n l _ (by omega)⟩
  case round =>
    obtain ⟨i, rfl, hi, hC⟩ := hrel
    by_cases hlt : i < n
    · have hne : ((i : Int) != (l.length : Int)) = true := by simp; omega
      obtain ⟨p, hpi⟩ : ∃ p, l[i]? = some p := ⟨l[i]'(by omega), by simp⟩
      have q0 : wr.cell? ⟨rb, 0, none⟩ = some (.slice (some ⟨sb, 0, none⟩) n n) := by rw [hC.1.cell hrb]; exact r0
      have q1 : wr.cell? ⟨rb, 1, none⟩ = some (.int .u32 ((n : Int) - 1)) := by rw [hC.1.cell hrb]; exact r1
      have q2 := hC.2.2.1.cell0
      have q3 : wr.cell? ⟨w.heap.size + 1, 1, none⟩ = some (.int .u32 (2 * (n : Int) - 1)) := by rw [hC.2.2.1.cell1]; congr 3
      obtain ⟨x, cx⟩ := hC.2.2.2.1 i (by omega)
      have fx := hC.2.2.2.2.1 i
      have m1 := hP.mask i hlt
      have m2 : bits .and .u32 (i : Int) (2 * (n : Int) - 1) = i := hP2.mask i (by omega)
      have hsb : sb < w.heap.size := by
        obtain ⟨y, hy⟩ := HS.out i hlt
        exact World.block_lt_of_cell? _ _ hy
      have ps : wr.cell? ⟨sb, i, none⟩ = some (.pointer (some ⟨p, 0, none⟩)) := by rw [hC.1.cell hsb]; exact HC.out i p (by omega) hpi
      have hpr : Proc wr p := by
        have hp0 := HP.out p (List.mem_of_getElem? hpi)
        obtain ⟨v, hv⟩ := hp0.cell
        exact hp0.of_block (hC.1.block p (World.block_lt_of_cell? _ _ hv))
      have HI : Hid (l[i]? = some p) := hpi
      have b1 : (i : Int) < (n : Int) := by omega
      have b2 : (i : Int) < 2 * (n : Int) := by omega
      have b3 : i < 2 * n := by omega
      clear hpi
      go_wp2_with fail
      go_region_held3 (fun w' => w'.cell? ⟨rb, 0, none⟩ = some (.slice (some ⟨sb, 0, none⟩) n n) ∧ w'.cell? ⟨rb, 1, none⟩ = some (.int .u32 ((n : Int) - 1)) ∧
          w'.cell? ⟨w.heap.size + 1, 0, none⟩ = some (.slice (some ⟨w.heap.size, 0, none⟩) (2 * n) (2 * n)) ∧ w'.cell? ⟨w.heap.size + 1, 1, none⟩ = some (.int .u32 (2 * (n : Int) - 1)))
        (simp [go_sem, q0, q1, q2, q3, Nat.ne_of_lt hrb])
        (first
          | (go_at_call 24; refine (slot_load sb i p _ ?_ ?_).mono ?_; exact ps; exact hpr; rintro e w' ⟨rfl, rfl⟩)
          | (go_at_call 21; refine (slot_store w.heap.size i p (.pointer x) _ ?_ ?_ ?_).mono ?_; exact cx; exact fx; exact hpr; rintro e w' ⟨rfl, rfl⟩))
      all_goals go_wp2_with fail
      all_goals exact ⟨⟨i + 1, by go_num, by omega, copied_step hC hlt p HI.out⟩, by simp [intOf]; omega⟩
    · obtain rfl : i = n := by omega
      have hne : ((i : Int) != (l.length : Int)) = false := by simp; omega
      have k4 : wr.cell? ⟨wb, 4, none⟩ = some (.pointer (some ⟨rb, 0, none⟩)) := by rw [hC.1.cell hwb]; exact c4
      have k4f : wr.frozen? ⟨wb, 4, none⟩ = false := by rw [hC.1.frozen hwb]; exact fw 4
      go_wp2_with fail
      refine (ring_store wb 4 (w.heap.size + 1) w.heap.size (2 * i) (.pointer (some ⟨rb, 0, none⟩)) _ k4 k4f hC.2.2.1).mono ?_
      rintro e w' ⟨rfl, rfl⟩
      go_wp2_with fail
      go_ret
      exact ⟨rfl, copied_done wb rb i l w wr hC hP2 (by omega) c2' c3 c4 c5' fw hwb, frB_copied hC.1 hwb⟩
end Go.Proofs.Ybulknqg
