/-
  Deque.Push: the deque's state gains its newest item.
-/
import Derived.Test.YbulknqgGrow
namespace Go.Proofs.Ybulknqg
open Go.RowKit
set_option linter.unusedVariables false
set_option linter.unusedSimpArgs false

/-- The worlds behind the stores of a Push. -/
def Pushed (wb sb p m : Nat) (w w' : World) : Prop :=
  w' = (((w.setCell ⟨sb, m, none⟩ (.pointer (some ⟨p, 0, none⟩))).setCell ⟨wb, 3, none⟩ (.int .u32 (m + 1))).setCell ⟨wb, 5, none⟩ (.int .u32 (m + 1))).drew
    ∨ w' = ((w.setCell ⟨sb, m, none⟩ (.pointer (some ⟨p, 0, none⟩))).setCell ⟨wb, 3, none⟩ (.int .u32 (m + 1))).drew

theorem dq_pushed {wb rb sb n p : Nat} {l : List Nat} {w w' : World} (h : Dq wb rb sb n w 0 l) (hl : l.length < n) (hw : Pushed wb sb p l.length w w') : Dq wb rb sb n w' 0 (l ++ [p]) := by
  obtain ⟨hP, hln, htl, hR, n1, n2, n3, ⟨top, t0, t1, t2, c2⟩, c3, c4, ⟨hh, h0, h1, c5⟩, fw, fs, cs, ci⟩ := h
  have g2 := hP.hi
  obtain ⟨x, cx⟩ := cs l.length hl
  have items : ∀ (W : World), (∀ i, W.cell? ⟨sb, i, none⟩ = (w.setCell ⟨sb, l.length, none⟩ (.pointer (some ⟨p, 0, none⟩))).cell? ⟨sb, i, none⟩) →
      (∀ i, i < n → ∃ x, W.cell? ⟨sb, i, none⟩ = some (.pointer x)) ∧ ∀ i q, 0 ≤ i → (l ++ [p])[i]? = some q → W.cell? ⟨sb, i, none⟩ = some (.pointer (some ⟨q, 0, none⟩)) := by
    intro W hW
    have hhit : (w.setCell ⟨sb, l.length, none⟩ (.pointer (some ⟨p, 0, none⟩))).cell? ⟨sb, l.length, none⟩ = some (.pointer (some ⟨p, 0, none⟩)) := by simp [go_sem, cx]
    have hmiss : ∀ j, j ≠ l.length → (w.setCell ⟨sb, l.length, none⟩ (.pointer (some ⟨p, 0, none⟩))).cell? ⟨sb, j, none⟩ = w.cell? ⟨sb, j, none⟩ := fun j hj => by
      rw [World.cell?_setCell_other _ _ _ _ (by simp [Ne.symm hj])]
    refine ⟨fun i hi => ?_, fun i q _ hq => ?_⟩
    · rw [hW]
      by_cases e : i = l.length
      · subst e; exact ⟨_, hhit⟩
      · obtain ⟨y, hy⟩ := cs i hi
        exact ⟨y, by rw [hmiss i e]; exact hy⟩
    · rw [hW]
      by_cases e : i = l.length
      · subst e
        simp at hq
        subst hq
        exact hhit
      · rw [hmiss i e]
        refine ci i q (by omega) ?_
        rw [List.getElem?_append] at hq
        split at hq
        · exact hq
        · rename_i hge
          cases hk : i - l.length with
          | zero => omega
          | succ m => rw [hk] at hq; simp at hq
  have ring : ∀ (W : World), W.heap[rb]? = w.heap[rb]? → RingBlk W rb sb n := fun W hW => by unfold RingBlk at *; rw [hW]; exact hR
  have e3 : ((l ++ [p]).length : Int) = (l.length : Int) + 1 := by simp
  rcases hw with rfl | rfl
  · obtain ⟨i1, i2⟩ := items _ (fun i => show (((w.setCell ⟨sb, l.length, none⟩ (.pointer (some ⟨p, 0, none⟩))).setCell ⟨wb, 3, none⟩ (.int .u32 (l.length + 1))).setCell ⟨wb, 5, none⟩ (.int .u32 (l.length + 1))).cell? ⟨sb, i, none⟩ = _ by
      rw [World.cell?_setCell_other _ _ _ _ (by simp [n2]), World.cell?_setCell_other _ _ _ _ (by simp [n2])])
    refine ⟨hP, by simp; omega, by omega, ring _ ?_, n1, n2, n3, ⟨top, t0, t1, t2, ?_⟩, ?_, ?_, ⟨(l.length : Int) + 1, by omega, by omega, ?_⟩, fun o => ?_, fun o => ?_, i1, i2⟩
    · show (((w.setCell _ _).setCell _ _).setCell _ _).heap[rb]? = _
      rw [Below.heap_setCell _ _ _ _ (Ne.symm n1), Below.heap_setCell _ _ _ _ (Ne.symm n1), Below.heap_setCell _ _ _ _ n3]
    · simp [go_sem, c2, n2, Ne.symm n2]
    · rw [e3]; simp [go_sem, c3, n2, Ne.symm n2]
    · simp [go_sem, c4, n2, Ne.symm n2]
    · simp [go_sem, c5, n2, Ne.symm n2]
    · simp [go_sem, fw]
    · simp [go_sem, fs]
  · obtain ⟨i1, i2⟩ := items _ (fun i => show ((w.setCell ⟨sb, l.length, none⟩ (.pointer (some ⟨p, 0, none⟩))).setCell ⟨wb, 3, none⟩ (.int .u32 (l.length + 1))).cell? ⟨sb, i, none⟩ = _ by
      rw [World.cell?_setCell_other _ _ _ _ (by simp [n2])])
    refine ⟨hP, by simp; omega, by omega, ring _ ?_, n1, n2, n3, ⟨top, t0, t1, t2, ?_⟩, ?_, ?_, ⟨hh, h0, h1, ?_⟩, fun o => ?_, fun o => ?_, i1, i2⟩
    · show ((w.setCell _ _).setCell _ _).heap[rb]? = _
      rw [Below.heap_setCell _ _ _ _ (Ne.symm n1), Below.heap_setCell _ _ _ _ n3]
    · simp [go_sem, c2, n2, Ne.symm n2]
    · rw [e3]; simp [go_sem, c3, n2, Ne.symm n2]
    · simp [go_sem, c4, n2, Ne.symm n2]
    · simp [go_sem, c5, n2, Ne.symm n2]
    · simp [go_sem, fw]
    · simp [go_sem, fs]

theorem keep_pushed {WR : World} {S : Nat → Prop} {wb sb p m : Nat} {w w' : World} (h : Keep WR S wb w) (h1 : ¬ S wb) (h2 : ¬ S sb) (hw : Pushed wb sb p m w w') : Keep WR S wb w' := by
  rcases hw with rfl | rfl
  · exact (((h.set sb _ _ h2).set wb _ _ h1).set wb _ _ h1).drew
  · exact ((h.set sb _ _ h2).set wb _ _ h1).drew

set_option maxHeartbeats 1000000 in
/-- Push where the ring has room. -/
theorem push_room (wb rb sb n p : Nat) (l : List Nat) (w : World) (h : Dq wb rb sb n w 0 l) (hl : l.length < n) (hp : Proc w p) :
    Calls Yba.prog 8 #[.pointer (some ⟨wb, 2, none⟩), .pointer (some ⟨p, 0, none⟩)] w fun e w' => e = .returned (.tuple #[]) ∧ Pushed wb sb p l.length w w' := by
  obtain ⟨hP, hln, htl, hR, n1, n2, n3, ⟨top, t0, t1, t2, c2⟩, c3, c4, ⟨hh, h0, h1, c5⟩, fw, fs, cs, ci⟩ := h
  have g1 := hP.lo
  have g2 := hP.hi
  obtain ⟨x, cx⟩ := cs l.length hl
  have fx := fs l.length
  have f3 := fw 3
  have f5 := fw 5
  have hm := hP.mask l.length hl
  have r0 := hR.cell0
  have r1 := hR.cell1
  clear cs ci fs fw
  go_enter Yba.func8, Yba.ntmps8
  go_wp2_with fail
  refine (u32_load wb 3 _ _ c3).mono ?_
  rintro e w' ⟨rfl, rfl⟩
  go_wp2_with fail
  refine (u64_load wb 2 _ _ c2).mono ?_
  rintro e w' ⟨rfl, rfl⟩
  go_wp2_with fail
  refine (ring_load wb 4 rb sb n _ c4 hR).mono ?_
  rintro e w' ⟨rfl, rfl⟩
  go_wp2_with fail
  have hpd : Proc w.drew p := hp
  go_region_held3 (fun w' => w'.cell? ⟨rb, 0, none⟩ = some (.slice (some ⟨sb, 0, none⟩) n n) ∧ w'.cell? ⟨rb, 1, none⟩ = some (.int .u32 ((n : Int) - 1)))
    (simp [go_sem, r0, r1, Ne.symm n3])
    ((go_at_call 21; refine (slot_store sb l.length p (.pointer x) _ ?_ ?_ ?_).mono ?_; exact cx; exact fx; exact hp; rintro e w' ⟨rfl, rfl⟩))
  go_wp2_with fail
  refine (u32_store wb 3 l.length _ _ (by simp [go_sem, c3, Ne.symm n2]) (by simp [go_sem, f3])).mono ?_
  rintro e w' ⟨rfl, rfl⟩
  go_wp2_with fail
  · go_end0
    exact ⟨rfl, Or.inl rfl⟩
  · go_end0
    exact ⟨rfl, Or.inr rfl⟩

theorem frB_first {wb : Nat} {w : World} (c4 : w.cell? ⟨wb, 4, none⟩ = some (.pointer none)) (A B : Obj) (v : Value) : FrB wb w (((w.setCell ⟨wb, 4, none⟩ v).alloc A).alloc B) := by
  have hsz : (w.setCell ⟨wb, 4, none⟩ v).heap.size = w.heap.size := by simp [World.setCell]
  refine ⟨rfl, rfl, rfl, by simp [World.setCell]; omega, fun j hj hne => ?_⟩
  rw [Below.heap_alloc _ _ _ (by simp; omega), Below.heap_alloc _ _ _ (by omega), Below.heap_setCell _ _ _ _ hne]

set_option maxHeartbeats 1000000 in
/-- Push into the zero deque. -/
theorem push_first (wb p : Nat) (w : World) (h : Dq0 wb w) (hp : Proc w p) (hpw : p ≠ wb) :
    Calls Yba.prog 8 #[.pointer (some ⟨wb, 2, none⟩), .pointer (some ⟨p, 0, none⟩)] w fun e w' => e = .returned (.tuple #[]) ∧ ∃ w1, Dq wb (w.heap.size + 1) w.heap.size 32 w1 0 [] ∧ FrB wb w w1 ∧ Pushed wb w.heap.size p 0 w1 w' := by
  have hD := dq_first wb w h
  obtain ⟨k2, k3, k4, k5, kf⟩ := h
  have kf4 := kf 4
  clear kf
  go_enter Yba.func8, Yba.ntmps8
  go_wp2_with fail
  refine (u32_load wb 3 _ _ k3).mono ?_
  rintro e w' ⟨rfl, rfl⟩
  go_wp2_with fail
  refine (u64_load wb 2 _ _ k2).mono ?_
  rintro e w' ⟨rfl, rfl⟩
  go_wp2_with fail
  refine (ring_load_nil wb 4 _ k4).mono ?_
  rintro e w' ⟨rfl, rfl⟩
  go_wp2_with fail
  refine (grow_nil wb _ k4 kf4).mono ?_
  have hF := frB_first k4 (.cells (madeCells #[.pointer none] 32) 139) (.cells #[.slice (some ⟨w.heap.size, 0, none⟩) 32 32, .int .u32 31] 135) (.pointer (some ⟨w.heap.size + 1, 0, none⟩))
  obtain ⟨v0, hv0⟩ := hp.cell
  have hpl : p < w.heap.size := World.block_lt_of_cell? _ _ hv0
  rintro e w1 ⟨rfl, hw1⟩
  rw [← hw1] at hD hF
  clear hw1
  replace hp : Proc w1 p := hp.of_block (hF.2.2.2.2 p hpl hpw)
  have hD' := hD
  obtain ⟨hP, hln, htl, hR, n1, n2, n3, ⟨top, t0, t1, t2, c2⟩, c3, c4, ⟨hh, h0, h1, c5⟩, fw, fs, cs, ci⟩ := hD
  obtain ⟨x, cx⟩ := cs 0 (by omega)
  have fx := fs 0
  have f3 := fw 3
  have f5 := fw 5
  have hm : bits .and .u32 0 31 = 0 := Pow.first.mask 0 (by omega)
  have r0 := hR.cell0
  have r1 : w1.cell? ⟨w.heap.size + 1, 1, none⟩ = some (.int .u32 31) := hR.cell1
  have c3' : w1.cell? ⟨wb, 3, none⟩ = some (.int .u32 0) := c3
  clear cs ci fs fw c3 hR
  go_wp2_with fail
  go_region_held3 (fun w' => w'.cell? ⟨w.heap.size + 1, 0, none⟩ = some (.slice (some ⟨w.heap.size, 0, none⟩) 32 32) ∧ w'.cell? ⟨w.heap.size + 1, 1, none⟩ = some (.int .u32 31))
    (simp [go_sem, r0, r1])
    ((go_at_call 21; refine (slot_store w.heap.size 0 p (.pointer x) _ ?_ ?_ ?_).mono ?_; exact cx; exact fx; exact hp; rintro e w' ⟨rfl, rfl⟩))
  go_wp2_with fail
  refine (u32_store wb 3 0 _ _ (by simp [go_sem, c3', Ne.symm n2]) (by simp [go_sem, f3])).mono ?_
  rintro e w' ⟨rfl, rfl⟩
  go_wp2_with fail
  · go_end0
    exact ⟨rfl, w1, hD', hF, Or.inl rfl⟩
  · go_end0
    exact ⟨rfl, w1, hD', hF, Or.inr rfl⟩

set_option maxHeartbeats 1000000 in
/-- Push into a full ring. -/
theorem push_full (wb rb0 sb0 n0 p : Nat) (l : List Nat) (w : World) (h : Dq wb rb0 sb0 n0 w 0 l) (hl0 : l.length = n0) (hn0 : n0 < 2048) (hps : ∀ q, q ∈ l → Proc w q) (hp : Proc w p) (hpw : p ≠ wb) :
    Calls Yba.prog 8 #[.pointer (some ⟨wb, 2, none⟩), .pointer (some ⟨p, 0, none⟩)] w fun e w' => e = .returned (.tuple #[]) ∧ ∃ w1, Dq wb (w.heap.size + 1) w.heap.size (2 * n0) w1 0 l ∧ FrB wb w w1 ∧ Pushed wb w.heap.size p l.length w1 w' := by
  have hD0 := h
  have HPS : Hid (∀ q, q ∈ l → Proc w q) := hps
  obtain ⟨hP0, _, _, hR0, _, _, _, ⟨top0, a0, a1, a2, k2⟩, k3, k4, _, _, _, _, _⟩ := h
  have g1 := hP0.lo
  have g2 := hP0.hi
  have q0 := hR0.cell0
  have HL : Hid (l.length = n0) := hl0
  have hl1 : l.length ≤ n0 := by omega
  have hl2 : n0 ≤ l.length := by omega
  clear hl0 hps
  go_enter Yba.func8, Yba.ntmps8
  go_wp2_with fail
  refine (u32_load wb 3 _ _ k3).mono ?_
  rintro e w' ⟨rfl, rfl⟩
  go_wp2_with fail
  refine (u64_load wb 2 _ _ k2).mono ?_
  rintro e w' ⟨rfl, rfl⟩
  go_wp2_with fail
  refine (ring_load wb 4 rb0 sb0 n0 _ k4 hR0).mono ?_
  rintro e w' ⟨rfl, rfl⟩
  go_wp2_with fail
  refine (grow_full wb rb0 sb0 n0 l w hD0 HL.out hn0 HPS.out).mono ?_
  obtain ⟨v0, hv0⟩ := hp.cell
  have hpl : p < w.heap.size := World.block_lt_of_cell? _ _ hv0
  rintro e w1 ⟨rfl, hD, hF⟩
  replace hp : Proc w1 p := hp.of_block (hF.2.2.2.2 p hpl hpw)
  have hD' := hD
  obtain ⟨hP, hln, htl, hR, n1, n2, n3, ⟨top, t0, t1, t2, c2⟩, c3, c4, ⟨hh, h0, h1, c5⟩, fw, fs, cs, ci⟩ := hD
  obtain ⟨x, cx⟩ := cs l.length (by omega)
  have fx := fs l.length
  have f3 := fw 3
  have f5 := fw 5
  have hm : bits .and .u32 (l.length : Int) (2 * (n0 : Int) - 1) = l.length := hP.mask l.length (by omega)
  have r0 := hR.cell0
  have r1 : w1.cell? ⟨w.heap.size + 1, 1, none⟩ = some (.int .u32 (2 * (n0 : Int) - 1)) := by rw [hR.cell1]; congr 3
  have b2 : (l.length : Int) < 2 * (n0 : Int) := by omega
  have b3 : l.length < 2 * n0 := by omega
  clear cs ci fs fw hR k2 k3 k4 q0
  go_wp2_with fail
  go_region_held3 (fun w' => w'.cell? ⟨w.heap.size + 1, 0, none⟩ = some (.slice (some ⟨w.heap.size, 0, none⟩) (2 * n0) (2 * n0)) ∧ w'.cell? ⟨w.heap.size + 1, 1, none⟩ = some (.int .u32 (2 * (n0 : Int) - 1)))
    (simp [go_sem, r0, r1])
    ((go_at_call 21; refine (slot_store w.heap.size l.length p (.pointer x) _ ?_ ?_ ?_).mono ?_; exact cx; exact fx; exact hp; rintro e w' ⟨rfl, rfl⟩))
  go_wp2_with fail
  refine (u32_store wb 3 l.length _ _ (by simp [go_sem, c3, Ne.symm n2]) (by simp [go_sem, f3])).mono ?_
  rintro e w' ⟨rfl, rfl⟩
  go_wp2_with fail
  · go_end0
    exact ⟨rfl, w1, hD', hF, Or.inl rfl⟩
  · go_end0
    exact ⟨rfl, w1, hD', hF, Or.inr rfl⟩

/-- Deque.Push by the owner: the newest item. -/
theorem push_any {WR : World} {S : Nat → Prop} {wb p : Nat} {l : List Nat} {w : World} (h : Q WR S wb w 0 l) (hS : S p) (hp : Proc WR p) (hl : l.length < 2048) :
    Calls Yba.prog 8 #[.pointer (some ⟨wb, 2, none⟩), .pointer (some ⟨p, 0, none⟩)] w fun e w' => e = .returned (.tuple #[]) ∧ Q WR S wb w' 0 (l ++ [p]) := by
  obtain ⟨hK, hwb, hI, hst⟩ := h
  have hpw := hK.proc hS hp
  have hne := (hK.2.2.2.2 p hS).2.1
  have hI' : ∀ q, q ∈ l ++ [p] → S q ∧ Proc WR q := fun q hq => by
    rcases List.mem_append.1 hq with h | h
    · exact hI q h
    · simp at h; subst h; exact ⟨hS, hp⟩
  have fresh : ∀ k, w.heap.size ≤ k → ¬ S k := fun k hk hs => by
    have := (hK.2.2.2.2 k hs).1
    have := hK.2.2.2.1
    omega
  rcases hst with ⟨_, rfl, h0⟩ | ⟨rb, sb, n, hD, hr, hs⟩
  · refine (push_first wb p w h0 hpw hne).mono ?_
    rintro e w' ⟨rfl, w1, hD, hF, hw⟩
    exact ⟨rfl, keep_pushed (hK.fr hF) hwb (fresh _ (Nat.le_refl _)) hw, hwb, hI', Or.inr ⟨_, _, _, dq_pushed hD (by simp) hw, fresh _ (by omega), fresh _ (Nat.le_refl _)⟩⟩
  · by_cases hlt : l.length < n
    · refine (push_room wb rb sb n p l w hD hlt hpw).mono ?_
      rintro e w' ⟨rfl, hw⟩
      exact ⟨rfl, keep_pushed hK hwb hs hw, hwb, hI', Or.inr ⟨_, _, _, dq_pushed hD hlt hw, hr, hs⟩⟩
    · have hln : l.length = n := by have := hD.2.1; omega
      have hlo := hD.1.lo
      refine (push_full wb rb sb n p l w hD hln (by omega) (fun q hq => hK.proc (hI q hq).1 (hI q hq).2) hpw hne).mono ?_
      rintro e w' ⟨rfl, w1, hD1, hF, hw⟩
      exact ⟨rfl, keep_pushed (hK.fr hF) hwb (fresh _ (Nat.le_refl _)) hw, hwb, hI', Or.inr ⟨_, _, _, dq_pushed hD1 (by omega) hw, fresh _ (by omega), fresh _ (Nat.le_refl _)⟩⟩
end Go.Proofs.Ybulknqg
