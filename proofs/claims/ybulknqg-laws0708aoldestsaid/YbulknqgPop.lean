/-
  Deque.Pop: the deque's state loses its newest item.
-/
import Derived.Test.YbulknqgPush
namespace Go.Proofs.Ybulknqg
open Go.RowKit
set_option linter.unusedVariables false
set_option linter.unusedSimpArgs false

/-- The worlds behind the stores of a Pop. -/
def Popped (wb sb m : Nat) (top' : Int) (w w' : World) : Prop :=
  w' = ((w.setCell ⟨wb, 3, none⟩ (.int .u32 m)).setCell ⟨sb, m, none⟩ (.pointer none)).drew
    ∨ w' = ((((w.setCell ⟨wb, 3, none⟩ (.int .u32 m)).setCell ⟨wb, 2, none⟩ (.int .u64 top')).setCell ⟨wb, 5, none⟩ (.int .u32 m)).setCell ⟨sb, m, none⟩ (.pointer none)).drew

set_option maxHeartbeats 1000000 in
theorem pop_some (wb rb sb n p t : Nat) (l : List Nat) (w : World) (h : Dq wb rb sb n w t (l ++ [p])) (ht : t ≤ l.length) (hp : Proc w p) (hpw : p ≠ wb) :
    Calls Yba.prog 10 #[.pointer (some ⟨wb, 2, none⟩)] w fun e w' => e = .returned (.pointer (some ⟨p, 0, none⟩)) ∧ ∃ top' : Int, 0 ≤ top' ∧ top' < 18446744073709551616 ∧ top' % 4294967296 = t ∧ Popped wb sb l.length top' w w' := by
  obtain ⟨hP, hln, htl, hR, n1, n2, n3, ⟨top, t0, t1, t2, c2⟩, c3, c4, ⟨hh, h0, h1, c5⟩, fw, fs, cs, ci⟩ := h
  have g1 := hP.lo
  have g2 := hP.hi
  have hl : l.length + 1 ≤ n := by simpa using hln
  have c3' : w.cell? ⟨wb, 3, none⟩ = some (.int .u32 ((l.length : Int) + 1)) := by rw [c3]; simp
  have cx : w.cell? ⟨sb, l.length, none⟩ = some (.pointer (some ⟨p, 0, none⟩)) := ci l.length p ht (by simp)
  have fx := fs l.length
  have f2 := fw 2
  have f3 := fw 3
  have f5 := fw 5
  have hm := hP.mask l.length (by omega)
  have r0 := hR.cell0
  have r1 := hR.cell1
  have b1 : (l.length : Int) < (n : Int) := by omega
  have hb : ((l.length : Int) + 1 == (t : Int)) = false := by simp; omega
  clear cs ci fs fw c3 hln htl
  go_enter Yba.func10, Yba.ntmps10
  go_wp2_with fail
  refine (u32_load wb 3 _ _ c3').mono ?_
  rintro e w' ⟨rfl, rfl⟩
  go_wp2_with fail
  refine (u64_load wb 2 _ _ c2).mono ?_
  rintro e w' ⟨rfl, rfl⟩
  go_wp2_with fail
  refine (u32_store wb 3 _ _ _ c3' f3).mono ?_
  rintro e w' ⟨rfl, rfl⟩
  go_wp2_with fail
  refine wp_loop_rounds 1 ?_
  rw [rounds_succ]
  go_wp2_with fail
  refine (u64_load wb 2 top _ (by simp [go_sem, c2])).mono ?_
  rintro e w' ⟨rfl, rfl⟩
  go_wp2_with fail
  · refine (ring_load wb 4 rb sb n _ (by simp [go_sem, c4]) (by unfold RingBlk at *; rw [Below.heap_setCell _ _ _ _ (Ne.symm n1)]; exact hR)).mono ?_
    rintro e w' ⟨rfl, rfl⟩
    go_wp2_with fail
    go_region_held3 (fun w' => w'.cell? ⟨rb, 0, none⟩ = some (.slice (some ⟨sb, 0, none⟩) n n) ∧ w'.cell? ⟨rb, 1, none⟩ = some (.int .u32 ((n : Int) - 1)))
      (simp [go_sem, r0, r1, n1])
      (fail)
    go_wp2_with fail
    refine (slot_load sb l.length p _ (by simp [go_sem, cx, n2]) ?_).mono ?_
    · exact hp.of_block (by show (_ : World).heap[p]? = _; rw [World.drew, Below.heap_setCell _ _ _ _ hpw])
    rintro e w' ⟨rfl, rfl⟩
    go_wp2_with fail
    refine (slot_clear sb l.length (.pointer (some ⟨p, 0, none⟩)) _ (by simp [go_sem, cx, n2]) (by simp [go_sem, fx])).mono ?_
    rintro e w' ⟨rfl, rfl⟩
    go_wp2_with fail
    go_ret
    exact ⟨rfl, top, t0, t1, t2, Or.inl rfl⟩
  · refine (u64_cas wb 2 top _ _ (by simp [go_sem, c2]) (by simp [go_sem, f2])).mono ?_
    rintro e w' ⟨rfl, rfl⟩
    go_wp2_with fail
    refine (ring_load wb 4 rb sb n _ (by simp [go_sem, c4]) (by unfold RingBlk at *; rw [Below.heap_setCell _ _ _ _ (Ne.symm n1), Below.heap_setCell _ _ _ _ (Ne.symm n1), Below.heap_setCell _ _ _ _ (Ne.symm n1)]; exact hR)).mono ?_
    rintro e w' ⟨rfl, rfl⟩
    go_wp2_with fail
    go_region_held3 (fun w' => w'.cell? ⟨rb, 0, none⟩ = some (.slice (some ⟨sb, 0, none⟩) n n) ∧ w'.cell? ⟨rb, 1, none⟩ = some (.int .u32 ((n : Int) - 1)))
      (simp [go_sem, r0, r1, n1])
      (fail)
    go_wp2_with fail
    refine (slot_load sb l.length p _ (by simp [go_sem, cx, n2]) ?_).mono ?_
    · exact hp.of_block (by show (_ : World).heap[p]? = _; rw [World.drew, Below.heap_setCell _ _ _ _ hpw, Below.heap_setCell _ _ _ _ hpw, Below.heap_setCell _ _ _ _ hpw])
    rintro e w' ⟨rfl, rfl⟩
    go_wp2_with fail
    refine (slot_clear sb l.length (.pointer (some ⟨p, 0, none⟩)) _ (by simp [go_sem, cx, n2]) (by simp [go_sem, fx])).mono ?_
    rintro e w' ⟨rfl, rfl⟩
    go_wp2_with fail
    go_ret
    exact ⟨rfl, IntKind.u64.wrap (top + 4294967296), by rw [IntKind.wrap_u64]; omega, by rw [IntKind.wrap_u64]; omega, by rw [IntKind.wrap_u64]; omega, Or.inr rfl⟩

set_option maxHeartbeats 1000000 in
theorem dq_popped {wb rb sb n p t : Nat} {l : List Nat} {top' : Int} {w w' : World} (h : Dq wb rb sb n w t (l ++ [p])) (ht : t ≤ l.length) (a0 : 0 ≤ top') (a1 : top' < 18446744073709551616) (a2 : top' % 4294967296 = t) (hw : Popped wb sb l.length top' w w') : Dq wb rb sb n w' t l := by
  obtain ⟨hP, hln, htl, hR, n1, n2, n3, ⟨top, t0, t1, t2, c2⟩, c3, c4, ⟨hh, h0, h1, c5⟩, fw, fs, cs, ci⟩ := h
  have g2 := hP.hi
  have hl : l.length + 1 ≤ n := by simpa using hln
  obtain ⟨x, cx⟩ := cs l.length (by omega)
  have items : ∀ (W V : World), (∀ i, V.cell? ⟨sb, i, none⟩ = w.cell? ⟨sb, i, none⟩) → (∀ i, W.cell? ⟨sb, i, none⟩ = (V.setCell ⟨sb, l.length, none⟩ (.pointer none)).cell? ⟨sb, i, none⟩) →
      (∀ i, i < n → ∃ x, W.cell? ⟨sb, i, none⟩ = some (.pointer x)) ∧ ∀ i q, t ≤ i → l[i]? = some q → W.cell? ⟨sb, i, none⟩ = some (.pointer (some ⟨q, 0, none⟩)) := by
    intro W V hV hW
    have hhit : (V.setCell ⟨sb, l.length, none⟩ (.pointer none)).cell? ⟨sb, l.length, none⟩ = some (.pointer none) := by simp [go_sem, hV, cx]
    have hmiss : ∀ j, j ≠ l.length → (V.setCell ⟨sb, l.length, none⟩ (.pointer none)).cell? ⟨sb, j, none⟩ = w.cell? ⟨sb, j, none⟩ := fun j hj => by
      rw [World.cell?_setCell_other _ _ _ _ (by simp [Ne.symm hj]), hV]
    refine ⟨fun i hi => ?_, fun i q hi hq => ?_⟩
    · rw [hW]
      by_cases e : i = l.length
      · subst e; exact ⟨_, hhit⟩
      · obtain ⟨y, hy⟩ := cs i hi
        exact ⟨y, by rw [hmiss i e]; exact hy⟩
    · have hil : i < l.length := by
        rcases Nat.lt_or_ge i l.length with h | h
        · exact h
        · rw [List.getElem?_eq_none h] at hq; cases hq
      rw [hW, hmiss i (by omega)]
      exact ci i q hi (by rw [List.getElem?_append_left hil]; exact hq)
  have ring : ∀ (W : World), W.heap[rb]? = w.heap[rb]? → RingBlk W rb sb n := fun W hW => by unfold RingBlk at *; rw [hW]; exact hR
  rcases hw with rfl | rfl
  · obtain ⟨i1, i2⟩ := items (((w.setCell ⟨wb, 3, none⟩ (.int .u32 l.length)).setCell ⟨sb, l.length, none⟩ (.pointer none)).drew) (w.setCell ⟨wb, 3, none⟩ (.int .u32 l.length)) (fun i => by rw [World.cell?_setCell_other _ _ _ _ (by simp [n2])]) (fun i => rfl)
    refine ⟨hP, by omega, ht, ring _ ?_, n1, n2, n3, ⟨top, t0, t1, t2, ?_⟩, ?_, ?_, ⟨hh, h0, h1, ?_⟩, fun o => ?_, fun o => ?_, i1, i2⟩
    · show ((w.setCell _ _).setCell _ _).heap[rb]? = _
      rw [Below.heap_setCell _ _ _ _ n3, Below.heap_setCell _ _ _ _ (Ne.symm n1)]
    · simp [go_sem, c2, n2, Ne.symm n2]
    · simp [go_sem, c3, n2, Ne.symm n2]
    · simp [go_sem, c4, n2, Ne.symm n2]
    · simp [go_sem, c5, n2, Ne.symm n2]
    · simp [go_sem, fw]
    · simp [go_sem, fs]
  · obtain ⟨i1, i2⟩ := items (((((w.setCell ⟨wb, 3, none⟩ (.int .u32 l.length)).setCell ⟨wb, 2, none⟩ (.int .u64 top')).setCell ⟨wb, 5, none⟩ (.int .u32 l.length)).setCell ⟨sb, l.length, none⟩ (.pointer none)).drew) (((w.setCell ⟨wb, 3, none⟩ (.int .u32 l.length)).setCell ⟨wb, 2, none⟩ (.int .u64 top')).setCell ⟨wb, 5, none⟩ (.int .u32 l.length))
      (fun i => by rw [World.cell?_setCell_other _ _ _ _ (by simp [n2]), World.cell?_setCell_other _ _ _ _ (by simp [n2]), World.cell?_setCell_other _ _ _ _ (by simp [n2])]) (fun i => rfl)
    refine ⟨hP, by omega, ht, ring _ ?_, n1, n2, n3, ⟨top', a0, a1, a2, ?_⟩, ?_, ?_, ⟨(l.length : Int), by omega, by omega, ?_⟩, fun o => ?_, fun o => ?_, i1, i2⟩
    · show ((((w.setCell _ _).setCell _ _).setCell _ _).setCell _ _).heap[rb]? = _
      rw [Below.heap_setCell _ _ _ _ n3, Below.heap_setCell _ _ _ _ (Ne.symm n1), Below.heap_setCell _ _ _ _ (Ne.symm n1), Below.heap_setCell _ _ _ _ (Ne.symm n1)]
    · simp [go_sem, c2, n2, Ne.symm n2]
    · simp [go_sem, c3, n2, Ne.symm n2]
    · simp [go_sem, c4, n2, Ne.symm n2]
    · simp [go_sem, c5, n2, Ne.symm n2]
    · simp [go_sem, fw]
    · simp [go_sem, fs]

theorem keep_popped {WR : World} {S : Nat → Prop} {wb sb m : Nat} {top' : Int} {w w' : World} (h : Keep WR S wb w) (h1 : ¬ S wb) (h2 : ¬ S sb) (hw : Popped wb sb m top' w w') : Keep WR S wb w' := by
  rcases hw with rfl | rfl
  · exact ((h.set wb _ _ h1).set sb _ _ h2).drew
  · exact ((((h.set wb _ _ h1).set wb _ _ h1).set wb _ _ h1).set sb _ _ h2).drew

/-- Deque.Pop by the owner: the newest item. -/
theorem pop_any {WR : World} {S : Nat → Prop} {wb p t : Nat} {l : List Nat} {w : World} (h : Q WR S wb w t (l ++ [p])) (ht : t ≤ l.length) :
    Calls Yba.prog 10 #[.pointer (some ⟨wb, 2, none⟩)] w fun e w' => e = .returned (.pointer (some ⟨p, 0, none⟩)) ∧ Q WR S wb w' t l := by
  obtain ⟨hK, hwb, hI, hst⟩ := h
  obtain ⟨hS, hp⟩ := hI p (by simp)
  rcases hst with ⟨_, hn, _⟩ | ⟨rb, sb, n, hD, hr, hs⟩
  · simp at hn
  · refine (pop_some wb rb sb n p t l w hD ht (hK.proc hS hp) (hK.2.2.2.2 p hS).2.1).mono ?_
    rintro e w' ⟨rfl, top', a0, a1, a2, hw⟩
    exact ⟨rfl, keep_popped hK hwb hs hw, hwb, fun q hq => hI q (by simp [hq]), Or.inr ⟨_, _, _, dq_popped hD ht a0 a1 a2 hw, hr, hs⟩⟩

set_option maxHeartbeats 400000 in
/-- Deque.Pop of an empty deque: nil. -/
theorem pop_none {WR : World} {S : Nat → Prop} {wb : Nat} {l : List Nat} {w : World} (h : Q WR S wb w l.length l) :
    Calls Yba.prog 10 #[.pointer (some ⟨wb, 2, none⟩)] w fun e w' => e = .returned (.pointer none) ∧ w = w' := by
  obtain ⟨hK, hwb, hI, hst⟩ := h
  obtain ⟨top, t0, t1, t2, c2, c3, hl⟩ : ∃ top : Int, 0 ≤ top ∧ top < 18446744073709551616 ∧ top % 4294967296 = l.length ∧ w.cell? ⟨wb, 2, none⟩ = some (.int .u64 top) ∧ w.cell? ⟨wb, 3, none⟩ = some (.int .u32 l.length) ∧ l.length ≤ 2048 := by
    rcases hst with ⟨_, rfl, c2, c3, _⟩ | ⟨rb, sb, n, ⟨hP, hln, htl, hR, n1, n2, n3, ⟨top, t0, t1, t2, c2⟩, c3, _⟩, hr, hs⟩
    · exact ⟨0, by omega, by omega, by simp, c2, c3, by simp⟩
    · have := hP.hi
      exact ⟨top, t0, t1, t2, c2, c3, by omega⟩
  clear hst hK hI
  go_enter Yba.func10, Yba.ntmps10
  go_wp2_with fail
  refine (u32_load wb 3 _ _ c3).mono ?_
  rintro e w' ⟨rfl, rfl⟩
  go_wp2_with fail
  refine (u64_load wb 2 _ _ c2).mono ?_
  rintro e w' ⟨rfl, rfl⟩
  go_wp2_with fail
  go_ret
  exact ⟨rfl, rfl⟩
end Go.Proofs.Ybulknqg
