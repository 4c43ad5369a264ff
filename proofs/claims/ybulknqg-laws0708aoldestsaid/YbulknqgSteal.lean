/-
  Deque.steal of one item, and StealOldest.
-/
import Derived.Test.YbulknqgLawOrder
import Derived.Deep.RegionLaw
namespace Go.Proofs.Ybulknqg
open Go.RowKit
set_option linter.unusedVariables false
set_option linter.unusedSimpArgs false

set_option maxRecDepth 100000 in
set_option maxHeartbeats 1000000 in
theorem steal_one (wb rb sb n p ib t : Nat) (l : List Nat) (w : World) (h : Dq wb rb sb n w t l) (hlp : l[t]? = some p) (hp : Proc w p) (hi : w.cell? ⟨ib, 0, none⟩ = some (.pointer none)) (hif : w.frozen? ⟨ib, 0, none⟩ = false) (i1 : ib ≠ wb) (i2 : ib ≠ rb) (i3 : ib ≠ sb) (i4 : p ≠ ib) :
    Calls Yba.prog 25 #[.pointer (some ⟨wb, 2, none⟩), .slice (some ⟨ib, 0, none⟩) 0 1, .int .i32 1] w fun e w' => e = .returned (.slice (some ⟨ib, 0, none⟩) 1 1) ∧ ∃ top' : Int, 0 ≤ top' ∧ top' < 18446744073709551616 ∧ top' % 4294967296 = ((t + 1 : Nat) : Int) ∧
      w' = (((w.setCell ⟨ib, 0, none⟩ (.pointer (some ⟨p, 0, none⟩))).setCell ⟨wb, 2, none⟩ (.int .u64 top')).alloc (.cells #[.pointer (some ⟨p, 0, none⟩)] 41)).drew := by
  obtain ⟨hP, hln, htl, hR, n1, n2, n3, ⟨top, t0, t1, t2, c2⟩, c3, c4, ⟨hh, h0, h1, c5⟩, fw, fs, cs, ci⟩ := h
  have g1 := hP.lo
  have g2 := hP.hi
  have hl : t < l.length := by
    rcases Nat.lt_or_ge t l.length with h | h
    · exact h
    · rw [List.getElem?_eq_none h] at hlp; cases hlp
  have cx : w.cell? ⟨sb, t, none⟩ = some (.pointer (some ⟨p, 0, none⟩)) := ci t p (Nat.le_refl _) hlp
  have f2 := fw 2
  have hm := hP.mask t (by omega)
  have r0 := hR.cell0
  have r1 := hR.cell1
  have hrb : rb < w.heap.size := World.block_lt_of_cell? _ _ r0
  have hwb : wb < w.heap.size := World.block_lt_of_cell? _ _ c3
  have b1 : (t : Int) < (n : Int) := by omega
  have b2 : (t : Int) < (l.length : Int) := by omega
  have hw0 : IntKind.u32.wrap (t : Int) = t := by rw [IntKind.wrap_u32]; omega
  have hw1 : IntKind.u32.wrap ((t : Int) + 0) = t := by rw [IntKind.wrap_u32]; omega
  have hib : ib < w.heap.size := World.block_lt_of_cell? _ _ hi
  obtain ⟨i41, hi41, hzz⟩ := Option.map_eq_some_iff.1 info41
  have HZ : Hid (i41.size = 1) := by simp only [Prod.mk.injEq] at hzz; exact hzz.2.1
  have HI : Hid (Yba.prog.info? 41 = some i41) := hi41
  have a1 : Hid (∀ j u, [Value.pointer (some ⟨p, 0, none⟩)][j]? = some u → ((w.alloc (.cells #[.pointer (some ⟨p, 0, none⟩)] 41)).drew).cell? ((⟨w.heap.size, 0, none⟩ : Addr).add j) = some u) := by
    intro j u hj
    cases j with
    | zero => simp at hj; subst hj; simp [go_sem, Addr.add]
    | succ j => simp at hj
  have a2 : Hid (∀ u ∈ [Value.pointer (some ⟨p, 0, none⟩)], u.oneCell' = true) := by
    intro u hu
    simp at hu
    subst hu
    rfl
  have a3 : Hid (∀ j, j < [Value.pointer (some ⟨p, 0, none⟩)].length → (((w.alloc (.cells #[.pointer (some ⟨p, 0, none⟩)] 41)).drew).cell? ⟨ib, 0 + 0 * 1 + j, none⟩).isSome = true ∧ ((w.alloc (.cells #[.pointer (some ⟨p, 0, none⟩)] 41)).drew).frozen? ⟨ib, 0 + 0 * 1 + j, none⟩ = false) := by
    intro j hj
    obtain rfl : j = 0 := by simpa using hj
    simp [go_sem, hib, hi, hif]
  have a4 : Hid (((w.alloc (.cells #[.pointer (some ⟨p, 0, none⟩)] 41)).drew).setCells ib (0 + 0 * 1) [.pointer (some ⟨p, 0, none⟩)] = ((w.setCell ⟨ib, 0, none⟩ (.pointer (some ⟨p, 0, none⟩))).alloc (.cells #[.pointer (some ⟨p, 0, none⟩)] 41)).drew) := by
    show (((w.alloc (.cells #[.pointer (some ⟨p, 0, none⟩)] 41)).setCell ⟨ib, 0, none⟩ (.pointer (some ⟨p, 0, none⟩)))).drew = _
    rw [World.setCell_alloc_past _ _ _ _ hib]
  clear cs ci fs fw hlp hzz hi41
  have hcase : ((l.length : Int) - t + 1) / 2 = 1 ∨ 1 < ((l.length : Int) - t + 1) / 2 := by omega
  rcases hcase with hk | hk
  all_goals
    go_enter Yba.func25, Yba.ntmps25
    go_wp2_with fail
    refine wp_loop_rounds 1 ?_
    rw [rounds_succ]
    go_wp2_with fail
    refine (u64_load wb 2 _ _ c2).mono ?_
    rintro e w' ⟨rfl, rfl⟩
    go_wp2_with fail
    refine (u32_load wb 3 _ _ c3).mono ?_
    rintro e w' ⟨rfl, rfl⟩
    go_wp2_with fail
    refine (ring_load wb 4 rb sb n _ c4 hR).mono ?_
    rintro e w' ⟨rfl, rfl⟩
    go_wp2_with fail
    refine wp_loop_rounds 2 ?_
    rw [rounds_succ]
    go_wp2_with fail
    go_region_held3 (fun w' => w'.cell? ⟨rb, 0, none⟩ = some (.slice (some ⟨sb, 0, none⟩) n n) ∧ w'.cell? ⟨rb, 1, none⟩ = some (.int .u32 ((n : Int) - 1)))
      (simp [go_sem, r0, r1, i2, Ne.symm i2, hrb, World.setCells])
      (first
        | (refine step_append_room rfl (.tmp 46) (.tmp 61) 43 rfl 41 i41 1 Yba.underlying43 HI.out HZ.out ib 0 0 1 (by simp [Act.eval, Act.put]) ⟨w.heap.size, 0, none⟩ 1 1 [.pointer (some ⟨p, 0, none⟩)] (by simp [Act.eval, Act.put]) rfl a1.out a2.out (by omega) a3.out ?_)
        | (go_at_call 24; refine (slot_load sb t p _ ?_ ?_).mono ?_; exact cx; exact hp; rintro e w' ⟨rfl, rfl⟩))
    rw [a4.out]
    clear a1 a2 a3 a4
    go_wp2_with fail
    rw [rounds_succ]
    go_wp2_with fail
    refine (u64_cas wb 2 top _ _ (by simp [go_sem, c2, hwb, Ne.symm i1, i1]) (by simp [go_sem, f2, hwb])).mono ?_
    rintro e w' ⟨rfl, rfl⟩
    go_wp2_with fail
    go_ret
    exact ⟨rfl, top + 1, by omega, by omega, by omega, by rw [← World.setCell_alloc_past _ _ _ _ (by simpa [World.setCell] using hwb)]⟩

theorem dq_stolen {wb rb sb n p ib t : Nat} {l : List Nat} {top' : Int} {w : World} (h : Dq wb rb sb n w t l) (hl : t < l.length) (i1 : ib ≠ wb) (i2 : ib ≠ rb) (i3 : ib ≠ sb) (a0 : 0 ≤ top') (a1 : top' < 18446744073709551616) (a2 : top' % 4294967296 = ((t + 1 : Nat) : Int)) (A : Obj) :
    Dq wb rb sb n (((w.setCell ⟨ib, 0, none⟩ (.pointer (some ⟨p, 0, none⟩))).setCell ⟨wb, 2, none⟩ (.int .u64 top')).alloc A).drew (t + 1) l := by
  obtain ⟨hP, hln, htl, hR, n1, n2, n3, ⟨top, t0, t1, t2, c2⟩, c3, c4, ⟨hh, h0, h1, c5⟩, fw, fs, cs, ci⟩ := h
  have hlo := hP.lo
  obtain ⟨x, cx⟩ := cs 0 (by omega)
  have hwb : wb < w.heap.size := World.block_lt_of_cell? _ _ c3
  have hrb : rb < w.heap.size := World.block_lt_of_cell? _ _ hR.cell0
  have hsb : sb < w.heap.size := World.block_lt_of_cell? _ _ cx
  have hsz : ((w.setCell ⟨ib, 0, none⟩ (.pointer (some ⟨p, 0, none⟩))).setCell ⟨wb, 2, none⟩ (.int .u64 top')).heap.size = w.heap.size := by simp [World.setCell]
  have slot : ∀ i, (((w.setCell ⟨ib, 0, none⟩ (.pointer (some ⟨p, 0, none⟩))).setCell ⟨wb, 2, none⟩ (.int .u64 top')).alloc A).drew.cell? ⟨sb, i, none⟩ = w.cell? ⟨sb, i, none⟩ := fun i => by
    show (((w.setCell ⟨ib, 0, none⟩ (.pointer (some ⟨p, 0, none⟩))).setCell ⟨wb, 2, none⟩ (.int .u64 top')).alloc A).cell? _ = _
    rw [World.cell?_alloc_past _ _ _ (by omega), World.cell?_setCell_other _ _ _ _ (by simp [n2]), World.cell?_setCell_other _ _ _ _ (by simp [i3])]
  have own : ∀ o, o ≠ 2 → (((w.setCell ⟨ib, 0, none⟩ (.pointer (some ⟨p, 0, none⟩))).setCell ⟨wb, 2, none⟩ (.int .u64 top')).alloc A).drew.cell? ⟨wb, o, none⟩ = w.cell? ⟨wb, o, none⟩ := fun o ho => by
    show (((w.setCell ⟨ib, 0, none⟩ (.pointer (some ⟨p, 0, none⟩))).setCell ⟨wb, 2, none⟩ (.int .u64 top')).alloc A).cell? _ = _
    rw [World.cell?_alloc_past _ _ _ (by omega), World.cell?_setCell_other _ _ _ _ (by simp [Ne.symm ho]), World.cell?_setCell_other _ _ _ _ (by simp [i1])]
  have froz : ∀ b o, b < w.heap.size → (((w.setCell ⟨ib, 0, none⟩ (.pointer (some ⟨p, 0, none⟩))).setCell ⟨wb, 2, none⟩ (.int .u64 top')).alloc A).drew.frozen? ⟨b, o, none⟩ = w.frozen? ⟨b, o, none⟩ := fun b o hb => by
    show (((w.setCell ⟨ib, 0, none⟩ (.pointer (some ⟨p, 0, none⟩))).setCell ⟨wb, 2, none⟩ (.int .u64 top')).alloc A).frozen? _ = _
    rw [World.frozen?_alloc_past _ _ _ (by omega), World.frozen?_setCell, World.frozen?_setCell]
  refine ⟨hP, hln, hl, ?_, n1, n2, n3, ⟨top', a0, a1, a2, ?_⟩, ?_, ?_, ⟨hh, h0, h1, ?_⟩, fun o => ?_, fun o => ?_, fun i hi => ?_, fun i q hi hq => ?_⟩
  · unfold RingBlk at *
    show (((w.setCell ⟨ib, 0, none⟩ (.pointer (some ⟨p, 0, none⟩))).setCell ⟨wb, 2, none⟩ (.int .u64 top')).alloc A).heap[rb]? = _
    rw [Below.heap_alloc _ _ _ (by omega), Below.heap_setCell _ _ _ _ (Ne.symm n1), Below.heap_setCell _ _ _ _ (Ne.symm i2)]
    exact hR
  · show (((w.setCell ⟨ib, 0, none⟩ (.pointer (some ⟨p, 0, none⟩))).setCell ⟨wb, 2, none⟩ (.int .u64 top')).alloc A).cell? _ = _
    rw [World.cell?_alloc_past _ _ _ (by omega)]
    have : (w.setCell ⟨ib, 0, none⟩ (.pointer (some ⟨p, 0, none⟩))).cell? ⟨wb, 2, none⟩ = some (.int .u64 top) := by rw [World.cell?_setCell_other _ _ _ _ (by simp [i1])]; exact c2
    exact World.cell?_setCell_same _ _ _ this
  · rw [own 3 (by decide)]; exact c3
  · rw [own 4 (by decide)]; exact c4
  · rw [own 5 (by decide)]; exact c5
  · rw [froz _ _ hwb]; exact fw o
  · rw [froz _ _ hsb]; exact fs o
  · rw [slot]; exact cs i hi
  · rw [slot]; exact ci i q (by omega) hq

set_option maxHeartbeats 1000000 in
/-- Deque.StealOldest: the oldest item. -/
theorem stealOldest_some {WR : World} {S : Nat → Prop} {wb p t : Nat} {l : List Nat} {w : World} (h : Q WR S wb w t l) (hlp : l[t]? = some p) :
    Calls Yba.prog 11 #[.pointer (some ⟨wb, 2, none⟩)] w fun e w' => e = .returned (.pointer (some ⟨p, 0, none⟩)) ∧ Q WR S wb w' (t + 1) l := by
  obtain ⟨hK, hnS, hI, hst⟩ := h
  have hl : t < l.length := by
    rcases Nat.lt_or_ge t l.length with h | h
    · exact h
    · rw [List.getElem?_eq_none h] at hlp; cases hlp
  rcases hst with ⟨_, hn, _⟩ | ⟨rb, sb, n, hD, hr, hs⟩
  · subst hn; simp at hl
  obtain ⟨hS, hp⟩ := hI p (List.mem_of_getElem? hlp)
  have hpw := hK.proc hS hp
  obtain ⟨v0, hv0⟩ := hpw.cell
  have hpl : p < w.heap.size := World.block_lt_of_cell? _ _ hv0
  have HE : Hid (l[t]? = some p) := hlp
  have hnib : ¬ S w.heap.size := fun hs => by
    have := (hK.2.2.2.2 _ hs).1
    have := hK.2.2.2.1
    omega
  obtain ⟨hD1, hwb, hrb, hsb⟩ := hD.below ((Below.refl w.heap.size w).alloc (Nat.le_refl _) (.cells #[.pointer none] 143))
  have hp1 : Proc (w.alloc (.cells #[.pointer none] 143)) p := hpw.of_block (Below.heap_alloc _ _ _ hpl)
  have hI' := hI
  clear hlp hI
  go_enter Yba.func11, Yba.ntmps11
  go_wp2_with fail
  refine (steal_one wb rb sb n p w.heap.size t l _ hD1 HE.out hp1 (by simp [go_sem]) (by simp [go_sem]) (by omega) (by omega) (by omega) (by omega)).mono ?_
  rintro e w2 ⟨rfl, top', a0, a1, a2, hw⟩
  have hD2 := dq_stolen (p := p) (ib := w.heap.size) hD1 hl (by omega) (by omega) (by omega) a0 a1 a2 (.cells #[.pointer (some ⟨p, 0, none⟩)] 41)
  have hK2 := ((((hK.alloc (.cells #[.pointer none] 143)).set w.heap.size 0 (.pointer (some ⟨p, 0, none⟩)) hnib).set wb 2 (.int .u64 top') hnS).alloc (.cells #[.pointer (some ⟨p, 0, none⟩)] 41)).drew
  have hc : w2.cell? ⟨w.heap.size, 0, none⟩ = some (.pointer (some ⟨p, 0, none⟩)) := by rw [hw]; simp [go_sem, hwb]
  rw [← hw] at hD2 hK2
  clear hw hD hD1 hK hp1
  go_wp2_with fail
  go_ret
  exact ⟨rfl, hK2, hnS, hI', Or.inr ⟨rb, sb, n, hD2, hr, hs⟩⟩

set_option maxHeartbeats 1000000 in
/-- Deque.steal of an empty deque. -/
theorem steal_none {WR : World} {S : Nat → Prop} {wb ib : Nat} {l : List Nat} {w : World} (h : Q WR S wb w l.length l) :
    Calls Yba.prog 25 #[.pointer (some ⟨wb, 2, none⟩), .slice (some ⟨ib, 0, none⟩) 0 1, .int .i32 1] w fun e w' => e = .returned (.slice (some ⟨ib, 0, none⟩) 0 1) ∧ w = w' := by
  obtain ⟨hK, hwb, hI, hst⟩ := h
  obtain ⟨top, t0, t1, t2, c2, c3, hl⟩ : ∃ top : Int, 0 ≤ top ∧ top < 18446744073709551616 ∧ top % 4294967296 = l.length ∧ w.cell? ⟨wb, 2, none⟩ = some (.int .u64 top) ∧ w.cell? ⟨wb, 3, none⟩ = some (.int .u32 l.length) ∧ l.length ≤ 2048 := by
    rcases hst with ⟨_, rfl, c2, c3, _⟩ | ⟨rb, sb, n, ⟨hP, hln, htl, hR, n1, n2, n3, ⟨top, t0, t1, t2, c2⟩, c3, _⟩, hr, hs⟩
    · exact ⟨0, by omega, by omega, by simp, c2, c3, by simp⟩
    · have := hP.hi
      exact ⟨top, t0, t1, t2, c2, c3, by omega⟩
  clear hst hK hI
  go_enter Yba.func25, Yba.ntmps25
  go_wp2_with fail
  refine wp_loop_rounds 1 ?_
  rw [rounds_succ]
  go_wp2_with fail
  refine (u64_load wb 2 _ _ c2).mono ?_
  rintro e w' ⟨rfl, rfl⟩
  go_wp2_with fail
  refine (u32_load wb 3 _ _ c3).mono ?_
  rintro e w' ⟨rfl, rfl⟩
  go_wp2_with fail
  go_ret
  exact ⟨rfl, rfl⟩

theorem Q.below {WR : World} {S : Nat → Prop} {wb t : Nat} {l : List Nat} {w w' : World} (h : Q WR S wb w t l) (hb : Below w.heap.size w w') : Q WR S wb w' t l := by
  have hwb := h.wbLt
  obtain ⟨hK, hnS, hI, hst⟩ := h
  refine ⟨?_, hnS, hI, ?_⟩
  · obtain ⟨h1, h2, h3, h4, h5⟩ := hK
    refine ⟨hb.os.trans h1, hb.tape.trans h2, hb.output.trans h3, Nat.le_trans h4 hb.size, fun j hj => ?_⟩
    obtain ⟨a1, a2, a3⟩ := h5 j hj
    exact ⟨a1, a2, (hb.block j (by omega)).trans a3⟩
  · rcases hst with ⟨h1, h2, c2, c3, c4, c5, fw⟩ | ⟨rb, sb, n, hD, hr, hs⟩
    · exact Or.inl ⟨h1, h2, by rw [hb.cell hwb]; exact c2, by rw [hb.cell hwb]; exact c3, by rw [hb.cell hwb]; exact c4, by rw [hb.cell hwb]; exact c5, fun o => by rw [hb.frozen hwb]; exact fw o⟩
    · exact Or.inr ⟨rb, sb, n, (hD.below hb).1, hr, hs⟩

set_option maxHeartbeats 1000000 in
/-- Deque.StealOldest of an empty deque: nil. -/
theorem stealOldest_none {WR : World} {S : Nat → Prop} {wb : Nat} {l : List Nat} {w : World} (h : Q WR S wb w l.length l) :
    Calls Yba.prog 11 #[.pointer (some ⟨wb, 2, none⟩)] w fun e w' => e = .returned (.pointer none) ∧ Q WR S wb w' l.length l := by
  have h1 : Q WR S wb (w.alloc (.cells #[.pointer none] 143)) l.length l := h.below ((Below.refl _ _).alloc (Nat.le_refl _) _)
  go_enter Yba.func11, Yba.ntmps11
  go_wp2_with fail
  refine (steal_none h1).mono ?_
  rintro e w2 ⟨rfl, hw⟩
  rw [hw] at h1
  clear hw
  go_wp2_with fail
  go_ret
  exact ⟨rfl, h1⟩
end Go.Proofs.Ybulknqg
