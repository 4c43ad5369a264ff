/-
  worker.pushInOrder, and the walk of LawS0708AOrder.
-/
import Derived.Test.YbulknqgPop
namespace Go.Proofs.Ybulknqg
open Go.RowKit
set_option linter.unusedVariables false
set_option linter.unusedSimpArgs false

theorem Q.cell {WR : World} {S : Nat → Prop} {wb t b o : Nat} {l : List Nat} {w : World} (h : Q WR S wb w t l) (hs : S b) : w.cell? ⟨b, o, none⟩ = WR.cell? ⟨b, o, none⟩ := h.1.cell hs
theorem Q.drew {WR : World} {S : Nat → Prop} {wb t : Nat} {l : List Nat} {w : World} (h : Q WR S wb w t l) : Q WR S wb w.drew t l := h

/-- A slice of procs that the deque's calls leave alone. -/
def Procs (WR : World) (S : Nat → Prop) (pb : Nat) (ps : List Nat) : Prop := S pb ∧ ∀ j p, ps[j]? = some p → WR.cell? ⟨pb, j, none⟩ = some (.pointer (some ⟨p, 0, none⟩)) ∧ S p ∧ Proc WR p

theorem drop_rev (ps : List Nat) (k p : Nat) (h : ps[k]? = some p) : (ps.drop (k + 1)).reverse ++ [p] = (ps.drop k).reverse := by
  have hk : k < ps.length := by
    rcases Nat.lt_or_ge k ps.length with h' | h'
    · exact h'
    · rw [List.getElem?_eq_none h'] at h; cases h
  rw [List.drop_eq_getElem_cons hk, List.reverse_cons]
  rw [List.getElem?_eq_getElem hk] at h
  cases h
  rfl

set_option maxHeartbeats 1000000 in
theorem pushInOrder_any {WR : World} {S : Nat → Prop} {wb pb : Nat} {l ps : List Nat} {w : World} (h : Q WR S wb w 0 l) (hp : Procs WR S pb ps) (hl : l.length + ps.length ≤ 2048) :
    Calls Yba.prog 9 #[.pointer (some ⟨wb, 0, none⟩), .slice (some ⟨pb, 0, none⟩) ps.length ps.length] w fun e w' => e = .returned (.tuple #[]) ∧ Q WR S wb w' 0 (l ++ ps.reverse) := by
  obtain ⟨hS, hps⟩ := hp
  have HP : Hid (∀ j p, ps[j]? = some p → WR.cell? ⟨pb, j, none⟩ = some (.pointer (some ⟨p, 0, none⟩)) ∧ S p ∧ Proc WR p) := hps
  have hq0 : Q WR S wb w 0 (l ++ (ps.drop ps.length).reverse) := by simpa using h
  clear hps
  go_enter Yba.func9, Yba.ntmps9
  go_wp2
  go_loopw [4] (fun s4 wr => ∃ k : Nat, s4 = .int .i64 ((k : Int) - 1) ∧ k ≤ ps.length ∧ Q WR S wb wr 0 (l ++ (ps.drop k).reverse)) (fun s4 _ => (intOf s4 + 1).toNat)
  case atStart => exact ⟨ps.length, rfl, Nat.le_refl _, hq0⟩
  case round =>
    obtain ⟨k, rfl, hk, hq⟩ := hrel
    cases k with
    | zero =>
      go_wp2
      go_end0
      exact ⟨rfl, by simpa using hq⟩
    | succ k =>
      obtain ⟨p, hp⟩ : ∃ p, ps[k]? = some p := ⟨ps[k], by simp⟩
      obtain ⟨cp, sp, pp⟩ := HP.out k p hp
      have HE : Hid (ps[k]? = some p) := hp
      have ck : wr.cell? ⟨pb, k, none⟩ = some (.pointer (some ⟨p, 0, none⟩)) := by rw [hq.cell hS]; exact cp
      have b1 : (k : Int) < (ps.length : Int) := by omega
      have hlen : (l ++ (ps.drop (k + 1)).reverse).length < 2048 := by simp; omega
      clear hp
      go_wp2_with fail
      go_region_held3 (fun w' => w'.cell? ⟨pb, k, none⟩ = some (.pointer (some ⟨p, 0, none⟩)))
        (first | (simp [go_sem, ck]; done) | (rw [Q.cell (by assumption) hS]; exact cp))
        ((go_at_call 8; refine (push_any (p := p) ?_ sp pp hlen).mono ?_; exact hq.drew; rintro e w' ⟨rfl, hq2⟩))
      go_wp2_with fail
      exact ⟨⟨k, rfl, by omega, by have e := drop_rev ps k p HE.out; rw [← e, ← List.append_assoc]; exact hq2⟩, by simp [intOf]⟩

/-! ### The law's own steps, on worlds. -/
theorem Q.fresh (w w2 : World) (wb : Nat) (hb : Below (wb + 1) w w2) (h0 : Dq0 wb w) : Q w2 (fun j => j < w2.heap.size ∧ j ≠ wb) wb w2 0 [] := by
  obtain ⟨c2, c3, c4, c5, fw⟩ := h0
  refine ⟨⟨rfl, rfl, rfl, Nat.le_refl _, fun j hj => ⟨hj.1, hj.2, rfl⟩⟩, fun h => h.2 rfl, fun p hp => by simp at hp, Or.inl ⟨rfl, rfl, ?_⟩⟩
  exact ⟨by rw [hb.cell (by show wb < wb + 1; omega)]; exact c2, by rw [hb.cell (by show wb < wb + 1; omega)]; exact c3, by rw [hb.cell (by show wb < wb + 1; omega)]; exact c4, by rw [hb.cell (by show wb < wb + 1; omega)]; exact c5, fun o => by rw [hb.frozen (by show wb < wb + 1; omega)]; exact fw o⟩

theorem Dq.below {wb rb sb n t : Nat} {l : List Nat} {w w' : World} (h : Dq wb rb sb n w t l) (hb : Below w.heap.size w w') : Dq wb rb sb n w' t l ∧ wb < w.heap.size ∧ rb < w.heap.size ∧ sb < w.heap.size := by
  obtain ⟨hP, hln, htl, hR, n1, n2, n3, ⟨top, t0, t1, t2, c2⟩, c3, c4, ⟨hh, h0, h1, c5⟩, fw, fs, cs, ci⟩ := h
  have hlo := hP.lo
  obtain ⟨x, cx⟩ := cs 0 (by omega)
  have hwb : wb < w.heap.size := World.block_lt_of_cell? _ _ c3
  have hrb : rb < w.heap.size := World.block_lt_of_cell? _ _ hR.cell0
  have hsb : sb < w.heap.size := World.block_lt_of_cell? _ _ cx
  refine ⟨⟨hP, hln, htl, ?_, n1, n2, n3, ⟨top, t0, t1, t2, ?_⟩, ?_, ?_, ⟨hh, h0, h1, ?_⟩, fun o => ?_, fun o => ?_, fun i hi => ?_, fun i p hi hp => ?_⟩, hwb, hrb, hsb⟩
  · unfold RingBlk at *; rw [hb.block rb hrb]; exact hR
  · rw [hb.cell hwb]; exact c2
  · rw [hb.cell hwb]; exact c3
  · rw [hb.cell hwb]; exact c4
  · rw [hb.cell hwb]; exact c5
  · rw [hb.frozen hwb]; exact fw o
  · rw [hb.frozen hsb]; exact fs o
  · rw [hb.cell hsb]; exact cs i hi
  · rw [hb.cell hsb]; exact ci i p hi hp

/-- New blocks behind the deque's: the state, held against the new world. -/
theorem Q.rebase {WR : World} {S : Nat → Prop} {wb t : Nat} {l : List Nat} {w w' : World} (h : Q WR S wb w t l) (hwb : wb < w.heap.size) (hb : Below w.heap.size w w') :
    Q w' (fun j => (S j ∨ w.heap.size ≤ j) ∧ j < w'.heap.size) wb w' t l := by
  obtain ⟨hK, hnS, hI, hst⟩ := h
  refine ⟨⟨rfl, rfl, rfl, Nat.le_refl _, fun j hj => ⟨hj.2, fun e => ?_, rfl⟩⟩, fun hj => ?_, fun p hp => ?_, ?_⟩
  · subst e
    rcases hj.1 with h | h
    · exact hnS h
    · omega
  · rcases hj.1 with h | h
    · exact hnS h
    · omega
  · obtain ⟨hS, hp⟩ := hI p hp
    obtain ⟨a1, a2, a3⟩ := hK.2.2.2.2 p hS
    have hlt : p < w.heap.size := by have := hK.2.2.2.1; omega
    exact ⟨⟨Or.inl hS, by have := hb.size; omega⟩, (hK.proc hS hp).of_block (hb.block p hlt)⟩
  · rcases hst with ⟨h1, h2, c2, c3, c4, c5, fw⟩ | ⟨rb, sb, n, hD, hr, hs⟩
    · refine Or.inl ⟨h1, h2, ?_⟩
      exact ⟨by rw [hb.cell hwb]; exact c2, by rw [hb.cell hwb]; exact c3, by rw [hb.cell hwb]; exact c4, by rw [hb.cell hwb]; exact c5, fun o => by rw [hb.frozen hwb]; exact fw o⟩
    · obtain ⟨hD', _, hrb, hsb⟩ := hD.below hb
      refine Or.inr ⟨rb, sb, n, hD', fun hj => ?_, fun hj => ?_⟩
      · rcases hj.1 with h | h
        · exact hr h
        · omega
      · rcases hj.1 with h | h
        · exact hs h
        · omega

theorem Procs.rebase {WR : World} {S : Nat → Prop} {wb t pb : Nat} {l ps : List Nat} {w w' : World} (h : Q WR S wb w t l) (hb : Below w.heap.size w w') (hp : Procs WR S pb ps) :
    Procs w' (fun j => (S j ∨ w.heap.size ≤ j) ∧ j < w'.heap.size) pb ps := by
  have hlt : ∀ j, S j → j < w.heap.size := fun j hj => by have := (h.1.2.2.2.2 j hj).1; have := h.1.2.2.2.1; omega
  refine ⟨⟨Or.inl hp.1, by have := hlt _ hp.1; have := hb.size; omega⟩, fun j p hj => ?_⟩
  obtain ⟨a1, a2, a3⟩ := hp.2 j p hj
  refine ⟨?_, ⟨Or.inl a2, by have := hlt _ a2; have := hb.size; omega⟩, (h.1.proc a2 a3).of_block (hb.block p (hlt p a2))⟩
  rw [hb.cell (hlt _ hp.1), h.cell hp.1]
  exact a1

theorem Made.procs {w wr : World} {sb n : Nat} {ps : List Nat} (h : Made w wr sb n ps) (S : Nat → Prop) (hS : ∀ j, w.heap.size ≤ j → j < wr.heap.size → S j) : Procs wr S sb ps := by
  obtain ⟨hb, h1, h2, hc, hf, hp⟩ := h
  refine ⟨hS sb h1 h2, fun j p hj => ?_⟩
  obtain ⟨a1, a2, a3, a4⟩ := hp j p hj
  exact ⟨a1, hS p (by omega) a3, a4⟩

theorem below_keep {B wb : Nat} {w WR w' : World} {S : Nat → Prop} (h : Below B w WR) (hk : Keep WR S wb w') (hS : ∀ j, j < B → S j) : Below B w w' := by
  obtain ⟨h1, h2, h3, h4, h5⟩ := hk
  exact ⟨h1.trans h.os, h2.trans h.tape, h3.trans h.output, Nat.le_trans h.size h4, fun j hj => (h5 j (hS j hj)).2.2.trans (h.block j hj)⟩
end Go.Proofs.Ybulknqg
