/-
  The walk of LawS0708AOldest.
-/
import Derived.Test.YbulknqgSteal
namespace Go.Proofs.Ybulknqg
open Go.RowKit
set_option linter.unusedVariables false
set_option linter.unusedSimpArgs false

theorem rev_first (ps : List Nat) (n p : Nat) (hl : ps.length = n + 1) (h : ps[n]? = some p) : ps.reverse[0]? = some p := by
  rw [List.getElem?_reverse (by omega)]
  rw [show ps.length - 1 - 0 = n by omega]
  exact h
theorem rev_last (ps : List Nat) (p : Nat) (h : ps[0]? = some p) : ps.reverse = (ps.drop 1).reverse ++ [p] := by
  have e := drop_rev ps 0 p h
  simpa using e.symm

set_option maxHeartbeats 4000000 in
theorem oldest_walk (n : Nat) (w : World) (hn : n ≤ 1024) :
    Calls Yba.prog 4 #[.int .u16 n] w fun e w' => e = .returned (.bool true) ∧ Below w.heap.size w w' := by
  have hne := neq41
  have hee := eql41
  go_enter Yba.func4, Yba.ntmps4
  go_wp2_with fail
  refine (mk_any n _ (by omega)).mono ?_
  rintro e w2 ⟨pb, ps, rfl, hpl, hM⟩
  obtain ⟨S, hQ, hO, hSB, hB⟩ := stepA (dq0_new w _ rfl rfl rfl rfl) hM
  have HL : Hid (ps.length = n) := hpl
  clear hpl hM
  go_wp2_with fail
  have hpush := pushInOrder_any hQ hO (by have := HL.out; simp; omega)
  rw [HL.out] at hpush
  refine hpush.mono ?_
  clear hpush
  rintro e w5 ⟨rfl, hq5⟩
  rw [List.nil_append] at hq5
  go_wp2_with fail
  by_cases h0 : n = 0
  · have hz : ((n : Int) == 0) = true := by simp [h0]
    have hps : ps = [] := List.eq_nil_of_length_eq_zero (by rw [HL.out]; exact h0)
    have hq6 : Q w2 S w.heap.size w5 ([] : List Nat).length [] := by rw [hps] at hq5; simpa using hq5
    clear h0 hps hq5
    refine (stealOldest_none hq6).mono ?_
    rintro e w6 ⟨rfl, hq⟩
    go_wp2_with fail
    go_ret
    exact ⟨rfl, below_keep hB hq.1 hSB⟩
  · have hz : ((n : Int) == 0) = false := by simpa using h0
    obtain ⟨m, hm⟩ : ∃ m, n = m + 1 := ⟨n - 1, by omega⟩
    obtain ⟨p, hp⟩ : ∃ p, ps[m]? = some p := ⟨ps[m]'(by have := HL.out; omega), by simp⟩
    obtain ⟨cp, sp, pp⟩ := hO.2 m p hp
    have hrf := rev_first ps m p (by rw [HL.out]; exact hm) hp
    refine (stealOldest_some hq5 hrf).mono ?_
    rintro e w6 ⟨rfl, hq⟩
    have hpb := hO.1
    have ck : w6.cell? ⟨pb, m, none⟩ = some (.pointer (some ⟨p, 0, none⟩)) := by rw [hq.cell hpb]; exact cp
    have HM : Hid (n = m + 1) := hm
    have hlo : m + 1 ≤ n := by omega
    have hhi : n ≤ m + 1 := by omega
    have hi : ((n : Int) - 1).toNat = m := by omega
    have hb1 : (n : Int) - 1 < (n : Int) := by omega
    have hb0 : 0 ≤ (n : Int) - 1 := by omega
    clear hp hrf hm h0 hq5 hQ
    by_cases h2 : (2 : Int) ≤ (n : Int)
    · obtain ⟨q, hq0⟩ : ∃ q, ps[0]? = some q := ⟨ps[0]'(by have := HL.out; omega), by simp⟩
      obtain ⟨cq, sq, pq⟩ := hO.2 0 q hq0
      have hq' : Q w2 S w.heap.size w6 1 ((ps.drop 1).reverse ++ [q]) := by rw [← rev_last ps q hq0]; exact hq
      have ck0 : w6.cell? ⟨pb, 0, none⟩ = some (.pointer (some ⟨q, 0, none⟩)) := by rw [hq.cell hpb]; exact cq
      have hlen : 1 ≤ (ps.drop 1).reverse.length := by have := HL.out; simp; omega
      have b0 : (0 : Int) < (n : Int) := by omega
      have b00 : 0 < n := by omega
      clear hq0
      go_wp2_with fail
      go_region_held3 (fun w' => w'.cell? ⟨pb, 0, none⟩ = some (.pointer (some ⟨q, 0, none⟩)))
        (first | (simp [go_sem, ck0]; done) | (rw [Q.cell (by assumption) hpb]; exact cq))
        ((go_at_call 10; refine (pop_any hq'.drew hlen).mono ?_; rintro e w' ⟨rfl, hq2⟩))
      go_wp2_with fail
      go_ret
      exact ⟨rfl, below_keep hB hq2.1 hSB⟩
    · have hq1 : Q w2 S w.heap.size w6 ps.reverse.length ps.reverse := by
        have e : ps.reverse.length = 0 + 1 := by have := HL.out; simp; omega
        rw [e]
        exact hq
      go_wp2_with fail
      refine (pop_none hq1).mono ?_
      rintro e w' ⟨rfl, rfl⟩
      go_wp2_with fail
      go_ret
      exact ⟨rfl, below_keep hB hq1.1 hSB⟩
end Go.Proofs.Ybulknqg
