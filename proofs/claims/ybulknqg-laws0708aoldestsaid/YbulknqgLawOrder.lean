/-
  The walk of LawS0708AOrder.
-/
import Derived.Test.YbulknqgOrder
namespace Go.Proofs.Ybulknqg
open Go.RowKit
set_option linter.unusedVariables false
set_option linter.unusedSimpArgs false

theorem neq41 (a : Addr) (w : World) : (binOp .neq 41 (.pointer (some a)) (.pointer (some a))).run Yba.prog w = .ok (.bool false) w := by
  obtain ⟨i, hi, _⟩ := Option.map_eq_some_iff.1 (show (Yba.prog.info? 90).map (·.size) = some 18 by kernel_rfl)
  exact Lib.run_neq_ptr_same w a Yba.underlying41 hi
theorem eql41 (a : Addr) (w : World) : (binOp .eql 41 (.pointer (some a)) (.pointer (some a))).run Yba.prog w = .ok (.bool true) w := by
  obtain ⟨i, hi, _⟩ := Option.map_eq_some_iff.1 (show (Yba.prog.info? 90).map (·.size) = some 18 by kernel_rfl)
  exact run_eql_ptr_same w a Yba.underlying41 hi

theorem dq0_new (w : World) (A : Array Value) (h2 : A[2]? = some (.int .u64 0)) (h3 : A[3]? = some (.int .u32 0)) (h4 : A[4]? = some (.pointer none)) (h5 : A[5]? = some (.int .u32 0)) : Dq0 w.heap.size (w.alloc (.cells A 60)) := by
  refine ⟨?_, ?_, ?_, ?_, fun o => ?_⟩
  · rw [World.cell?_alloc_at _ _ _ _ rfl]; exact h2
  · rw [World.cell?_alloc_at _ _ _ _ rfl]; exact h3
  · rw [World.cell?_alloc_at _ _ _ _ rfl]; exact h4
  · rw [World.cell?_alloc_at _ _ _ _ rfl]; exact h5
  · exact World.frozen?_alloc_at _ _ _ _ rfl

theorem stepA {w w2 : World} {A : Array Value} {ob pre : Nat} {old : List Nat} (h0 : Dq0 w.heap.size (w.alloc (.cells A 60))) (hM : Made (w.alloc (.cells A 60)) w2 ob pre old) :
    ∃ S : Nat → Prop, Q w2 S w.heap.size w2 0 [] ∧ Procs w2 S ob old ∧ (∀ j, j < w.heap.size → S j) ∧ Below w.heap.size w w2 := by
  have hsz : (w.alloc (.cells A 60)).heap.size = w.heap.size + 1 := by simp
  have hb := hM.1
  rw [hsz] at hb
  have hs2 := hb.size
  rw [hsz] at hs2
  refine ⟨fun j => j < w2.heap.size ∧ j ≠ w.heap.size, Q.fresh _ _ _ hb h0, hM.procs _ (fun j h1 h2 => ⟨h2, by rw [hsz] at h1; omega⟩), fun j hj => ⟨by omega, by omega⟩, ?_⟩
  exact ((Below.refl _ _).alloc (Nat.le_refl _) _).trans (hb.mono (by omega))

theorem stepB {WR w3 w4 : World} {S : Nat → Prop} {wb ob pb n B : Nat} {l old ps : List Nat} {w : World} (h : Q WR S wb w3 0 l) (hwb : wb < w3.heap.size) (ho : Procs WR S ob old) (hM : Made w3 w4 pb n ps) (hS : ∀ j, j < B → S j) (hB : Below B w WR) (hBw : B ≤ w3.heap.size) :
    ∃ S' : Nat → Prop, Q w4 S' wb w4 0 l ∧ Procs w4 S' ob old ∧ Procs w4 S' pb ps ∧ (∀ j, j < B → S' j) ∧ Below B w w4 := by
  have hb := hM.1
  have hs := hb.size
  refine ⟨fun j => (S j ∨ w3.heap.size ≤ j) ∧ j < w4.heap.size, h.rebase hwb hb, ho.rebase h hb, hM.procs _ (fun j h1 h2 => ⟨Or.inr h1, h2⟩), fun j hj => ⟨Or.inl (hS j hj), by omega⟩, ?_⟩
  exact (below_keep hB h.1 hS).trans (hb.mono hBw)

theorem take_snoc (l : List Nat) (i p : Nat) (h : l[i]? = some p) : l.take i ++ [p] = l.take (i + 1) := by
  have hi : i < l.length := by
    rcases Nat.lt_or_ge i l.length with h' | h'
    · exact h'
    · rw [List.getElem?_eq_none h'] at h; cases h
  rw [List.take_succ_eq_append_getElem hi]
  rw [List.getElem?_eq_getElem hi] at h
  cases h
  rfl
theorem Q.wbLt {WR : World} {S : Nat → Prop} {wb t : Nat} {l : List Nat} {w : World} (h : Q WR S wb w t l) : wb < w.heap.size := by
  rcases h.2.2.2 with ⟨_, _, c2, _⟩ | ⟨rb, sb, n, ⟨_, _, _, _, _, _, _, _, c3, _⟩, _⟩
  · exact World.block_lt_of_cell? _ _ c2
  · exact World.block_lt_of_cell? _ _ c3

set_option maxHeartbeats 4000000 in
theorem order_walk (n pre : Nat) (w : World) (hn : n ≤ 1024) (hpre : pre ≤ 255) :
    Calls Yba.prog 3 #[.int .u16 n, .int .u8 pre] w fun e w' => e = .returned (.bool true) ∧ Below w.heap.size w w' := by
  have hne := neq41
  go_enter Yba.func3, Yba.ntmps3
  go_wp2_with fail
  refine (mk_any pre _ (by omega)).mono ?_
  rintro e w2 ⟨ob, old, rfl, hol, hM⟩
  obtain ⟨S, hQ, hO, hSB, hB⟩ := stepA (dq0_new w _ rfl rfl rfl rfl) hM
  have HL : Hid (old.length = pre) := hol
  clear hol hM
  go_wp2_with fail
  go_loopw [20] (fun s20 wr => ∃ i : Nat, s20 = .int .i64 i ∧ i ≤ pre ∧ Q w2 S w.heap.size wr 0 (old.take i)) (fun s20 _ => pre - (intOf s20).toNat)
  case atStart => exact ⟨0, rfl, by omega, by simpa using hQ⟩
  case round =>
    obtain ⟨i, rfl, hi, hq⟩ := hrel
    by_cases hlt : i < pre
    · obtain ⟨p, hp⟩ : ∃ p, old[i]? = some p := ⟨old[i]'(by have := HL.out; omega), by simp⟩
      obtain ⟨cp, sp, pp⟩ := hO.2 i p hp
      have HE : Hid (old[i]? = some p) := hp
      have hob := hO.1
      have ck : wr.cell? ⟨ob, i, none⟩ = some (.pointer (some ⟨p, 0, none⟩)) := by rw [hq.cell hob]; exact cp
      have b1 : (i : Int) < (pre : Int) := by omega
      have hlen : (old.take i).length < 2048 := by have := List.length_take_le i old; omega
      clear hp
      go_wp2_with fail
      go_region_held3 (fun w' => w'.cell? ⟨ob, i, none⟩ = some (.pointer (some ⟨p, 0, none⟩)))
        (first | (simp [go_sem, ck]; done) | (rw [Q.cell (by assumption) hob]; exact cp))
        ((go_at_call 8; refine (push_any (p := p) ?_ sp pp hlen).mono ?_; exact hq.drew; rintro e w' ⟨rfl, hq2⟩))
      go_wp2_with fail
      exact ⟨⟨i + 1, by go_num, by omega, by rw [← take_snoc old i p HE.out]; exact hq2⟩, by simp [intOf]; omega⟩
    · have hq1 : Q w2 S w.heap.size wr 0 old := by
        have e : old.take i = old := List.take_of_length_le (by have := HL.out; omega)
        rw [e] at hq
        exact hq
      clear hq
      go_wp2_with fail
      refine (mk_any n _ (by omega)).mono ?_
      rintro e w4 ⟨pb, ps, rfl, hpl, hM⟩
      obtain ⟨S', hQ4, hO4, hP4, hSB4, hB4⟩ := stepB hq1 hq1.wbLt hO hM hSB hB (Nat.le_of_lt hq1.wbLt)
      have HLp : Hid (ps.length = n) := hpl
      clear hM hQ hO hSB hB hq1
      go_wp2_with fail
      have hpush := pushInOrder_any hQ4 hP4 (by have := HL.out; have := HLp.out; omega)
      rw [HLp.out] at hpush
      refine hpush.mono ?_
      clear hpush
      rintro e w5 ⟨rfl, hq5⟩
      go_wp2_with fail
      go_loopw [40] (fun s40 wr => ∃ i : Nat, s40 = .int .i64 i ∧ i ≤ n ∧ Q w4 S' w.heap.size wr 0 (old ++ (ps.drop i).reverse)) (fun s40 _ => n - (intOf s40).toNat)
      case atStart => exact ⟨0, rfl, by omega, by simpa using hq5⟩
      case round =>
        clear hq5
        obtain ⟨i, rfl, hi, hq⟩ := hrel
        by_cases hlt : i < n
        · obtain ⟨p, hp⟩ : ∃ p, ps[i]? = some p := ⟨ps[i]'(by have := HLp.out; omega), by simp⟩
          obtain ⟨cp, sp, pp⟩ := hP4.2 i p hp
          have hq' : Q w4 S' w.heap.size wr 0 ((old ++ (ps.drop (i + 1)).reverse) ++ [p]) := by rw [List.append_assoc, drop_rev ps i p hp]; exact hq
          have hob := hP4.1
          have ck : wr.cell? ⟨pb, i, none⟩ = some (.pointer (some ⟨p, 0, none⟩)) := by rw [hq.cell hob]; exact cp
          have b1 : (i : Int) < (n : Int) := by omega
          clear hp hq
          go_wp2_with fail
          go_region_held3 (fun w' => w'.cell? ⟨pb, i, none⟩ = some (.pointer (some ⟨p, 0, none⟩)))
            (first | (simp [go_sem, ck]; done) | (rw [Q.cell (by assumption) hob]; exact cp))
            ((go_at_call 10; refine (pop_any hq'.drew (Nat.zero_le _)).mono ?_; rintro e w' ⟨rfl, hq2⟩))
          go_wp2_with fail
          exact ⟨⟨i + 1, by go_num, by omega, hq2⟩, by simp [intOf]; omega⟩
        · have hq1 : Q w4 S' w.heap.size wr 0 (old.take pre) := by
            have e : ps.drop i = [] := List.drop_eq_nil_of_le (by have := HLp.out; omega)
            rw [e] at hq
            rw [List.take_of_length_le (by have := HL.out; omega)]
            simpa using hq
          clear hq
          go_wp2_with fail
          go_loopw [10] (fun s10 wr => ∃ k : Nat, s10 = .int .i64 ((k : Int) - 1) ∧ k ≤ pre ∧ Q w4 S' w.heap.size wr 0 (old.take k)) (fun s10 _ => (intOf s10 + 1).toNat)
          case atStart => exact ⟨pre, rfl, Nat.le_refl _, hq1⟩
          case round =>
            clear hq1
            obtain ⟨k, rfl, hk, hq⟩ := hrel
            cases k with
            | zero =>
              go_wp2_with fail
              refine (pop_none (l := []) hq).mono ?_
              rintro e w' ⟨rfl, rfl⟩
              go_wp2_with fail
              go_ret
              exact ⟨rfl, below_keep hB4 hq.1 hSB4⟩
            | succ k =>
              obtain ⟨p, hp⟩ : ∃ p, old[k]? = some p := ⟨old[k]'(by have := HL.out; omega), by simp⟩
              obtain ⟨cp, sp, pp⟩ := hO4.2 k p hp
              have hq' : Q w4 S' w.heap.size wr 0 (old.take k ++ [p]) := by rw [take_snoc old k p hp]; exact hq
              have hob := hO4.1
              have ck : wr.cell? ⟨ob, k, none⟩ = some (.pointer (some ⟨p, 0, none⟩)) := by rw [hq.cell hob]; exact cp
              have b1 : (k : Int) < (pre : Int) := by omega
              clear hp hq
              go_wp2_with fail
              go_region_held3 (fun w' => w'.cell? ⟨ob, k, none⟩ = some (.pointer (some ⟨p, 0, none⟩)))
                (first | (simp [go_sem, ck]; done) | (rw [Q.cell (by assumption) hob]; exact cp))
                ((go_at_call 10; refine (pop_any hq'.drew (Nat.zero_le _)).mono ?_; rintro e w' ⟨rfl, hq2⟩))
              go_wp2_with fail
              exact ⟨⟨k, rfl, by omega, hq2⟩, by simp [intOf]⟩
end Go.Proofs.Ybulknqg
