import Derived.Test.YbulknoqRows
import Derived.WalkKit
import Derived.WalkSpells
import Derived.WalkLawsBesides
import Derived.RowKit3
namespace Go.Proofs.Ybulknoq
open Go.RowKit
set_option linter.unusedVariables false

/-! ### The bit facts: the wall word of a time without a monotonic reading is its nanoseconds. -/
theorem and_mask (x : Int) (h0 : 0 ≤ x) (h1 : x < 1000000000) : bits .and .u64 x 1073741823 = x := by
  rw [u64_and x 1073741823 h0 (by omega) (by omega) (by omega)]
  have : x.toNat &&& (1073741823 : Int).toNat = x.toNat % 2 ^ 30 := Nat.and_two_pow_sub_one_eq_mod x.toNat 30
  rw [this]; omega
theorem and_top (x : Int) (h0 : 0 ≤ x) (h1 : x < 1000000000) : bits .and .u64 x 9223372036854775808 = 0 := by
  rw [u64_and x 9223372036854775808 h0 (by omega) (by omega) (by omega)]
  have : x.toNat &&& (9223372036854775808 : Int).toNat = x.toNat / 2 ^ 63 % 2 * 2 ^ 63 := nat_bit 63 x.toNat
  rw [this]; omega
theorem and_lt (x y : Int) (h0 : 0 ≤ x) (h1 : x < 1000000000) (h2 : 0 ≤ y) (h3 : y < 1000000000) : 0 ≤ bits .and .u64 x y ∧ bits .and .u64 x y < 1000000000 := by
  rw [u64_and x y h0 (by omega) h2 (by omega)]
  have := Nat.and_le_left (n := x.toNat) (m := y.toNat)
  omega
theorem andNot_zero : bits .andNot .u64 0 1073741823 = 0 := by
  rw [u64_andNot 0 1073741823 (by omega) (by omega) (by omega) (by omega)]; rfl
theorem or_zero (x : Int) (h0 : 0 ≤ x) (h1 : x < 1000000000) : bits .or .u64 0 x = x := by
  rw [u64_or 0 x (by omega) (by omega) h0 (by omega)]
  have : (0 : Int).toNat ||| x.toNat = x.toNat := Nat.zero_or _
  rw [this]; omega
theorem top_no (x : Int) (h0 : 0 ≤ x) (h1 : x < 1000000000) : (bits .and .u64 x 9223372036854775808 != 0) = false := by rw [and_top x h0 h1]; rfl

set_option maxHeartbeats 400000 in
theorem nsec_any (b off : Nat) (x : Int) (w : World) (hc : w.cell? ⟨b, off, none⟩ = some (.int .u64 x)) (h0 : 0 ≤ x) (h1 : x < 1000000000) :
    Calls Yba.prog 13 #[.pointer (some ⟨b, off, none⟩)] w fun e w' => e = .returned (.int .i32 x) ∧ w' = w := by
  have hm := and_mask x h0 h1
  go_enter Yba.func13, Yba.ntmps13
  go_wp2
  go_ret
  exact ⟨rfl, rfl⟩

set_option maxHeartbeats 400000 in
theorem sec_any (b off : Nat) (x y : Int) (w : World) (hc : w.cell? ⟨b, off, none⟩ = some (.int .u64 x)) (hd : w.cell? ⟨b, off + 1, none⟩ = some (.int .i64 y)) (h0 : 0 ≤ x) (h1 : x < 1000000000) :
    Calls Yba.prog 12 #[.pointer (some ⟨b, off, none⟩)] w fun e w' => e = .returned (.int .i64 y) ∧ w' = w := by
  have hm := top_no x h0 h1
  go_enter Yba.func12, Yba.ntmps12
  go_wp2
  go_ret
  exact ⟨rfl, rfl⟩


set_option maxHeartbeats 400000 in
theorem after_any (x1 y1 x2 y2 : Int) (v1 v2 : Value) (w : World) (h0 : 0 ≤ x1) (h1 : x1 < 1000000000) (h2 : 0 ≤ x2) (h3 : x2 < 1000000000) :
    Calls Yba.prog 10 #[.agg #[.int .u64 x1, .int .i64 y1, v1], .agg #[.int .u64 x2, .int .i64 y2, v2]] w fun e w' => e = .returned (.bool (decide (y2 < y1 ∨ y1 = y2 ∧ x2 < x1))) ∧ ∃ c1 c2, w' = (w.alloc (.cells c1 25)).alloc (.cells c2 25) := by
  obtain ⟨k0, k1⟩ := and_lt x1 x2 h0 h1 h2 h3
  have hm := top_no _ k0 k1
  have hm1 := top_no x1 h0 h1
  have hm2 := top_no x2 h2 h3
  have ha1 := and_mask x1 h0 h1
  have ha2 := and_mask x2 h2 h3
  by_cases g1 : y2 < y1
  · have hd : decide (y2 < y1 ∨ y1 = y2 ∧ x2 < x1) = true := decide_eq_true (.inl g1)
    rw [hd]
    clear hd
    go_enter Yba.func10, Yba.ntmps10
    go_wp2
    go_ret
    exact ⟨rfl, _, _, rfl⟩
  by_cases g2 : y1 = y2
  · subst g2
    by_cases g3 : x2 < x1
    · have hd : decide (y1 < y1 ∨ y1 = y1 ∧ x2 < x1) = true := decide_eq_true (.inr ⟨rfl, g3⟩)
      rw [hd]
      clear hd
      go_enter Yba.func10, Yba.ntmps10
      go_wp2
      go_ret
      exact ⟨rfl, _, _, rfl⟩
    · have hd : decide (y1 < y1 ∨ y1 = y1 ∧ x2 < x1) = false := decide_eq_false (by omega)
      rw [hd]
      clear hd
      go_enter Yba.func10, Yba.ntmps10
      go_wp2
      go_ret
      exact ⟨rfl, _, _, rfl⟩
  · have hd : decide (y2 < y1 ∨ y1 = y2 ∧ x2 < x1) = false := decide_eq_false (by omega)
    rw [hd]
    clear hd
    go_enter Yba.func10, Yba.ntmps10
    go_wp2
    go_ret
    exact ⟨rfl, _, _, rfl⟩



/-- 'addSec' at a time without a monotonic reading whose seconds are 0. -/
theorem addSec_any (b off : Nat) (x d : Int) (w : World) (hc : w.cell? ⟨b, off, none⟩ = some (.int .u64 x)) (hd : w.cell? ⟨b, off + 1, none⟩ = some (.int .i64 0)) (hf : w.frozen? ⟨b, off + 1, none⟩ = false)
    (h0 : 0 ≤ x) (h1 : x < 1000000000) (k0 : -9223372036854775808 ≤ d) (k1 : d ≤ 9223372036854775807) :
    Calls Yba.prog 14 #[.pointer (some ⟨b, off, none⟩), .int .i64 d] w fun e w' => e = .returned (.tuple #[]) ∧ w' = w.setCell ⟨b, off + 1, none⟩ (.int .i64 d) := by
  have hm := top_no x h0 h1
  by_cases g : 0 < d
  · go_enter Yba.func14, Yba.ntmps14
    go_wp2
    go_end0
    exact ⟨rfl, rfl⟩
  · go_enter Yba.func14, Yba.ntmps14
    go_wp2
    go_end0
    exact ⟨rfl, rfl⟩

set_option maxHeartbeats 400000 in
theorem add_zero_pos (d : Int) (w : World) (h0 : 0 ≤ d) (h1 : d ≤ 9223372036854775807) :
    Calls Yba.prog 9 #[.agg #[.int .u64 0, .int .i64 0, .pointer none], .int .i64 d] w fun e w' => e = .returned (.agg #[.int .u64 (d % 1000000000), .int .i64 (d / 1000000000), .pointer none]) ∧ ∃ c1 c2, w' = (w.alloc (.cells c1 25)).alloc (.cells c2 25) := by
  have z1 := and_mask 0 (by omega) (by omega)
  have z2 := andNot_zero
  have z3 := or_zero (d % 1000000000) (by omega) (by omega)
  have z4 := top_no (d % 1000000000) (by omega) (by omega)
  go_enter Yba.func9, Yba.ntmps9
  go_wp2_with fail
  refine (nsec_any _ _ 0 _ (by simp [go_sem]) (by omega) (by omega)).mono ?_
  rintro e w' ⟨rfl, rfl⟩
  go_wp2_with fail
  refine (addSec_any _ _ _ _ _ (by simp [go_sem]; rfl) (by simp [go_sem]) (by simp [go_sem]) (by omega) (by omega) (by omega) (by omega)).mono ?_
  rintro e w' ⟨rfl, rfl⟩
  go_wp2_with fail
  simp [bodyPost, results, Yba.results9, go_sem]
  exact ⟨_, _, rfl⟩

set_option maxHeartbeats 400000 in
/-- d below zero: 'q', 'r' are Go's quotient and remainder (toward zero); the remainder is zero. -/
theorem add_zero_neg0 (d q : Int) (w : World) (h0 : d < 0) (h1 : -9223372036854775808 ≤ d) (hq : d.tdiv 1000000000 = q) (hr : d.tmod 1000000000 = 0) (q0 : -9223372037 ≤ q) (q1 : q ≤ 0) :
    Calls Yba.prog 9 #[.agg #[.int .u64 0, .int .i64 0, .pointer none], .int .i64 d] w fun e w' => e = .returned (.agg #[.int .u64 0, .int .i64 q, .pointer none]) ∧ ∃ c1 c2, w' = (w.alloc (.cells c1 25)).alloc (.cells c2 25) := by
  have z1 := and_mask 0 (by omega) (by omega)
  have z2 := andNot_zero
  have z3 := or_zero 0 (by omega) (by omega)
  have z4 := top_no 0 (by omega) (by omega)
  go_enter Yba.func9, Yba.ntmps9
  go_wp2_with fail
  refine (nsec_any _ _ 0 _ (by simp [go_sem]) (by omega) (by omega)).mono ?_
  rintro e w' ⟨rfl, rfl⟩
  go_wp2_with fail
  refine (addSec_any _ _ _ _ _ (by simp [go_sem]; rfl) (by simp [go_sem]) (by simp [go_sem]) (by omega) (by omega) (by omega) (by omega)).mono ?_
  rintro e w' ⟨rfl, rfl⟩
  go_wp2_with fail
  simp [bodyPost, results, Yba.results9, go_sem]
  exact ⟨_, _, rfl⟩

set_option maxHeartbeats 400000 in
theorem add_zero_neg1 (d q r : Int) (w : World) (h0 : d < 0) (h1 : -9223372036854775808 ≤ d) (hq : d.tdiv 1000000000 = q) (hr : d.tmod 1000000000 = r) (q0 : -9223372037 ≤ q) (q1 : q ≤ 0) (r0 : -1000000000 < r) (r1 : r < 0) :
    Calls Yba.prog 9 #[.agg #[.int .u64 0, .int .i64 0, .pointer none], .int .i64 d] w fun e w' => e = .returned (.agg #[.int .u64 (r + 1000000000), .int .i64 (q - 1), .pointer none]) ∧ ∃ c1 c2, w' = (w.alloc (.cells c1 25)).alloc (.cells c2 25) := by
  have z1 := and_mask 0 (by omega) (by omega)
  have z2 := andNot_zero
  have z3 := or_zero (r + 1000000000) (by omega) (by omega)
  have z4 := top_no (r + 1000000000) (by omega) (by omega)
  go_enter Yba.func9, Yba.ntmps9
  go_wp2_with fail
  refine (nsec_any _ _ 0 _ (by simp [go_sem]) (by omega) (by omega)).mono ?_
  rintro e w' ⟨rfl, rfl⟩
  go_wp2_with fail
  refine (addSec_any _ _ _ _ _ (by simp [go_sem]; rfl) (by simp [go_sem]) (by simp [go_sem]) (by omega) (by omega) (by omega) (by omega)).mono ?_
  rintro e w' ⟨rfl, rfl⟩
  go_wp2_with fail
  simp [bodyPost, results, Yba.results9, go_sem]
  exact ⟨_, _, rfl⟩

/-- The wall word and the seconds of the instant 'n' nanoseconds behind the zero time. -/
def ns (n : Int) : Int := n % 1000000000
def sc (n : Int) : Int := n / 1000000000
theorem ns_lo (n : Int) : 0 ≤ ns n := by unfold ns; omega
theorem ns_hi (n : Int) : ns n < 1000000000 := by unfold ns; omega
/-- The instants lie as their offsets do. -/
theorem lies (n m : Int) : (sc m < sc n ∨ sc n = sc m ∧ ns m < ns n) ↔ m < n := by unfold sc ns; omega
theorem same (n m : Int) (h1 : sc n = sc m) (h2 : ns n = ns m) : n = m := by unfold sc ns at *; omega

theorem add_zero_any (d : Int) (w : World) (h0 : -9223372036854775808 ≤ d) (h1 : d ≤ 9223372036854775807) :
    Calls Yba.prog 9 #[.agg #[.int .u64 0, .int .i64 0, .pointer none], .int .i64 d] w fun e w' => e = .returned (.agg #[.int .u64 (ns d), .int .i64 (sc d), .pointer none]) ∧ ∃ c1 c2, w' = (w.alloc (.cells c1 25)).alloc (.cells c2 25) := by
  unfold ns sc
  by_cases g : 0 ≤ d
  · exact add_zero_pos d w g h1
  · have e1 : d.tdiv 1000000000 = -((-d) / 1000000000) := by
      have : d = -(-d) := by omega
      rw [this, Int.neg_tdiv, Int.tdiv_eq_ediv_of_nonneg (by omega)]; omega
    have e2 : d.tmod 1000000000 = -((-d) % 1000000000) := by
      have := Int.tmod_add_mul_tdiv d 1000000000
      rw [e1] at this
      omega
    by_cases r : (-d) % 1000000000 = 0
    · have a1 : d % 1000000000 = 0 := by omega
      have a2 : d / 1000000000 = -((-d) / 1000000000) := by omega
      rw [a1, a2]
      exact add_zero_neg0 d _ w (by omega) h0 e1 (by rw [e2, r]; rfl) (by omega) (by omega)
    · have a1 : d % 1000000000 = -((-d) % 1000000000) + 1000000000 := by omega
      have a2 : d / 1000000000 = -((-d) / 1000000000) - 1 := by omega
      rw [a1, a2]
      exact add_zero_neg1 d _ _ w (by omega) h0 e1 e2 (by omega) (by omega) (by omega) (by omega)

set_option maxHeartbeats 400000 in
theorem at_any (n : Int) (w : World) (h0 : -9223372036854775808 ≤ n) (h1 : n ≤ 9223372036854775807) :
    Calls Yba.prog 5 #[.int .i64 n] w fun e w' => e = .returned (.agg #[.int .u64 (ns n), .int .i64 (sc n), .pointer none]) ∧ ∃ c1 c2 c3, w' = ((w.alloc (.cells c1 25)).alloc (.cells c2 25)).alloc (.cells c3 25) := by
  go_enter Yba.func5, Yba.ntmps5
  go_wp2_with fail
  refine (add_zero_any n _ h0 h1).mono ?_
  rintro e w' ⟨rfl, c1, c2, rfl⟩
  go_wp2_with fail
  simp [bodyPost, results, Yba.results5, go_sem]
  exact ⟨_, _, _, rfl⟩

set_option maxHeartbeats 400000 in
theorem later_yes (x1 y1 x2 y2 : Int) (w : World) (h0 : 0 ≤ x1) (h1 : x1 < 1000000000) (h2 : 0 ≤ x2) (h3 : x2 < 1000000000) (hl : y2 < y1 ∨ y1 = y2 ∧ x2 < x1) :
    Calls Yba.prog 6 #[.agg #[.int .u64 x1, .int .i64 y1, .pointer none], .agg #[.int .u64 x2, .int .i64 y2, .pointer none]] w fun e w' => e = .returned (.agg #[.int .u64 x1, .int .i64 y1, .pointer none]) ∧
      ∃ c1 c2 c3 c4 c5, w' = ((((w.alloc (.cells c1 25)).alloc (.cells c2 25)).alloc (.cells c3 25)).alloc (.cells c4 25)).alloc (.cells c5 25) := by
  have hd : decide (y2 < y1 ∨ y1 = y2 ∧ x2 < x1) = true := decide_eq_true hl
  have H : Hid _ := hd
  clear hd hl
  go_enter Yba.func6, Yba.ntmps6
  go_wp2_with fail
  refine (after_any x1 y1 x2 y2 _ _ _ h0 h1 h2 h3).mono ?_
  rw [H.out]
  rintro e w' ⟨rfl, c1, c2, rfl⟩
  go_wp2_with fail
  simp [bodyPost, results, Yba.results6, go_sem]
  exact ⟨_, _, _, _, _, rfl⟩

set_option maxHeartbeats 400000 in
theorem later_no (x1 y1 x2 y2 : Int) (w : World) (h0 : 0 ≤ x1) (h1 : x1 < 1000000000) (h2 : 0 ≤ x2) (h3 : x2 < 1000000000) (hl : ¬ (y2 < y1 ∨ y1 = y2 ∧ x2 < x1)) :
    Calls Yba.prog 6 #[.agg #[.int .u64 x1, .int .i64 y1, .pointer none], .agg #[.int .u64 x2, .int .i64 y2, .pointer none]] w fun e w' => e = .returned (.agg #[.int .u64 x2, .int .i64 y2, .pointer none]) ∧
      ∃ c1 c2 c3 c4 c5, w' = ((((w.alloc (.cells c1 25)).alloc (.cells c2 25)).alloc (.cells c3 25)).alloc (.cells c4 25)).alloc (.cells c5 25) := by
  have hd : decide (y2 < y1 ∨ y1 = y2 ∧ x2 < x1) = false := decide_eq_false hl
  have H : Hid _ := hd
  clear hd hl
  go_enter Yba.func6, Yba.ntmps6
  go_wp2_with fail
  refine (after_any x1 y1 x2 y2 _ _ _ h0 h1 h2 h3).mono ?_
  rw [H.out]
  rintro e w' ⟨rfl, c1, c2, rfl⟩
  go_wp2_with fail
  simp [bodyPost, results, Yba.results6, go_sem]
  exact ⟨_, _, _, _, _, rfl⟩
end Go.Proofs.Ybulknoq
