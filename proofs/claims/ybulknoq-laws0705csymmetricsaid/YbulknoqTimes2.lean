import Derived.Test.YbulknoqTimes
namespace Go.Proofs.Ybulknoq
open Go.RowKit
set_option linter.unusedVariables false

set_option maxHeartbeats 400000 in
theorem before_no (x1 y1 x2 y2 : Int) (v1 v2 : Value) (w : World) (h0 : 0 ≤ x1) (h1 : x1 < 1000000000) (h2 : 0 ≤ x2) (h3 : x2 < 1000000000) (hl : ¬ (y1 < y2 ∨ y1 = y2 ∧ x1 < x2)) :
    Calls Yba.prog 8 #[.agg #[.int .u64 x1, .int .i64 y1, v1], .agg #[.int .u64 x2, .int .i64 y2, v2]] w fun e w' => e = .returned (.bool false) ∧ ∃ c1 c2, w' = (w.alloc (.cells c1 25)).alloc (.cells c2 25) := by
  obtain ⟨k0, k1⟩ := and_lt x1 x2 h0 h1 h2 h3
  have hm := top_no _ k0 k1
  have hm1 := top_no x1 h0 h1
  have hm2 := top_no x2 h2 h3
  have ha1 := and_mask x1 h0 h1
  have ha2 := and_mask x2 h2 h3
  have g1 : ¬ y1 < y2 := fun h => hl (.inl h)
  by_cases g2 : y1 = y2
  · subst g2
    have g3 : ¬ x1 < x2 := fun h => hl (.inr ⟨rfl, h⟩)
    clear hl
    go_enter Yba.func8, Yba.ntmps8
    go_wp2
    go_ret
    exact ⟨rfl, _, _, rfl⟩
  · clear hl
    go_enter Yba.func8, Yba.ntmps8
    go_wp2
    go_ret
    exact ⟨rfl, _, _, rfl⟩

set_option maxHeartbeats 400000 in
theorem equal_same (x y : Int) (v1 v2 : Value) (w : World) (h0 : 0 ≤ x) (h1 : x < 1000000000) :
    Calls Yba.prog 7 #[.agg #[.int .u64 x, .int .i64 y, v1], .agg #[.int .u64 x, .int .i64 y, v2]] w fun e w' => e = .returned (.bool true) ∧ ∃ c1 c2, w' = (w.alloc (.cells c1 25)).alloc (.cells c2 25) := by
  obtain ⟨k0, k1⟩ := and_lt x x h0 h1 h0 h1
  have hm := top_no _ k0 k1
  have hm1 := top_no x h0 h1
  have ha1 := and_mask x h0 h1
  go_enter Yba.func7, Yba.ntmps7
  go_wp2
  go_ret
  exact ⟨rfl, _, _, rfl⟩
end Go.Proofs.Ybulknoq
