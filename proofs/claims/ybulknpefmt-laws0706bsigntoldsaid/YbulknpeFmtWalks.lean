/-
  The walks: fmt.Errorf at the format of CheckWait by its contract (the text is left open: 'F'), lock.CheckWait, and the law.
-/
import Derived.Test.YbulknpeFmtFacts
import Derived.Test.YbulknpeFmtDur
import Derived.Test.YbulknpeFmtIs
import Derived.WalkKit
import Derived.WalkSpells
import Derived.BigCall
namespace Go.Proofs.YbulknpeFmt
open Go.RowKit Go.Extern.Stop Go.Stop Go.Extern
attribute [local go_sem] Ybaf.call10 Ybaf.guard Ybaf.fmt0 Ybaf.fmt0r Ybaf.act25_118 Ybaf.act25_118w Ybaf.str25 Ybaf.act48_119w Ybaf.isError48 Ybaf.str48 Ybaf.ptr48 Ybaf.elem48 Ybaf.ptr36 Ybaf.elem36 Ybaf.isError36
set_option linter.unusedVariables false

set_option maxHeartbeats 800000 in
/-- fmt.Errorf at this format: a new *fmt.wrapError whose second cell is the sentinel; nothing that was there has turned. -/
theorem errorf_any (F : Interp) (d : Int) (blk : Nat) (a : Addr) (s : ByteArray) (w : World) (hF : F.answers w.tape) (h0 : -9223372036854775808 ≤ d) (h1 : d < 0)
    (hc0 : w.cell? ⟨blk, 0, none⟩ = some (.iface 48 (.pointer (some a)))) (hc1 : w.cell? ⟨blk, 1, none⟩ = some (.iface 25 (.int .i64 d))) (ha : w.cell? a = some (.string s)) :
    Calls Ybaf.prog 7 #[.string ⟨#[37, 119, 58, 32, 119, 97, 105, 116, 32, 37, 118, 32, 105, 115, 32, 110, 101, 103, 97, 116, 105, 118, 101]⟩, .slice (some ⟨blk, 0, none⟩) 2 2] w fun e w' =>
      ∃ b : Nat, e = .returned (.iface 36 (.pointer (some ⟨b, 0, none⟩))) ∧ w'.cell? ⟨b, 0 + 1, none⟩ = some (.iface 48 (.pointer (some a))) ∧ Below w.heap.size w w' := by
  have hF' := answers_open hF
  have hb : blk < w.heap.size := World.block_lt_of_cell? _ _ hc0
  have hba : a.block < w.heap.size := World.block_lt_of_cell? _ _ ha
  have hop := Ybaf.opPlain48_119w "fmt.errorf" a s w ha
  go_enter Ybaf.func7, Ybaf.ntmps7
  go_wp2
  apply rows_call Ybaf.nextTurns
  case hr =>
    go_simp
    exact ⟨⟨rfl, rfl, rfl⟩, rfl⟩
  case hi => exact Ybaf.invokeString25 _ _
  case hc =>
    refine (string_any d _ h0 h1).mono fun e w₃ ⟨t, he, ht, hx, hx2⟩ => ?_
    subst he
    have hF3 := answers_open (show F.answers w₃.tape by rw [hx.tape]; exact hF)
    have hc03 : w₃.cell? ⟨blk, 0, none⟩ = some (.iface 48 (.pointer (some a))) := by rw [hx.cell hb]; exact hc0
    have hc13 : w₃.cell? ⟨blk, 1, none⟩ = some (.iface 25 (.int .i64 d)) := by rw [hx.cell hb]; exact hc1
    have hop3 := Ybaf.opPlain48_119w "fmt.errorf" a s w₃ (by rw [hx.cell hba]; exact ha)
    apply rows_value Ybaf.nextReturned
    case hr =>
      go_simp
      exact ⟨rfl, rfl⟩
    case h =>
      go_wp2
      go_ret
      exact ⟨w₃.heap.size, rfl, by simp [go_sem], (hx.alloc hx.size _).drew⟩

set_option maxHeartbeats 400000 in
theorem checkWait_nil (n : Int) (w : World) (h0 : ¬ n < 0) :
    Calls Ybaf.prog 5 #[.int .i64 n] w fun e w' => e = .returned .nilIface ∧ w' = w := by
  go_enter Ybaf.func5, Ybaf.ntmps5
  go_wp2
  go_ret
  exact ⟨rfl, rfl⟩

set_option maxHeartbeats 400000 in
theorem checkWait_neg (F : Interp) (n : Int) (a : Addr) (s : ByteArray) (w : World) (hF : F.answers w.tape) (hg : w.cell? ⟨0, 0, none⟩ = some (.iface 48 (.pointer (some a)))) (ha : w.cell? a = some (.string s))
    (h0 : -9223372036854775808 ≤ n) (h1 : n < 0) :
    Calls Ybaf.prog 5 #[.int .i64 n] w fun e w' => ∃ b : Nat, e = .returned (.iface 36 (.pointer (some ⟨b, 0, none⟩))) ∧ w'.cell? ⟨b, 0 + 1, none⟩ = some (.iface 48 (.pointer (some a))) ∧ Below w.heap.size w w' := by
  have hba : a.block < w.heap.size := World.block_lt_of_cell? _ _ ha
  go_enter Ybaf.func5, Ybaf.ntmps5
  go_wp2_with fail
  refine (errorf_any F n w.heap.size a s _ (by exact hF) h0 h1 (by simp [go_sem]) (by simp [go_sem]) (by rw [((Below.refl w.heap.size w).alloc (Nat.le_refl _) _).cell hba]; exact ha)).mono ?_
  rintro e w2 ⟨b, rfl, hc, hb⟩
  go_wp2_with fail
  go_ret
  exact ⟨b, rfl, hc, ((Below.refl _ _).alloc (Nat.le_refl _) _).trans (hb.mono (by simp))⟩

set_option maxHeartbeats 400000 in
theorem law_nil (n : Int) (w : World) (h0 : ¬ n < 0) :
    Calls Ybaf.prog 3 #[.int .i64 n] w fun e w' => e = .returned (.bool true) ∧ Below w.heap.size w w' := by
  have h0' : 0 ≤ n := by omega
  go_enter Ybaf.func3, Ybaf.ntmps3
  go_wp2_with fail
  refine (checkWait_nil n _ (by omega)).mono ?_
  rintro e w' ⟨rfl, rfl⟩
  go_wp2_with fail
  go_ret
  exact ⟨rfl, Below.refl _ _⟩

set_option maxHeartbeats 400000 in
theorem law_neg (F : Interp) (n : Int) (a : Addr) (s : ByteArray) (w : World) (hF : F.answers w.tape) (hg : w.cell? ⟨0, 0, none⟩ = some (.iface 48 (.pointer (some a)))) (ha : w.cell? a = some (.string s))
    (h0 : -9223372036854775808 ≤ n) (h1 : n < 0) :
    Calls Ybaf.prog 3 #[.int .i64 n] w fun e w' => e = .returned (.bool true) ∧ Below w.heap.size w w' := by
  have hg0 : 0 < w.heap.size := World.block_lt_of_cell? _ _ hg
  go_enter Ybaf.func3, Ybaf.ntmps3
  go_wp2_with fail
  refine (checkWait_neg F n a s _ hF hg ha h0 h1).mono ?_
  rintro e w2 ⟨b, rfl, hc, hb⟩
  have hg2 : w2.cell? ⟨0, 0, none⟩ = some (.iface 48 (.pointer (some a))) := by rw [hb.cell hg0]; exact hg
  go_wp2_with fail
  refine (is_wrap_same b 0 a _ hc).mono ?_
  rintro e w' ⟨rfl, rfl⟩
  go_wp2_with fail
  go_ret
  exact ⟨rfl, hb⟩
end Go.Proofs.YbulknpeFmt
