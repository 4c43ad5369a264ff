/-
  The road of the two laws of yield.go's door: 'noProcess' (a select over the nil channel: the default), sync/atomic's loads and stores, the table's look-up.
-/
import Derived.Test.YbulknqgDoorRows
import Derived.WalkKit
import Derived.WalkSpells
import Derived.WalkLawsBesides
import Derived.Laws.LoneSync
import Derived.LaidEqlPtr
import Derived.Lib.Builder
import Derived.RowKit3
import Derived.Conc.LoneSelect
namespace Go.Proofs.YbulknqgDoor
open Go.RowKit Go.Conc
set_option linter.unusedVariables false

set_option maxRecDepth 100000 in
/-- noProcess, where 'drained' is the nil channel: ErrNoProcess; nothing is written. -/
theorem noProcess_calls (b : Nat) (x : Value) (w : World) (hd : w.cell? ⟨b, 29, none⟩ = some (.chan none)) (hg : w.cell? ⟨0, 0, none⟩ = some x) :
    Calls Ybad.prog 17 #[.pointer (some ⟨b, 0, none⟩)] w fun e w' => e = .returned x ∧ w = w' := by
  refine calls_of_loneTo fun cs => ?_
  have e : Frame.enter Ybad.prog 17 #[.pointer (some ⟨b, 0, none⟩)] .normal = (base 17).at ⟨#[.pointer (some ⟨b, 0, none⟩), undef, undef, undef, undef, undef, undef, undef, undef, undef, undef, undef], []⟩ [.code (Ybad.f17.body.getD .skip)] := by
    simp [Frame.enter, Frame.at, Ybad.func17, base, Ybad.f17]
  rw [e]
  refine LoneTo.goes (n := 13) ?_
  simp only [Ybad.f17, Option.getD_some]
  s_c stepG_seq
  s_reg
  s_op
  s_c stepG_region_end
  s_c stepG_seq
  s_reg
  s_op
  s_op
  s_op
  s_op
  s_c stepG_region_end
  s_c stepG_seq
  s_reg
  s_stop
  refine LoneTo.step (step_lone_select_recv_nil (z := .agg #[]) (stepG_comm (cases := #[rcaseNil (.agg #[])]) (blocking := false) (shape := .select) (w' := w) rfl rfl (by decide) (by simp [go_sem, execOp, rcaseNil, Act.eval]))) ?_
  rw [Frame.finish_at]
  walk_nrm
  refine LoneTo.goes (n := 11) ?_
  s_op
  s_op
  s_c stepG_region_end
  s_c stepG_block
  s_cond false
  s_c stepG_seq
  s_reg
  s_op
  s_op
  s_c stepG_region_end
  s_c stepG_ret'
  s_stop
  refine LoneTo.done ⟨.returned x, _, rfl, ⟨rfl, rfl⟩, rfl, rfl, rfl, rfl, _, Ybad.func17, by simp [results, Ybad.f17, Frame.at]⟩

section
variable {P : Program} {f : FuncId} {fn : Func}
/-- sync/atomic.LoadPointer: what the cell holds. -/
theorem run_call_loadPtr (hf : P.funcs[f]? = some fn) (hname : (fn.name == "runtime.NumGoroutine") = false) (hb : fn.body.isNone = true) (hn : Extern.findNext fn = none)
    (he : Extern.find fn = some (Extern.Atomic.loadT .ptr)) {a : Addr} {x : Option Addr} {w : World} (hc : w.cell? a = some (.pointer x)) :
    (callFunc f #[.pointer (some a)]).run P w = .ok (.value (.pointer x)) w := by
  rw [run_callFunc_extern hf hname hb hn he]
  change (Sem.run P (do Extern.Atomic.read .ptr (← asAddr (.pointer (some a)))) w).andThen _ = _
  simp [Extern.Atomic.read, asAddr, hc, Result.andThen]
/-- sync/atomic.StorePointer: the pointer is stored. -/
theorem run_call_storePtr (hf : P.funcs[f]? = some fn) (hname : (fn.name == "runtime.NumGoroutine") = false) (hb : fn.body.isNone = true) (hn : Extern.findNext fn = none)
    (he : Extern.find fn = some Extern.Atomic.storeT) {a : Addr} {y : Option Addr} {u : Value} {w : World} (hc : w.cell? a = some u) (hz : w.frozen? a = false) :
    (callFunc f #[.pointer (some a), .pointer y]).run P w = .ok (.value (.tuple #[])) (w.setCell a (.pointer y)) := by
  rw [run_callFunc_extern hf hname hb hn he]
  change (Sem.run P (do
    store (← asAddr (.pointer (some a))) (.pointer y) .atomic
    pure Extern.Atomic.none_) w).andThen _ = _
  simp [asAddr, hc, hz, run_store P w a (.pointer y) .atomic rfl, Result.andThen, Extern.Atomic.none_]
end

theorem conv_nil (s d : TypeId) (hs : (s, d) ∈ [(40, 52), (40, 80)]) (w : World) : (convert s d (.pointer none)).run Ybad.prog w = .ok (.pointer none) w := by
  simp at hs
  rcases hs with ⟨rfl, rfl⟩ | ⟨rfl, rfl⟩ <;> kernel_rfl
/-- A pointer to a whole variable of type t comes back from type 40 as it is. -/
theorem conv_back (d t : TypeId) (hd : Ybad.prog.underlying d = some (.pointer t)) (a : Addr) (n k : Nat) (w : World) (hsz : (sizeOf t).run Ybad.prog w = .ok k w) (hsh : w.shape? a.block = some (t, n)) (hlies : liesAt Ybad.prog Ybad.prog.depth t (n / Ybad.prog.cellsOf t) a.off t 1 = true) :
    (convert 40 d (.pointer (some a))).run Ybad.prog w = .ok (.pointer (some a)) w := by
  simp [convert, run_underlying hd, run_underlying Ybad.underlying40]
  show Sem.run Ybad.prog (underlying 40 >>= _) w = _
  simp [Conv.seenAt, viewAt, variablesAt, run_underlying hd, run_underlying Ybad.underlying40, hsh, hsz, Result.andThen]
  intro _ h
  rw [hlies] at h
  cases h
/-- A pointer into a row of cells goes to type 40 as it is. -/
theorem conv_to (s t : TypeId) (hs : Ybad.prog.underlying s = some (.pointer t)) (a : Addr) (n k : Nat) (w : World) (hsz : (sizeOf t).run Ybad.prog w = .ok (k + 1) w) (hsh : w.shape? a.block = some (t, n)) (hn : a.off < n) :
    (convert s 40 (.pointer (some a))).run Ybad.prog w = .ok (.pointer (some a)) w := by
  have hge : ¬ (n ≤ a.off) := by omega
  simp [convert, run_underlying hs, run_underlying Ybad.underlying40]
  show Sem.run Ybad.prog (underlying s >>= _) w = _
  simp [Conv.seenAt, viewAt, cellsIn, run_underlying hs, run_underlying Ybad.underlying40, hsh, hsz, hge, Result.andThen]

/-- The table's chunks' pointer: nil. -/
theorem chunks_load_nil (b o : Nat) (w : World) (hc : w.cell? ⟨b, o, none⟩ = some (.pointer none)) :
    Calls Ybad.prog 29 #[.pointer (some ⟨b, o, none⟩)] w fun e w' => e = .returned (.pointer none) ∧ w = w' := by
  have h := run_call_loadPtr (P := Ybad.prog) Ybad.func30 (by kernel_rfl) (by kernel_rfl) (by kernel_rfl) (by kernel_rfl) hc
  have hb := conv_nil 40 52 (by simp)
  go_enter Ybad.func29, Ybad.ntmps29
  go_wp2
  go_ret
  exact ⟨rfl, rfl⟩
/-- slot, of an empty table: nil. -/
theorem slot_nil (b o : Nat) (q : Int) (w : World) (hc : w.cell? ⟨b, o, none⟩ = some (.pointer none)) :
    Calls Ybad.prog 23 #[.pointer (some ⟨b, o, none⟩), .int .u64 q] w fun e w' => e = .returned (.pointer none) ∧ w = w' := by
  go_enter Ybad.func23, Ybad.ntmps23
  go_wp2_with fail
  refine (chunks_load_nil b o w hc).mono ?_
  rintro e w' ⟨rfl, rfl⟩
  go_wp2
  go_ret
  exact ⟨rfl, rfl⟩
/-- get, where the slot is nil. -/
theorem get_nil (a : Addr) (q : Int) (w : World) (h : Calls Ybad.prog 23 #[.pointer (some a), .int .u64 q] w fun e w' => e = .returned (.pointer none) ∧ w = w') :
    Calls Ybad.prog 15 #[.pointer (some a), .int .u64 q] w fun e w' => e = .returned (.pointer none) ∧ w = w' := by
  go_enter Ybad.func15, Ybad.ntmps15
  go_wp2_with fail
  refine h.mono ?_
  rintro e w' ⟨rfl, rfl⟩
  go_wp2
  go_ret
  exact ⟨rfl, rfl⟩
/-- lookup, where get gives nil. -/
theorem lookup_nil (b : Nat) (q : Int) (x : Value) (w : World) (hd : w.cell? ⟨b, 29, none⟩ = some (.chan none)) (hg : w.cell? ⟨0, 0, none⟩ = some x)
    (h : Calls Ybad.prog 15 #[.pointer (some ⟨b, 21, none⟩), .int .u64 q] w fun e w' => e = .returned (.pointer none) ∧ w = w') :
    Calls Ybad.prog 9 #[.pointer (some ⟨b, 0, none⟩), .int .u64 q] w fun e w' => e = .returned (.tuple #[.pointer none, x]) ∧ w = w' := by
  go_enter Ybad.func9, Ybad.ntmps9
  go_wp2_with fail
  refine h.mono ?_
  rintro e w' ⟨rfl, rfl⟩
  go_wp2_with fail
  refine (noProcess_calls b x w hd hg).mono ?_
  rintro e w' ⟨rfl, rfl⟩
  go_wp2
  simp [bodyPost, results, Ybad.results9, go_sem]
/-- completeYield, where lookup finds nothing. -/
theorem complete_none (b : Nat) (q t : Int) (T : TypeId) (a : Addr) (w : World)
    (h : Calls Ybad.prog 9 #[.pointer (some ⟨b, 0, none⟩), .int .u64 q] w fun e w' => e = .returned (.tuple #[.pointer none, .iface T (.pointer (some a))]) ∧ w = w') :
    Calls Ybad.prog 5 #[.pointer (some ⟨b, 0, none⟩), .int .u64 q, .int .u64 t, .nilIface, .nilIface, .pointer none] w fun e w' => e = .returned (.iface T (.pointer (some a))) ∧ w = w' := by
  go_enter Ybad.func5, Ybad.ntmps5
  go_wp2_with fail
  refine h.mono ?_
  rintro e w' ⟨rfl, rfl⟩
  go_wp2
  go_ret
  exact ⟨rfl, rfl⟩
end Go.Proofs.YbulknqgDoor
