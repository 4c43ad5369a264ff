/-
  sync/atomic's loads and stores on the road of the two deque laws: one goroutine: each by a contract.
-/
import Derived.Test.YbulknqgRows
import Derived.WalkKit
import Derived.WalkSpells
import Derived.WalkLawsBesides
import Derived.Laws.LoneSync
import Derived.LaidEqlPtr
import Derived.Lib.Builder
import Derived.RowKit3
namespace Go.Proofs.Ybulknqg
open Go.RowKit
set_option linter.unusedVariables false

section
variable {P : Program} {f : FuncId} {fn : Func}
/-- sync/atomic.LoadPointer: what the cell holds. -/
theorem run_call_loadPtr (hf : P.funcs[f]? = some fn) (hname : (fn.name == "runtime.NumGoroutine") = false) (hb : fn.body.isNone = true) (hn : Extern.findNext fn = none)
    (he : Extern.find fn = some (Extern.Atomic.loadT .ptr)) {a : Addr} {x : Option Addr} {w : World} (hc : w.cell? a = some (.pointer x)) :
    (callFunc f #[.pointer (some a)]).run P w = .ok (.value (.pointer x)) w := by
  rw [run_callFunc_extern hf hname hb hn he]
  change (Sem.run P (do Extern.Atomic.read .ptr (← asAddr (.pointer (some a)))) w).andThen _ = _
  simp [Extern.Atomic.read, asAddr, hc, Result.andThen]
/-- sync/atomic.StorePointer: the pointer is stored. -/
theorem run_call_storePtr (hf : P.funcs[f]? = some fn) (hname : (fn.name == "runtime.NumGoroutine") = false) (hb : fn.body.isNone = true) (hn : Extern.findNext fn = none)
    (he : Extern.find fn = some Extern.Atomic.storeT) {a : Addr} {y : Option Addr} {u : Value} {w : World} (hc : w.cell? a = some u) (hz : w.frozen? a = false) :
    (callFunc f #[.pointer (some a), .pointer y]).run P w = .ok (.value (.tuple #[])) (w.setCell a (.pointer y)) := by
  rw [run_callFunc_extern hf hname hb hn he]
  change (Sem.run P (do
    store (← asAddr (.pointer (some a))) (.pointer y) .atomic
    pure Extern.Atomic.none_) w).andThen _ = _
  simp [asAddr, hc, hz, run_store P w a (.pointer y) .atomic rfl, Result.andThen, Extern.Atomic.none_]
end

theorem u32_load (b o : Nat) (x : Int) (w : World) (hc : w.cell? ⟨b, o, none⟩ = some (.int .u32 x)) :
    Calls Yba.prog 17 #[.pointer (some ⟨b, o, none⟩)] w fun e w' => e = .returned (.int .u32 x) ∧ w = w' := by
  have h := run_call_load (P := Yba.prog) Yba.func32 (by kernel_rfl) (by kernel_rfl) (by kernel_rfl) .u32 (by kernel_rfl) hc
  go_enter Yba.func17, Yba.ntmps17
  go_wp2
  go_ret
  exact ⟨rfl, rfl⟩
theorem u32_store (b o : Nat) (x y : Int) (w : World) (hc : w.cell? ⟨b, o, none⟩ = some (.int .u32 x)) (hf : w.frozen? ⟨b, o, none⟩ = false) :
    Calls Yba.prog 22 #[.pointer (some ⟨b, o, none⟩), .int .u32 y] w fun e w' => e = .returned (.tuple #[]) ∧ w' = w.setCell ⟨b, o, none⟩ (.int .u32 y) := by
  have h := run_call_store (P := Yba.prog) (k := .u32) (y := y) Yba.func38 (by kernel_rfl) (by kernel_rfl) (by kernel_rfl) (by kernel_rfl) hc hf
  go_enter Yba.func22, Yba.ntmps22
  go_wp2
  go_end0
  exact ⟨rfl, rfl⟩
theorem u64_load (b o : Nat) (x : Int) (w : World) (hc : w.cell? ⟨b, o, none⟩ = some (.int .u64 x)) :
    Calls Yba.prog 18 #[.pointer (some ⟨b, o, none⟩)] w fun e w' => e = .returned (.int .u64 x) ∧ w = w' := by
  have h := run_call_load (P := Yba.prog) Yba.func33 (by kernel_rfl) (by kernel_rfl) (by kernel_rfl) .u64 (by kernel_rfl) hc
  go_enter Yba.func18, Yba.ntmps18
  go_wp2
  go_ret
  exact ⟨rfl, rfl⟩
theorem u64_cas (b o : Nat) (x y : Int) (w : World) (hc : w.cell? ⟨b, o, none⟩ = some (.int .u64 x)) (hf : w.frozen? ⟨b, o, none⟩ = false) :
    Calls Yba.prog 23 #[.pointer (some ⟨b, o, none⟩), .int .u64 x, .int .u64 y] w fun e w' => e = .returned (.bool true) ∧ w' = w.setCell ⟨b, o, none⟩ (.int .u64 y) := by
  have h := run_call_cas_hit (P := Yba.prog) (y := y) Yba.func39 (by kernel_rfl) (by kernel_rfl) (by kernel_rfl) .u64 (by kernel_rfl) hc hf
  go_enter Yba.func23, Yba.ntmps23
  go_wp2
  go_ret
  exact ⟨rfl, rfl⟩

theorem conv_nil (s d : TypeId) (hs : (s, d) ∈ [(41, 36), (36, 41), (34, 36), (36, 34)]) (w : World) : (convert s d (.pointer none)).run Yba.prog w = .ok (.pointer none) w := by
  simp at hs
  rcases hs with ⟨rfl, rfl⟩ | ⟨rfl, rfl⟩ | ⟨rfl, rfl⟩ | ⟨rfl, rfl⟩ <;> kernel_rfl

/-- A pointer to a whole variable of type t comes back from type 36 as it is. -/
theorem conv_back (d t : TypeId) (hd : Yba.prog.underlying d = some (.pointer t)) (a : Addr) (n k : Nat) (w : World) (hsz : (sizeOf t).run Yba.prog w = .ok k w) (hsh : w.shape? a.block = some (t, n)) (hlies : liesAt Yba.prog Yba.prog.depth t (n / Yba.prog.cellsOf t) a.off t 1 = true) :
    (convert 36 d (.pointer (some a))).run Yba.prog w = .ok (.pointer (some a)) w := by
  simp [convert, run_underlying hd, run_underlying Yba.underlying36]
  show Sem.run Yba.prog (underlying 36 >>= _) w = _
  simp [Conv.seenAt, viewAt, variablesAt, run_underlying hd, run_underlying Yba.underlying36, hsh, hsz, Result.andThen]
  intro _ h
  rw [hlies] at h
  cases h
/-- A pointer into a row of cells goes to type 36 as it is. -/
theorem conv_to (s t : TypeId) (hs : Yba.prog.underlying s = some (.pointer t)) (a : Addr) (n k : Nat) (w : World) (hsz : (sizeOf t).run Yba.prog w = .ok (k + 1) w) (hsh : w.shape? a.block = some (t, n)) (hn : a.off < n) :
    (convert s 36 (.pointer (some a))).run Yba.prog w = .ok (.pointer (some a)) w := by
  have hge : ¬ (n ≤ a.off) := by omega
  simp [convert, run_underlying hs, run_underlying Yba.underlying36]
  show Sem.run Yba.prog (underlying s >>= _) w = _
  simp [Conv.seenAt, viewAt, cellsIn, run_underlying hs, run_underlying Yba.underlying36, hsh, hsz, hge, Result.andThen]

/-! ### A proc: a block of its own, of type 90. -/
def Proc (w : World) (p : Nat) : Prop := ∃ c : Array Value, w.heap[p]? = some (.cells c 90 (0, 0)) ∧ c.size = Yba.prog.cellsOf 90
theorem cells90 : Yba.prog.cellsOf 90 = 18 := by kernel_rfl
theorem Proc.cell {w : World} {p : Nat} (h : Proc w p) : ∃ v, w.cell? ⟨p, 0, none⟩ = some v := by
  obtain ⟨c, hc, hs⟩ := h
  rw [cells90] at hs
  have : 0 < c.size := by omega
  exact ⟨c[0], by simp [World.cell?, hc]⟩
theorem Proc.shape {w : World} {p : Nat} (h : Proc w p) : w.shape? p = some (90, 18) := by
  obtain ⟨c, hc, hs⟩ := h
  rw [cells90] at hs
  simp [World.shape?, hc, hs]
theorem Proc.to {w : World} {p : Nat} (h : Proc w p) : (convert 41 36 (.pointer (some ⟨p, 0, none⟩))).run Yba.prog w = .ok (.pointer (some ⟨p, 0, none⟩)) w :=
  conv_to 41 90 Yba.underlying41 _ 18 17 w (by kernel_rfl) h.shape (Nat.zero_lt_succ 17)
theorem Proc.back {w : World} {p : Nat} (h : Proc w p) : (convert 36 41 (.pointer (some ⟨p, 0, none⟩))).run Yba.prog w = .ok (.pointer (some ⟨p, 0, none⟩)) w :=
  conv_back 41 90 Yba.underlying41 _ 18 18 w (by kernel_rfl) h.shape (by kernel_rfl)

/-- (*atomic.Pointer[proc]).Load of a slot that holds a proc. -/
theorem slot_load (b o p : Nat) (w : World) (hc : w.cell? ⟨b, o, none⟩ = some (.pointer (some ⟨p, 0, none⟩))) (hp : Proc w p) :
    Calls Yba.prog 24 #[.pointer (some ⟨b, o, none⟩)] w fun e w' => e = .returned (.pointer (some ⟨p, 0, none⟩)) ∧ w = w' := by
  have h := run_call_loadPtr (P := Yba.prog) Yba.func34 (by kernel_rfl) (by kernel_rfl) (by kernel_rfl) (by kernel_rfl) hc
  have hb := hp.back
  go_enter Yba.func24, Yba.ntmps24
  go_wp2
  go_ret
  exact ⟨rfl, rfl⟩
/-- (*atomic.Pointer[proc]).Store of a proc, of nil. -/
theorem slot_store (b o p : Nat) (u : Value) (w : World) (hc : w.cell? ⟨b, o, none⟩ = some u) (hf : w.frozen? ⟨b, o, none⟩ = false) (hp : Proc w p) :
    Calls Yba.prog 21 #[.pointer (some ⟨b, o, none⟩), .pointer (some ⟨p, 0, none⟩)] w fun e w' => e = .returned (.tuple #[]) ∧ w' = w.setCell ⟨b, o, none⟩ (.pointer (some ⟨p, 0, none⟩)) := by
  have h := run_call_storePtr (P := Yba.prog) (y := some ⟨p, 0, none⟩) Yba.func37 (by kernel_rfl) (by kernel_rfl) (by kernel_rfl) (by kernel_rfl) hc hf
  have hb := hp.to
  go_enter Yba.func21, Yba.ntmps21
  go_wp2
  go_end0
  exact ⟨rfl, rfl⟩
theorem slot_clear (b o : Nat) (u : Value) (w : World) (hc : w.cell? ⟨b, o, none⟩ = some u) (hf : w.frozen? ⟨b, o, none⟩ = false) :
    Calls Yba.prog 21 #[.pointer (some ⟨b, o, none⟩), .pointer none] w fun e w' => e = .returned (.tuple #[]) ∧ w' = w.setCell ⟨b, o, none⟩ (.pointer none) := by
  have h := run_call_storePtr (P := Yba.prog) (y := none) Yba.func37 (by kernel_rfl) (by kernel_rfl) (by kernel_rfl) (by kernel_rfl) hc hf
  have hb := conv_nil 41 36 (by simp)
  go_enter Yba.func21, Yba.ntmps21
  go_wp2
  go_end0
  exact ⟨rfl, rfl⟩

/-! ### A ring's own block, of type 135. -/
def RingBlk (w : World) (rb sb n : Nat) : Prop := w.heap[rb]? = some (.cells #[.slice (some ⟨sb, 0, none⟩) n n, .int .u32 ((n : Int) - 1)] 135 (0, 0))
theorem RingBlk.cell0 {w : World} {rb sb n : Nat} (h : RingBlk w rb sb n) : w.cell? ⟨rb, 0, none⟩ = some (.slice (some ⟨sb, 0, none⟩) n n) := by unfold RingBlk at h; simp [World.cell?, h]
theorem RingBlk.cell1 {w : World} {rb sb n : Nat} (h : RingBlk w rb sb n) : w.cell? ⟨rb, 1, none⟩ = some (.int .u32 ((n : Int) - 1)) := by unfold RingBlk at h; simp [World.cell?, h]
theorem RingBlk.to {w : World} {rb sb n : Nat} (h : RingBlk w rb sb n) : (convert 34 36 (.pointer (some ⟨rb, 0, none⟩))).run Yba.prog w = .ok (.pointer (some ⟨rb, 0, none⟩)) w :=
  conv_to 34 135 Yba.underlying34 _ 2 1 w (by kernel_rfl) (by unfold RingBlk at h; simp [World.shape?, h]) (Nat.zero_lt_succ 1)
theorem RingBlk.back {w : World} {rb sb n : Nat} (h : RingBlk w rb sb n) : (convert 36 34 (.pointer (some ⟨rb, 0, none⟩))).run Yba.prog w = .ok (.pointer (some ⟨rb, 0, none⟩)) w :=
  conv_back 34 135 Yba.underlying34 _ 2 2 w (by kernel_rfl) (by unfold RingBlk at h; simp [World.shape?, h]) (by kernel_rfl)

/-- (*atomic.Pointer[ring]).Load. -/
theorem ring_load (b o rb sb n : Nat) (w : World) (hc : w.cell? ⟨b, o, none⟩ = some (.pointer (some ⟨rb, 0, none⟩))) (hp : RingBlk w rb sb n) :
    Calls Yba.prog 19 #[.pointer (some ⟨b, o, none⟩)] w fun e w' => e = .returned (.pointer (some ⟨rb, 0, none⟩)) ∧ w = w' := by
  have h := run_call_loadPtr (P := Yba.prog) Yba.func34 (by kernel_rfl) (by kernel_rfl) (by kernel_rfl) (by kernel_rfl) hc
  have hb := hp.back
  go_enter Yba.func19, Yba.ntmps19
  go_wp2
  go_ret
  exact ⟨rfl, rfl⟩
theorem ring_load_nil (b o : Nat) (w : World) (hc : w.cell? ⟨b, o, none⟩ = some (.pointer none)) :
    Calls Yba.prog 19 #[.pointer (some ⟨b, o, none⟩)] w fun e w' => e = .returned (.pointer none) ∧ w = w' := by
  have h := run_call_loadPtr (P := Yba.prog) Yba.func34 (by kernel_rfl) (by kernel_rfl) (by kernel_rfl) (by kernel_rfl) hc
  have hb := conv_nil 36 34 (by simp)
  go_enter Yba.func19, Yba.ntmps19
  go_wp2
  go_ret
  exact ⟨rfl, rfl⟩
theorem ring_store (b o rb sb n : Nat) (u : Value) (w : World) (hc : w.cell? ⟨b, o, none⟩ = some u) (hf : w.frozen? ⟨b, o, none⟩ = false) (hp : RingBlk w rb sb n) :
    Calls Yba.prog 36 #[.pointer (some ⟨b, o, none⟩), .pointer (some ⟨rb, 0, none⟩)] w fun e w' => e = .returned (.tuple #[]) ∧ w' = w.setCell ⟨b, o, none⟩ (.pointer (some ⟨rb, 0, none⟩)) := by
  have h := run_call_storePtr (P := Yba.prog) (y := some ⟨rb, 0, none⟩) Yba.func37 (by kernel_rfl) (by kernel_rfl) (by kernel_rfl) (by kernel_rfl) hc hf
  have hb := hp.to
  go_enter Yba.func36, Yba.ntmps36
  go_wp2
  go_end0
  exact ⟨rfl, rfl⟩
end Go.Proofs.Ybulknqg
