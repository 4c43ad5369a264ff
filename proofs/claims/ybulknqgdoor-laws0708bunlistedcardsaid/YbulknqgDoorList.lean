/-
  The road of the second law: a table with one process listed.
-/
import Derived.Test.YbulknqgDoorRoad
import Derived.BigQuiet
import Derived.Deep.QuietTactic
namespace Go.Proofs.YbulknqgDoor
open Go.RowKit
set_option linter.unusedVariables false

/-- The table's chunks' pointer: a slice's own block. -/
theorem chunks_load (b o c : Nat) (w : World) (hc : w.cell? ⟨b, o, none⟩ = some (.pointer (some ⟨c, 0, none⟩))) (hsh : w.shape? c = some (109, 1)) :
    Calls Ybad.prog 29 #[.pointer (some ⟨b, o, none⟩)] w fun e w' => e = .returned (.pointer (some ⟨c, 0, none⟩)) ∧ w = w' := by
  have h := run_call_loadPtr (P := Ybad.prog) Ybad.func30 (by kernel_rfl) (by kernel_rfl) (by kernel_rfl) (by kernel_rfl) hc
  have hb := conv_back 52 109 Ybad.underlying52 ⟨c, 0, none⟩ 1 1 w (by kernel_rfl) hsh (by kernel_rfl)
  go_enter Ybad.func29, Ybad.ntmps29
  go_wp2
  go_ret
  exact ⟨rfl, rfl⟩
/-- The slot's process: nil. -/
theorem proc_load_nil (b o : Nat) (w : World) (hc : w.cell? ⟨b, o, none⟩ = some (.pointer none)) :
    Calls Ybad.prog 24 #[.pointer (some ⟨b, o, none⟩)] w fun e w' => e = .returned (.pointer none) ∧ w = w' := by
  have h := run_call_loadPtr (P := Ybad.prog) Ybad.func30 (by kernel_rfl) (by kernel_rfl) (by kernel_rfl) (by kernel_rfl) hc
  have hb := conv_nil 40 80 (by simp)
  go_enter Ybad.func24, Ybad.ntmps24
  go_wp2
  go_ret
  exact ⟨rfl, rfl⟩
theorem proc_load (b o p : Nat) (w : World) (hc : w.cell? ⟨b, o, none⟩ = some (.pointer (some ⟨p, 0, none⟩))) (hsh : w.shape? p = some (106, 18)) :
    Calls Ybad.prog 24 #[.pointer (some ⟨b, o, none⟩)] w fun e w' => e = .returned (.pointer (some ⟨p, 0, none⟩)) ∧ w = w' := by
  have h := run_call_loadPtr (P := Ybad.prog) Ybad.func30 (by kernel_rfl) (by kernel_rfl) (by kernel_rfl) (by kernel_rfl) hc
  have hb := conv_back 80 106 Ybad.underlying80 ⟨p, 0, none⟩ 18 18 w (by kernel_rfl) hsh (by kernel_rfl)
  go_enter Ybad.func24, Ybad.ntmps24
  go_wp2
  go_ret
  exact ⟨rfl, rfl⟩
theorem bool_load (b o : Nat) (x : Int) (w : World) (hc : w.cell? ⟨b, o, none⟩ = some (.int .u32 x)) :
    Calls Ybad.prog 16 #[.pointer (some ⟨b, o, none⟩)] w fun e w' => e = .returned (.bool (!(decide (x = 0)))) ∧ w = w' := by
  have h := run_call_load (P := Ybad.prog) Ybad.func25 (by kernel_rfl) (by kernel_rfl) (by kernel_rfl) .u32 (by kernel_rfl) hc
  go_enter Ybad.func16, Ybad.ntmps16
  go_wp2
  go_ret
  exact ⟨rfl, rfl⟩
/-- slot, where the PID's number lies beyond the one chunk: nil. -/
theorem slot_out (b o c d e : Nat) (q : Int) (w : World) (hc : w.cell? ⟨b, o, none⟩ = some (.pointer (some ⟨c, 0, none⟩))) (hsh : w.shape? c = some (109, 1))
    (hs : w.cell? ⟨c, 0, none⟩ = some (.slice (some ⟨d, 0, none⟩) 1 1)) (hq : 1 ≤ (q - 1) % 4294967296 / 1024) :
    Calls Ybad.prog 23 #[.pointer (some ⟨b, o, none⟩), .int .u64 q] w fun en w' => en = .returned (.pointer none) ∧ w = w' := by
  go_enter Ybad.func23, Ybad.ntmps23
  go_wp2_with fail
  refine (chunks_load b o c w hc hsh).mono ?_
  rintro en w' ⟨rfl, rfl⟩
  go_wp2
  go_ret
  exact ⟨rfl, rfl⟩
theorem size85 (w : World) : (sizeOf 85).run Ybad.prog w = .ok 2 w := by kernel_rfl
theorem idx87 (e k : Nat) (kk : IntKind) (hk : k < 1024) (w : World) : (Instr.indexAt 87 (.pointer (some ⟨e, 0, none⟩)) (.int kk (k : Int))).run Ybad.prog w = .ok (.pointer (some ⟨e, 2 * k, none⟩)) w := by
  simp only [Instr.indexAt, asIntOf]
  simp [run_underlying Ybad.underlying87, Instr.sureAddr, hk, Result.andThen, Addr.add]
  split <;> simp_all <;> omega
set_option maxRecDepth 20000 in
/-- slot, where the PID's number lies in the one chunk: its place. -/
theorem slot_in (b o c d e k : Nat) (q : Int) (w : World) (hc : w.cell? ⟨b, o, none⟩ = some (.pointer (some ⟨c, 0, none⟩))) (hsh : w.shape? c = some (109, 1))
    (hs : w.cell? ⟨c, 0, none⟩ = some (.slice (some ⟨d, 0, none⟩) 1 1)) (hd : w.cell? ⟨d, 0, none⟩ = some (.pointer (some ⟨e, 0, none⟩))) (hq : q % 4294967296 = (k : Int) + 1) (hk : k < 1024) :
    Calls Ybad.prog 23 #[.pointer (some ⟨b, o, none⟩), .int .u64 q] w fun en w' => en = .returned (.pointer (some ⟨e, 2 * k, none⟩)) ∧ w = w' := by
  have k1 : (k : Int) / 1024 = 0 := by omega
  have k2 : (k : Int) % 1024 = k := by omega
  have k3 : (k : Int) < 1024 := by omega
  have hix := idx87 e k .u32 hk
  go_enter Ybad.func23, Ybad.ntmps23
  go_wp2_with fail
  refine (chunks_load b o c w hc hsh).mono ?_
  rintro en w' ⟨rfl, rfl⟩
  go_wp2
  go_ret
  exact ⟨rfl, rfl⟩
/-- get, where the slot holds no process. -/
theorem get_miss (a : Addr) (e o : Nat) (q : Int) (w : World) (h : Calls Ybad.prog 23 #[.pointer (some a), .int .u64 q] w fun en w' => en = .returned (.pointer (some ⟨e, o, none⟩)) ∧ w = w')
    (hc : w.cell? ⟨e, o, none⟩ = some (.pointer none)) :
    Calls Ybad.prog 15 #[.pointer (some a), .int .u64 q] w fun en w' => en = .returned (.pointer none) ∧ w = w' := by
  go_enter Ybad.func15, Ybad.ntmps15
  go_wp2_with fail
  refine h.mono ?_
  rintro en w' ⟨rfl, rfl⟩
  go_wp2_with fail
  refine (proc_load_nil e o w hc).mono ?_
  rintro en w' ⟨rfl, rfl⟩
  go_wp2
  go_ret
  exact ⟨rfl, rfl⟩
/-- get, where the slot's process has another PID. -/
theorem get_other (a : Addr) (e o p : Nat) (q x : Int) (w : World) (h : Calls Ybad.prog 23 #[.pointer (some a), .int .u64 q] w fun en w' => en = .returned (.pointer (some ⟨e, o, none⟩)) ∧ w = w')
    (hc : w.cell? ⟨e, o, none⟩ = some (.pointer (some ⟨p, 0, none⟩))) (hsh : w.shape? p = some (106, 18)) (hp : w.cell? ⟨p, 15, none⟩ = some (.int .u64 x)) (hx : x ≠ q) :
    Calls Ybad.prog 15 #[.pointer (some a), .int .u64 q] w fun en w' => en = .returned (.pointer none) ∧ w = w' := by
  go_enter Ybad.func15, Ybad.ntmps15
  go_wp2_with fail
  refine h.mono ?_
  rintro en w' ⟨rfl, rfl⟩
  go_wp2_with fail
  refine (proc_load e o p w hc hsh).mono ?_
  rintro en w' ⟨rfl, rfl⟩
  go_wp2
  go_ret
  exact ⟨rfl, rfl⟩
/-- get, where the slot's process has the PID. -/
theorem get_hit (a : Addr) (e o p : Nat) (q : Int) (w : World) (h : Calls Ybad.prog 23 #[.pointer (some a), .int .u64 q] w fun en w' => en = .returned (.pointer (some ⟨e, o, none⟩)) ∧ w = w')
    (hc : w.cell? ⟨e, o, none⟩ = some (.pointer (some ⟨p, 0, none⟩))) (hsh : w.shape? p = some (106, 18)) (hp : w.cell? ⟨p, 15, none⟩ = some (.int .u64 q)) :
    Calls Ybad.prog 15 #[.pointer (some a), .int .u64 q] w fun en w' => en = .returned (.pointer (some ⟨p, 0, none⟩)) ∧ w = w' := by
  go_enter Ybad.func15, Ybad.ntmps15
  go_wp2_with fail
  refine h.mono ?_
  rintro en w' ⟨rfl, rfl⟩
  go_wp2_with fail
  refine (proc_load e o p w hc hsh).mono ?_
  rintro en w' ⟨rfl, rfl⟩
  go_wp2
  go_ret
  exact ⟨rfl, rfl⟩
/-- lookup, where the process is not accepted. -/
theorem lookup_unacc (b p : Nat) (q : Int) (x : Value) (w : World) (hd : w.cell? ⟨b, 29, none⟩ = some (.chan none)) (hg : w.cell? ⟨0, 0, none⟩ = some x) (hp : w.cell? ⟨p, 4, none⟩ = some (.int .u32 0))
    (h : Calls Ybad.prog 15 #[.pointer (some ⟨b, 21, none⟩), .int .u64 q] w fun e w' => e = .returned (.pointer (some ⟨p, 0, none⟩)) ∧ w = w') :
    Calls Ybad.prog 9 #[.pointer (some ⟨b, 0, none⟩), .int .u64 q] w fun e w' => e = .returned (.tuple #[.pointer none, x]) ∧ w = w' := by
  go_enter Ybad.func9, Ybad.ntmps9
  go_wp2_with fail
  refine h.mono ?_
  rintro e w' ⟨rfl, rfl⟩
  go_wp2_with fail
  refine (bool_load p 4 0 w hp).mono ?_
  rintro e w' ⟨rfl, rfl⟩
  go_wp2_with fail
  refine (noProcess_calls b x w hd hg).mono ?_
  rintro e w' ⟨rfl, rfl⟩
  go_wp2
  simp [bodyPost, results, Ybad.results9, go_sem]

/-- A table with one process listed: what the world holds. -/
def Tab (W : World) (b c d e p k : Nat) (x : Value) (P : Int) (acc : Bool) : Prop :=
  W.cell? ⟨0, 0, none⟩ = some x ∧ W.cell? ⟨b, 29, none⟩ = some (.chan none) ∧ W.cell? ⟨b, 21, none⟩ = some (.pointer (some ⟨c, 0, none⟩)) ∧ W.shape? c = some (109, 1) ∧
  W.cell? ⟨c, 0, none⟩ = some (.slice (some ⟨d, 0, none⟩) 1 1) ∧ W.cell? ⟨d, 0, none⟩ = some (.pointer (some ⟨e, 0, none⟩)) ∧
  (∀ i : Nat, i < 1024 → i ≠ k → W.cell? ⟨e, 2 * i, none⟩ = some (.pointer none)) ∧ W.cell? ⟨e, 2 * k, none⟩ = some (.pointer (some ⟨p, 0, none⟩)) ∧
  W.shape? p = some (106, 18) ∧ W.cell? ⟨p, 15, none⟩ = some (.int .u64 P) ∧ W.cell? ⟨p, 4, none⟩ = some (.int .u32 (if acc then 1 else 0))
theorem Tab.drewN {W : World} {b c d e p k : Nat} {x : Value} {P : Int} {acc : Bool} (h : Tab W b c d e p k x P acc) (n : Nat) : Tab (W.drewN n) b c d e p k x P acc := h

/-- completeYield, at a PID that names no accepted process. -/
theorem complete_unlisted (W : World) (b c d e p k : Nat) (T : TypeId) (a : Addr) (P Q t : Int) (acc : Bool) (h : Tab W b c d e p k (.iface T (.pointer (some a))) P acc) (hk : k < 1024) (hP : P % 4294967296 = (k : Int) + 1) (hn : acc = false ∨ P ≠ Q) :
    Calls Ybad.prog 5 #[.pointer (some ⟨b, 0, none⟩), .int .u64 Q, .int .u64 t, .nilIface, .nilIface, .pointer none] W fun e w' => e = .returned (.iface T (.pointer (some a))) ∧ w' = W := by
  obtain ⟨hg, h29, h21, hsh, hs, hd, hnil, hkc, hpsh, hpid, hacc⟩ := h
  refine Calls.mono (complete_none b Q t T a W ?_) fun _ _ h => ⟨h.1, h.2.symm⟩
  by_cases ho : 1 ≤ (Q - 1) % 4294967296 / 1024
  · exact lookup_nil b Q _ W h29 hg (get_nil _ Q W (slot_out b 21 c d e Q W h21 hsh hs ho))
  · obtain ⟨j, hj⟩ : ∃ j : Nat, (Q - 1) % 4294967296 = (j : Int) := ⟨((Q - 1) % 4294967296).toNat, by omega⟩
    have hj1 : j < 1024 := by omega
    have hQ : Q % 4294967296 = (j : Int) + 1 := by omega
    have hsl := slot_in b 21 c d e j Q W h21 hsh hs hd hQ hj1
    by_cases hjk : j = k
    · subst hjk
      by_cases hPQ : P = Q
      · subst hPQ
        have hf : acc = false := by rcases hn with h | h; exact h; exact absurd rfl h
        subst hf
        exact lookup_unacc b p P _ W h29 hg hacc (get_hit _ e (2 * j) p P W hsl hkc hpsh hpid)
      · exact lookup_nil b Q _ W h29 hg (get_other _ e (2 * j) p Q P W hsl hkc hpsh hpid hPQ)
    · exact lookup_nil b Q _ W h29 hg (get_miss _ e (2 * j) Q W hsl (hnil j hj1 hjk))
end Go.Proofs.YbulknqgDoor
