/-
  The deque's memory, as a predicate on worlds, and what each step does to it: no Go in sight.
-/
import Derived.Test.YbulknqgNew
namespace Go.Proofs.Ybulknqg
open Go.RowKit
set_option linter.unusedVariables false

/-- A ring's number of slots: a power of two between 32 and 2048. -/
def Pow (n : Nat) : Prop := ∃ k, 5 ≤ k ∧ k ≤ 11 ∧ n = 2 ^ k
theorem Pow.lo {n : Nat} (h : Pow n) : 32 ≤ n := by
  obtain ⟨k, h1, h2, rfl⟩ := h
  exact Nat.pow_le_pow_right (n := 2) (by decide) h1
theorem Pow.hi {n : Nat} (h : Pow n) : n ≤ 2048 := by
  obtain ⟨k, h1, h2, rfl⟩ := h
  exact Nat.pow_le_pow_right (n := 2) (by decide) h2
theorem Pow.double {n : Nat} (h : Pow n) (hn : n < 2048) : Pow (2 * n) := by
  obtain ⟨k, h1, h2, rfl⟩ := h
  have : k < 11 := by
    rcases Nat.lt_or_ge k 11 with h | h
    · exact h
    · have := Nat.pow_le_pow_right (n := 2) (by decide) h; omega
  exact ⟨k + 1, by omega, by omega, by rw [Nat.pow_succ]; omega⟩
theorem Pow.first : Pow 32 := ⟨5, by decide, by decide, rfl⟩
/-- 'i & mask' at an index within the ring. -/
theorem Pow.mask {n : Nat} (h : Pow n) (i : Nat) (hi : i < n) : bits .and .u32 (i : Int) ((n : Int) - 1) = i := by
  have h1 := h.lo
  have h2 := h.hi
  rw [u32_and _ _ (by omega) (by omega) (by omega) (by omega)]
  obtain ⟨k, _, _, rfl⟩ := h
  have e : (((2 ^ k : Nat) : Int) - 1).toNat = 2 ^ k - 1 := by omega
  rw [e, Int.toNat_natCast, Nat.and_two_pow_sub_one_eq_mod, Nat.mod_eq_of_lt hi]

/-- The deque in the worker's block wb, its ring rb, its slots sb, n of them: the items of the indices from t on are l's. -/
def Dq (wb rb sb n : Nat) (w : World) (t : Nat) (l : List Nat) : Prop :=
  Pow n ∧ l.length ≤ n ∧ t ≤ l.length ∧ RingBlk w rb sb n ∧ wb ≠ rb ∧ wb ≠ sb ∧ rb ≠ sb ∧
  (∃ top : Int, 0 ≤ top ∧ top < 18446744073709551616 ∧ top % 4294967296 = t ∧ w.cell? ⟨wb, 2, none⟩ = some (.int .u64 top)) ∧
  w.cell? ⟨wb, 3, none⟩ = some (.int .u32 l.length) ∧ w.cell? ⟨wb, 4, none⟩ = some (.pointer (some ⟨rb, 0, none⟩)) ∧
  (∃ h : Int, 0 ≤ h ∧ h < 4294967296 ∧ w.cell? ⟨wb, 5, none⟩ = some (.int .u32 h)) ∧
  (∀ o, w.frozen? ⟨wb, o, none⟩ = false) ∧ (∀ i, w.frozen? ⟨sb, i, none⟩ = false) ∧ (∀ i, i < n → ∃ x, w.cell? ⟨sb, i, none⟩ = some (.pointer x)) ∧
  ∀ i p, t ≤ i → l[i]? = some p → w.cell? ⟨sb, i, none⟩ = some (.pointer (some ⟨p, 0, none⟩))

/-- The zero deque. -/
def Dq0 (wb : Nat) (w : World) : Prop :=
  w.cell? ⟨wb, 2, none⟩ = some (.int .u64 0) ∧ w.cell? ⟨wb, 3, none⟩ = some (.int .u32 0) ∧ w.cell? ⟨wb, 4, none⟩ = some (.pointer none) ∧ w.cell? ⟨wb, 5, none⟩ = some (.int .u32 0) ∧ ∀ o, w.frozen? ⟨wb, o, none⟩ = false

/-- What the deque's calls leave alone: the blocks of S are as in WR; so are the streams. -/
def Keep (WR : World) (S : Nat → Prop) (wb : Nat) (w : World) : Prop :=
  w.os = WR.os ∧ w.tape = WR.tape ∧ w.output = WR.output ∧ WR.heap.size ≤ w.heap.size ∧ ∀ j, S j → j < WR.heap.size ∧ j ≠ wb ∧ w.heap[j]? = WR.heap[j]?

theorem Keep.drew {WR : World} {S : Nat → Prop} {wb : Nat} {w : World} (h : Keep WR S wb w) : Keep WR S wb w.drew := h
theorem Keep.drewN {WR : World} {S : Nat → Prop} {wb : Nat} {w : World} (h : Keep WR S wb w) (n : Nat) : Keep WR S wb (w.drewN n) := h
theorem Keep.set {WR : World} {S : Nat → Prop} {wb : Nat} {w : World} (h : Keep WR S wb w) (b o : Nat) (v : Value) (hb : ¬ S b) : Keep WR S wb (w.setCell ⟨b, o, none⟩ v) := by
  obtain ⟨h1, h2, h3, h4, h5⟩ := h
  refine ⟨h1, h2, h3, by simpa [World.setCell] using h4, fun j hj => ?_⟩
  obtain ⟨a1, a2, a3⟩ := h5 j hj
  refine ⟨a1, a2, ?_⟩
  rw [Below.heap_setCell _ _ _ _ (fun e : j = b => hb (e ▸ hj))]
  exact a3
theorem Keep.alloc {WR : World} {S : Nat → Prop} {wb : Nat} {w : World} (h : Keep WR S wb w) (o : Obj) : Keep WR S wb (w.alloc o) := by
  obtain ⟨h1, h2, h3, h4, h5⟩ := h
  refine ⟨h1, h2, h3, by simp; omega, fun j hj => ?_⟩
  obtain ⟨a1, a2, a3⟩ := h5 j hj
  exact ⟨a1, a2, by rw [Below.heap_alloc _ _ _ (by omega)]; exact a3⟩
theorem Keep.proc {WR : World} {S : Nat → Prop} {wb : Nat} {w : World} (h : Keep WR S wb w) {p : Nat} (hs : S p) (hp : Proc WR p) : Proc w p := hp.of_block (h.2.2.2.2 p hs).2.2
theorem Keep.cell {WR : World} {S : Nat → Prop} {wb : Nat} {w : World} (h : Keep WR S wb w) {b o : Nat} (hs : S b) : w.cell? ⟨b, o, none⟩ = WR.cell? ⟨b, o, none⟩ := World.cell?_of_block (w := WR) (h.2.2.2.2 b hs).2.2

/-- The deque's whole state. -/
def Q (WR : World) (S : Nat → Prop) (wb : Nat) (w : World) (t : Nat) (l : List Nat) : Prop :=
  Keep WR S wb w ∧ ¬ S wb ∧ (∀ p, p ∈ l → S p ∧ Proc WR p) ∧ ((t = 0 ∧ l = [] ∧ Dq0 wb w) ∨ ∃ rb sb n, Dq wb rb sb n w t l ∧ ¬ S rb ∧ ¬ S sb)
end Go.Proofs.Ybulknqg
