/-
  The walk of LawS0708BUnlisted: with one process listed, a PID that names no accepted process is answered with ErrNoProcess.
-/
import Derived.Test.YbulknqgDoorStores
import Derived.Test.YbulknqgDoorEmpty
import Derived.Laws.Bits64b
import Derived.Stop.Walk2
namespace Go.Proofs.YbulknqgDoor
open Go.RowKit
set_option linter.unusedVariables false

/-! ### A new chunk: its 2048 cells stay behind a name. -/
def zeros87 (P : Program) : Array Value := match (P.info? 87).bind (·.zero) with
  | some v => v.cells
  | none => #[]
def pairs (a b : Value) : Nat → List Value
  | 0 => []
  | n + 1 => a :: b :: pairs a b n
theorem pairs_get (a b : Value) : ∀ n i : Nat, i < n → (pairs a b n)[2 * i]? = some a := by
  intro n
  induction n with
  | zero => intro i h; omega
  | succ n ih =>
    intro i h
    cases i with
    | zero => rfl
    | succ i =>
      have e : 2 * (i + 1) = 2 * i + 1 + 1 := by omega
      rw [e]
      exact ih i (by omega)
set_option maxRecDepth 100000 in
theorem zeros_eq : (zeros87 Ybad.prog).toList = pairs (.pointer none) (.int .u64 0) 1024 := by kernel_rfl
theorem zeros_get (i : Nat) (h : i < 1024) : (zeros87 Ybad.prog)[2 * i]? = some (.pointer none) := by
  rw [← Array.getElem?_toList, zeros_eq]
  exact pairs_get _ _ 1024 i h
theorem alloc87 (v : Value) (w : World) : (Instr.alloc 87 true v).run Ybad.prog w = .ok (.pointer (some ⟨w.heap.size, 0, none⟩)) (w.alloc (.cells (zeros87 Ybad.prog) 87)) := by
  obtain ⟨z, hz⟩ := Option.isSome_iff_exists.1 (show ((Ybad.prog.info? 87).bind (·.zero)).isSome = true by kernel_rfl)
  obtain ⟨i, hi, hiz⟩ := Option.bind_eq_some_iff.1 hz
  have e : zeros87 Ybad.prog = z.cells := by simp only [zeros87, hz]
  rw [e]
  simp [Instr.alloc, zeroValue, typeInfo, hi, hiz, newVar, newRow, Result.andThen]

theorem pid_or (hi lo : Int) (h1 : 0 ≤ hi) (h2 : hi < 4294967296) (h3 : 0 ≤ lo) : bits .or .u64 (hi * 4294967296) (1 + lo % 1024) = hi * 4294967296 + (1 + lo % 1024) := by
  obtain ⟨n, rfl⟩ := Int.eq_ofNat_of_zero_le h1
  obtain ⟨m, rfl⟩ := Int.eq_ofNat_of_zero_le h3
  have e1 : (n : Int) * 4294967296 = ((2 ^ 32 * n : Nat) : Int) := by omega
  have e2 : (1 : Int) + (m : Int) % 1024 = ((1 + m % 1024 : Nat) : Int) := by omega
  rw [e1, e2, bits_or_u64_nat _ _ (by omega) (by omega), ← Nat.two_pow_add_eq_or_of_lt (by omega) n]
  omega

theorem shape_setCell (w : World) (a : Addr) (v : Value) (r : Nat) : (w.setCell a v).shape? r = w.shape? r := by
  simp only [World.setCell, World.shape?, Array.getElem?_modify]
  by_cases h : a.block = r
  · subst h
    simp only [if_true]
    cases hb : w.heap[a.block]? with
    | none => rfl
    | some o => cases o <;> simp <;> split <;> simp
  · simp [h]

/-- What the world holds once the process is made, ahead of the table's pointer. -/
def Mid (w W : World) (b k : Nat) (x : Value) (P : Int) (acc : Bool) (pk : Value) : Prop :=
  Below b w W ∧ b + 3 ≤ W.heap.size ∧ W.cell? ⟨0, 0, none⟩ = some x ∧ W.cell? ⟨b, 29, none⟩ = some (.chan none) ∧ W.cell? ⟨b, 21, none⟩ = some (.pointer none) ∧ W.frozen? ⟨b, 21, none⟩ = false ∧
  (∀ i : Nat, i < 1024 → i ≠ k → W.cell? ⟨b + 1, 2 * i, none⟩ = some (.pointer none)) ∧ W.cell? ⟨b + 1, 2 * k, none⟩ = some pk ∧ W.frozen? ⟨b + 1, 2 * k, none⟩ = false ∧
  W.shape? (b + 1 + 1) = some (106, 18) ∧ W.cell? ⟨b + 1 + 1, 15, none⟩ = some (.int .u64 P) ∧ W.cell? ⟨b + 1 + 1, 4, none⟩ = some (.int .u32 (if acc then 1 else 0))

theorem mid_new (w : World) (k : Nat) (hk : k < 1024) (x : Value) (P : Int) (acc : Bool) (A B : Array Value) (u : Value) (hx : w.cell? ⟨0, 0, none⟩ = some x)
    (hA1 : A[21]? = some (.pointer none)) (hA2 : A[29]? = some (.chan none)) (hB0 : B.size = 18) (hB1 : B[15]? = some (.int .u64 P)) (hB2 : B[4]? = some u) :
    Mid w ((((w.alloc (.cells A 71)).alloc (.cells (zeros87 Ybad.prog) 87)).alloc (.cells B 106)).drew.setCell ⟨w.heap.size + 1 + 1, 4, none⟩ (.int .u32 (if acc then 1 else 0))) w.heap.size k x P acc (.pointer none) := by
  have h0 : 0 < w.heap.size := World.block_lt_of_cell? _ _ hx
  have s1 : (w.alloc (.cells A 71)).heap.size = w.heap.size + 1 := by simp
  have s2 : ((w.alloc (.cells A 71)).alloc (.cells (zeros87 Ybad.prog) 87)).heap.size = w.heap.size + 1 + 1 := by simp
  have s3 : (((w.alloc (.cells A 71)).alloc (.cells (zeros87 Ybad.prog) 87)).alloc (.cells B 106)).heap.size = w.heap.size + 1 + 1 + 1 := by simp
  have far : ∀ n i : Nat, n < w.heap.size + 1 + 1 → ((((w.alloc (.cells A 71)).alloc (.cells (zeros87 Ybad.prog) 87)).alloc (.cells B 106)).drew.setCell ⟨w.heap.size + 1 + 1, 4, none⟩ (.int .u32 (if acc then 1 else 0))).cell? ⟨n, i, none⟩ = ((w.alloc (.cells A 71)).alloc (.cells (zeros87 Ybad.prog) 87)).cell? ⟨n, i, none⟩ := fun n i h => by
    rw [World.cell?_setCell_far _ _ _ _ (by show w.heap.size + 1 + 1 ≠ n; omega)]
    exact World.cell?_alloc_past _ _ _ (by rw [s2]; exact h)
  have c21 : ∀ i : Nat, ((w.alloc (.cells A 71)).alloc (.cells (zeros87 Ybad.prog) 87)).cell? ⟨w.heap.size, i, none⟩ = A[i]? := fun i => by
    rw [World.cell?_alloc_past _ _ _ (by rw [s1]; omega), World.cell?_alloc_at _ _ _ _ rfl]
  have cz : ∀ i : Nat, ((w.alloc (.cells A 71)).alloc (.cells (zeros87 Ybad.prog) 87)).cell? ⟨w.heap.size + 1, i, none⟩ = (zeros87 Ybad.prog)[i]? := fun i => by
    rw [World.cell?_alloc_at _ _ _ _ (by rw [s1])]
  have cB : ∀ i : Nat, (((w.alloc (.cells A 71)).alloc (.cells (zeros87 Ybad.prog) 87)).alloc (.cells B 106)).cell? ⟨w.heap.size + 1 + 1, i, none⟩ = B[i]? := fun i => by
    rw [World.cell?_alloc_at _ _ _ _ (by rw [s2])]
  refine ⟨?_, ?_, ?_, ?_, ?_, ?_, fun i hi hne => ?_, ?_, ?_, ?_, ?_, ?_⟩
  · exact (Below.drew ((((Below.refl _ _).alloc (Nat.le_refl _) _).alloc (by rw [s1]; omega) _).alloc (by rw [s2]; omega) _)).setCell (by show w.heap.size ≤ w.heap.size + 1 + 1; omega) _
  · simp
  · rw [far _ _ (by omega), World.cell?_alloc_past _ _ _ (by rw [s1]; omega), World.cell?_alloc_past _ _ _ h0]; exact hx
  · rw [far _ _ (by omega), c21]; exact hA2
  · rw [far _ _ (by omega), c21]; exact hA1
  · rw [World.frozen?_setCell]
    show (((w.alloc (.cells A 71)).alloc (.cells (zeros87 Ybad.prog) 87)).alloc (.cells B 106)).frozen? _ = false
    rw [World.frozen?_alloc_past _ _ _ (by rw [s2]; omega), World.frozen?_alloc_past _ _ _ (by rw [s1]; omega), World.frozen?_alloc_at _ _ _ _ rfl]
  · rw [far _ _ (by omega), cz]; exact zeros_get i hi
  · rw [far _ _ (by omega), cz]; exact zeros_get k hk
  · rw [World.frozen?_setCell]
    show (((w.alloc (.cells A 71)).alloc (.cells (zeros87 Ybad.prog) 87)).alloc (.cells B 106)).frozen? _ = false
    rw [World.frozen?_alloc_past _ _ _ (by rw [s2]; omega), World.frozen?_alloc_at _ _ _ _ (by rw [s1])]
  · rw [shape_setCell]
    show (((w.alloc (.cells A 71)).alloc (.cells (zeros87 Ybad.prog) 87)).alloc (.cells B 106)).shape? _ = _
    rw [World.shape?_alloc_at _ _ _ (by rw [s2]), hB0]
  · rw [World.cell?_setCell_other _ _ _ _ (by intro h; cases h)]
    show (((w.alloc (.cells A 71)).alloc (.cells (zeros87 Ybad.prog) 87)).alloc (.cells B 106)).cell? _ = _
    rw [cB]; exact hB1
  · refine World.cell?_setCell_same' _ _ _ ?_
    show ((((w.alloc (.cells A 71)).alloc (.cells (zeros87 Ybad.prog) 87)).alloc (.cells B 106)).cell? _).isSome = true
    rw [cB, hB2]; rfl

theorem mid_store {w W : World} {b k : Nat} {x : Value} {P : Int} {acc : Bool} {pk : Value} (h : Mid w W b k x P acc pk) (hb : 0 < b) (pk' : Value) : Mid w (W.setCell ⟨b + 1, 2 * k, none⟩ pk') b k x P acc pk' := by
  obtain ⟨m1, m2, m3, m4, m5, m6, m7, m8, m9, m10, m11, m12⟩ := h
  have far : ∀ n i : Nat, n ≠ b + 1 → (W.setCell ⟨b + 1, 2 * k, none⟩ pk').cell? ⟨n, i, none⟩ = W.cell? ⟨n, i, none⟩ := fun n i hn =>
    World.cell?_setCell_far _ _ _ _ (by show b + 1 ≠ n; omega)
  refine ⟨m1.setCell (by show b ≤ b + 1; omega) _, by simpa using m2, ?_, ?_, ?_, ?_, fun i hi hne => ?_, ?_, ?_, ?_, ?_, ?_⟩
  · rw [far _ _ (by omega)]; exact m3
  · rw [far _ _ (by omega)]; exact m4
  · rw [far _ _ (by omega)]; exact m5
  · rw [World.frozen?_setCell]; exact m6
  · rw [World.cell?_setCell_other _ _ _ _ (by intro h; injection h with _ h2 _; omega)]; exact m7 i hi hne
  · exact World.cell?_setCell_same' _ _ _ (by rw [m8]; rfl)
  · rw [World.frozen?_setCell]; exact m9
  · rw [shape_setCell]; exact m10
  · rw [far _ _ (by omega)]; exact m11
  · rw [far _ _ (by omega)]; exact m12

theorem tab_of_mid {w W : World} {b k : Nat} {x : Value} {P : Int} {acc : Bool} (h : Mid w W b k x P acc (.pointer (some ⟨b + 1 + 1, 0, none⟩))) (hb : 0 < b) :
    Tab (((W.alloc (.cells #[.pointer (some ⟨b + 1, 0, none⟩)] 79)).alloc (.cells #[.slice (some ⟨W.heap.size, 0, none⟩) 1 1] 109)).setCell ⟨b, 21, none⟩ (.pointer (some ⟨W.heap.size + 1, 0, none⟩))) b (W.heap.size + 1) W.heap.size (b + 1) (b + 1 + 1) k x P acc ∧
    Below b w (((W.alloc (.cells #[.pointer (some ⟨b + 1, 0, none⟩)] 79)).alloc (.cells #[.slice (some ⟨W.heap.size, 0, none⟩) 1 1] 109)).setCell ⟨b, 21, none⟩ (.pointer (some ⟨W.heap.size + 1, 0, none⟩))) := by
  obtain ⟨m1, m2, m3, m4, m5, m6, m7, m8, m9, m10, m11, m12⟩ := h
  have s1 : (W.alloc (.cells #[.pointer (some ⟨b + 1, 0, none⟩)] 79)).heap.size = W.heap.size + 1 := by simp
  have old : ∀ n i : Nat, n < W.heap.size → ((W.alloc (.cells #[.pointer (some ⟨b + 1, 0, none⟩)] 79)).alloc (.cells #[.slice (some ⟨W.heap.size, 0, none⟩) 1 1] 109)).cell? ⟨n, i, none⟩ = W.cell? ⟨n, i, none⟩ := fun n i h => by
    rw [World.cell?_alloc_past _ _ _ (by rw [s1]; omega), World.cell?_alloc_past _ _ _ h]
  have far : ∀ n i : Nat, n ≠ b → (((W.alloc (.cells #[.pointer (some ⟨b + 1, 0, none⟩)] 79)).alloc (.cells #[.slice (some ⟨W.heap.size, 0, none⟩) 1 1] 109)).setCell ⟨b, 21, none⟩ (.pointer (some ⟨W.heap.size + 1, 0, none⟩))).cell? ⟨n, i, none⟩ = ((W.alloc (.cells #[.pointer (some ⟨b + 1, 0, none⟩)] 79)).alloc (.cells #[.slice (some ⟨W.heap.size, 0, none⟩) 1 1] 109)).cell? ⟨n, i, none⟩ := fun n i hn =>
    World.cell?_setCell_far _ _ _ _ (by show b ≠ n; omega)
  refine ⟨⟨?_, ?_, ?_, ?_, ?_, ?_, fun i hi hne => ?_, ?_, ?_, ?_, ?_⟩, ?_⟩
  · rw [far _ _ (by omega), old _ _ (by omega)]; exact m3
  · rw [World.cell?_setCell_other _ _ _ _ (by intro h; cases h), old _ _ (by omega)]; exact m4
  · exact World.cell?_setCell_same' _ _ _ (by rw [old _ _ (by omega), m5]; rfl)
  · rw [shape_setCell, World.shape?_alloc_at _ _ _ (by rw [s1])]; rfl
  · rw [far _ _ (by omega), World.cell?_alloc_at _ _ _ _ (by rw [s1])]; rfl
  · rw [far _ _ (by omega), World.cell?_alloc_past _ _ _ (by rw [s1]; omega), World.cell?_alloc_at _ _ _ _ rfl]; rfl
  · rw [far _ _ (by omega), old _ _ (by omega)]; exact m7 i hi hne
  · rw [far _ _ (by omega), old _ _ (by omega)]; exact m8
  · rw [shape_setCell, World.shape?_alloc_past _ _ (by rw [s1]; omega), World.shape?_alloc_past _ _ (by omega)]; exact m10
  · rw [far _ _ (by omega), old _ _ (by omega)]; exact m11
  · rw [far _ _ (by omega), old _ _ (by omega)]; exact m12
  · exact ((m1.alloc (by omega) _).alloc (by rw [s1]; omega) _).setCell (Nat.le_refl _) _

set_option maxHeartbeats 4000000 in
set_option maxRecDepth 20000 in
theorem unlisted_ff (hi lo q t : Int) (a : Addr) (w : World) (hg : w.cell? ⟨0, 0, none⟩ = some (.iface 188 (.pointer (some a)))) (h1 : 0 ≤ hi) (h2 : hi < 4294967296) (h3 : 0 ≤ lo) (h4 : lo < 65536) :
    Calls Ybad.prog 4 #[.int .u32 hi, .int .u16 lo, .int .u64 q, .bool false, .bool false, .int .u64 t] w fun e w' => e = .returned (.bool true) ∧ Below w.heap.size w w' := by
  have he := eql73 a
  have hal := alloc87 (.tuple #[])
  have hb : 0 < w.heap.size := World.block_lt_of_cell? _ _ hg
  go_enter Ybad.func4, Ybad.ntmps4
  go_wp2_with fail
  obtain ⟨k, hk⟩ : ∃ k : Nat, lo % 1024 = (k : Int) := ⟨(lo % 1024).toNat, by omega⟩
  have hk1 : k < 1024 := by omega
  have hP : (bits .or .u64 (hi * 4294967296) (1 + lo % 1024)) % 4294967296 = (k : Int) + 1 := by rw [pid_or hi lo h1 h2 h3]; omega
  generalize bits .or .u64 (hi * 4294967296) (1 + lo % 1024) = P at hP ⊢
  refine (bool_store _ 4 0 _ _ ?_ ?_).mono ?_
  · simp [go_sem]
  · simp [go_sem]
  rintro e w3 ⟨rfl, hw⟩
  have hM : Mid w w3 w.heap.size k (.iface 188 (.pointer (some a))) P false (.pointer none) := by
    rw [hw]
    exact mid_new w k hk1 _ P false _ _ _ hg rfl rfl rfl rfl rfl
  clear hw hk
  have hix := idx87 (w.heap.size + 1) k .u32 hk1
  go_wp2_with fail
  refine (proc_store _ _ _ (.pointer none) _ ?_ ?_ ?_).mono ?_
  · exact hM.2.2.2.2.2.2.2.1
  · exact hM.2.2.2.2.2.2.2.2.1
  · exact hM.2.2.2.2.2.2.2.2.2.1
  rintro e w4 ⟨rfl, hw⟩
  have hM4 : Mid w w4 w.heap.size k (.iface 188 (.pointer (some a))) P false (.pointer (some ⟨w.heap.size + 1 + 1, 0, none⟩)) := by
    rw [hw]
    exact mid_store hM hb _
  clear hw hM
  go_wp2_with fail
  have hs4 := hM4.2.1
  refine (chunks_store _ _ _ (.pointer none) _ ?_ ?_ ?_).mono ?_
  · rw [World.cell?_alloc_past _ _ _ (by simp; omega), World.cell?_alloc_past _ _ _ (by omega)]; exact hM4.2.2.2.2.1
  · rw [World.frozen?_alloc_past _ _ _ (by simp; omega), World.frozen?_alloc_past _ _ _ (by omega)]; exact hM4.2.2.2.2.2.1
  · rw [World.shape?_alloc_at _ _ _ (by simp)]; rfl
  rintro e W ⟨rfl, hw⟩
  obtain ⟨hT, hB⟩ := tab_of_mid hM4 hb
  rw [← hw] at hT hB
  clear hw hM4
  have hl : ∀ n : Nat, Calls Ybad.prog 5 #[.pointer (some ⟨w.heap.size, 0, none⟩), .int .u64 q, .int .u64 t, .nilIface, .nilIface, .pointer none] (W.drewN n) fun e w' => e = .returned (.iface 188 (.pointer (some a))) ∧ w' = W.drewN n := fun n =>
    complete_unlisted (W.drewN n) _ _ _ _ _ k 188 a P q t false (hT.drewN n) hk1 hP (Or.inl rfl)
  have hg' : W.cell? ⟨0, 0, none⟩ = some (.iface 188 (.pointer (some a))) := hT.1
  go_wp2_with fail
  go_quiet ((go_at_call 5; refine Calls.quiet_of_same (hl _)))
  go_wp2
  go_ret
  exact ⟨rfl, below_drewN hB _⟩
set_option maxHeartbeats 4000000 in
set_option maxRecDepth 20000 in
theorem unlisted_tf (hi lo q t : Int) (a : Addr) (w : World) (hg : w.cell? ⟨0, 0, none⟩ = some (.iface 188 (.pointer (some a)))) (h1 : 0 ≤ hi) (h2 : hi < 4294967296) (h3 : 0 ≤ lo) (h4 : lo < 65536) :
    Calls Ybad.prog 4 #[.int .u32 hi, .int .u16 lo, .int .u64 q, .bool true, .bool false, .int .u64 t] w fun e w' => e = .returned (.bool true) ∧ Below w.heap.size w w' := by
  have he := eql73 a
  have hal := alloc87 (.tuple #[])
  have hb : 0 < w.heap.size := World.block_lt_of_cell? _ _ hg
  go_enter Ybad.func4, Ybad.ntmps4
  go_wp2_with fail
  obtain ⟨k, hk⟩ : ∃ k : Nat, lo % 1024 = (k : Int) := ⟨(lo % 1024).toNat, by omega⟩
  have hk1 : k < 1024 := by omega
  have hP : (bits .or .u64 (hi * 4294967296) (1 + lo % 1024)) % 4294967296 = (k : Int) + 1 := by rw [pid_or hi lo h1 h2 h3]; omega
  generalize bits .or .u64 (hi * 4294967296) (1 + lo % 1024) = P at hP ⊢
  refine (bool_store _ 4 0 _ _ ?_ ?_).mono ?_
  · simp [go_sem]
  · simp [go_sem]
  rintro e w3 ⟨rfl, hw⟩
  have hM : Mid w w3 w.heap.size k (.iface 188 (.pointer (some a))) P false (.pointer none) := by
    rw [hw]
    exact mid_new w k hk1 _ P false _ _ _ hg rfl rfl rfl rfl rfl
  clear hw hk
  have hix := idx87 (w.heap.size + 1) k .u32 hk1
  go_wp2_with fail
  refine (proc_store _ _ _ (.pointer none) _ ?_ ?_ ?_).mono ?_
  · exact hM.2.2.2.2.2.2.2.1
  · exact hM.2.2.2.2.2.2.2.2.1
  · exact hM.2.2.2.2.2.2.2.2.2.1
  rintro e w4 ⟨rfl, hw⟩
  have hM4 : Mid w w4 w.heap.size k (.iface 188 (.pointer (some a))) P false (.pointer (some ⟨w.heap.size + 1 + 1, 0, none⟩)) := by
    rw [hw]
    exact mid_store hM hb _
  clear hw hM
  go_wp2_with fail
  have hs4 := hM4.2.1
  refine (chunks_store _ _ _ (.pointer none) _ ?_ ?_ ?_).mono ?_
  · rw [World.cell?_alloc_past _ _ _ (by simp; omega), World.cell?_alloc_past _ _ _ (by omega)]; exact hM4.2.2.2.2.1
  · rw [World.frozen?_alloc_past _ _ _ (by simp; omega), World.frozen?_alloc_past _ _ _ (by omega)]; exact hM4.2.2.2.2.2.1
  · rw [World.shape?_alloc_at _ _ _ (by simp)]; rfl
  rintro e W ⟨rfl, hw⟩
  obtain ⟨hT, hB⟩ := tab_of_mid hM4 hb
  rw [← hw] at hT hB
  clear hw hM4
  have hl : ∀ n : Nat, Calls Ybad.prog 5 #[.pointer (some ⟨w.heap.size, 0, none⟩), .int .u64 P, .int .u64 t, .nilIface, .nilIface, .pointer none] (W.drewN n) fun e w' => e = .returned (.iface 188 (.pointer (some a))) ∧ w' = W.drewN n := fun n =>
    complete_unlisted (W.drewN n) _ _ _ _ _ k 188 a P P t false (hT.drewN n) hk1 hP (Or.inl rfl)
  have hg' : W.cell? ⟨0, 0, none⟩ = some (.iface 188 (.pointer (some a))) := hT.1
  go_wp2_with fail
  go_quiet ((go_at_call 5; refine Calls.quiet_of_same (hl _)))
  go_wp2
  go_ret
  exact ⟨rfl, below_drewN hB _⟩
set_option maxHeartbeats 4000000 in
set_option maxRecDepth 20000 in
theorem unlisted_ft (hi lo q t : Int) (a : Addr) (w : World) (hg : w.cell? ⟨0, 0, none⟩ = some (.iface 188 (.pointer (some a)))) (h1 : 0 ≤ hi) (h2 : hi < 4294967296) (h3 : 0 ≤ lo) (h4 : lo < 65536) (hne : q ≠ bits .or .u64 (hi * 4294967296) (1 + lo % 1024)) :
    Calls Ybad.prog 4 #[.int .u32 hi, .int .u16 lo, .int .u64 q, .bool false, .bool true, .int .u64 t] w fun e w' => e = .returned (.bool true) ∧ Below w.heap.size w w' := by
  have he := eql73 a
  have hal := alloc87 (.tuple #[])
  have hb : 0 < w.heap.size := World.block_lt_of_cell? _ _ hg
  go_enter Ybad.func4, Ybad.ntmps4
  go_wp2_with fail
  obtain ⟨k, hk⟩ : ∃ k : Nat, lo % 1024 = (k : Int) := ⟨(lo % 1024).toNat, by omega⟩
  have hk1 : k < 1024 := by omega
  have hP : (bits .or .u64 (hi * 4294967296) (1 + lo % 1024)) % 4294967296 = (k : Int) + 1 := by rw [pid_or hi lo h1 h2 h3]; omega
  generalize bits .or .u64 (hi * 4294967296) (1 + lo % 1024) = P at hP hne ⊢
  refine (bool_store _ 4 0 _ _ ?_ ?_).mono ?_
  · simp [go_sem]
  · simp [go_sem]
  rintro e w3 ⟨rfl, hw⟩
  have hM : Mid w w3 w.heap.size k (.iface 188 (.pointer (some a))) P true (.pointer none) := by
    rw [hw]
    exact mid_new w k hk1 _ P true _ _ _ hg rfl rfl rfl rfl rfl
  clear hw hk
  have hix := idx87 (w.heap.size + 1) k .u32 hk1
  go_wp2_with fail
  refine (proc_store _ _ _ (.pointer none) _ ?_ ?_ ?_).mono ?_
  · exact hM.2.2.2.2.2.2.2.1
  · exact hM.2.2.2.2.2.2.2.2.1
  · exact hM.2.2.2.2.2.2.2.2.2.1
  rintro e w4 ⟨rfl, hw⟩
  have hM4 : Mid w w4 w.heap.size k (.iface 188 (.pointer (some a))) P true (.pointer (some ⟨w.heap.size + 1 + 1, 0, none⟩)) := by
    rw [hw]
    exact mid_store hM hb _
  clear hw hM
  go_wp2_with fail
  have hs4 := hM4.2.1
  refine (chunks_store _ _ _ (.pointer none) _ ?_ ?_ ?_).mono ?_
  · rw [World.cell?_alloc_past _ _ _ (by simp; omega), World.cell?_alloc_past _ _ _ (by omega)]; exact hM4.2.2.2.2.1
  · rw [World.frozen?_alloc_past _ _ _ (by simp; omega), World.frozen?_alloc_past _ _ _ (by omega)]; exact hM4.2.2.2.2.2.1
  · rw [World.shape?_alloc_at _ _ _ (by simp)]; rfl
  rintro e W ⟨rfl, hw⟩
  obtain ⟨hT, hB⟩ := tab_of_mid hM4 hb
  rw [← hw] at hT hB
  clear hw hM4
  have hl : ∀ n : Nat, Calls Ybad.prog 5 #[.pointer (some ⟨w.heap.size, 0, none⟩), .int .u64 q, .int .u64 t, .nilIface, .nilIface, .pointer none] (W.drewN n) fun e w' => e = .returned (.iface 188 (.pointer (some a))) ∧ w' = W.drewN n := fun n =>
    complete_unlisted (W.drewN n) _ _ _ _ _ k 188 a P q t true (hT.drewN n) hk1 hP (Or.inr (Ne.symm hne))
  have hg' : W.cell? ⟨0, 0, none⟩ = some (.iface 188 (.pointer (some a))) := hT.1
  go_wp2_with fail
  go_quiet ((go_at_call 5; refine Calls.quiet_of_same (hl _)))
  go_wp2
  go_ret
  exact ⟨rfl, below_drewN hB _⟩
theorem unlisted_tt (hi lo q t : Int) (w : World) (h1 : 0 ≤ hi) (h2 : hi < 4294967296) (h3 : 0 ≤ lo) (h4 : lo < 65536) :
    Calls Ybad.prog 4 #[.int .u32 hi, .int .u16 lo, .int .u64 q, .bool true, .bool true, .int .u64 t] w fun e w' => e = .returned (.bool true) ∧ Below w.heap.size w w' := by
  go_enter Ybad.func4, Ybad.ntmps4
  go_wp2
  go_ret
  exact ⟨rfl, Below.refl _ _⟩
theorem unlisted_fe (hi lo t : Int) (w : World) (h1 : 0 ≤ hi) (h2 : hi < 4294967296) (h3 : 0 ≤ lo) (h4 : lo < 65536) :
    Calls Ybad.prog 4 #[.int .u32 hi, .int .u16 lo, .int .u64 (bits .or .u64 (hi * 4294967296) (1 + lo % 1024)), .bool false, .bool true, .int .u64 t] w fun e w' => e = .returned (.bool true) ∧ Below w.heap.size w w' := by
  go_enter Ybad.func4, Ybad.ntmps4
  go_wp2
  go_ret
  exact ⟨rfl, Below.refl _ _⟩
theorem unlisted_any (hi lo q t : Int) (same acc : Bool) (a : Addr) (w : World) (hg : w.cell? ⟨0, 0, none⟩ = some (.iface 188 (.pointer (some a)))) (h1 : 0 ≤ hi) (h2 : hi < 4294967296) (h3 : 0 ≤ lo) (h4 : lo < 65536) :
    Calls Ybad.prog 4 #[.int .u32 hi, .int .u16 lo, .int .u64 q, .bool same, .bool acc, .int .u64 t] w fun e w' => e = .returned (.bool true) ∧ Below w.heap.size w w' := by
  cases same <;> cases acc
  · exact unlisted_ff hi lo q t a w hg h1 h2 h3 h4
  · by_cases hq : q = bits .or .u64 (hi * 4294967296) (1 + lo % 1024)
    · subst hq
      exact unlisted_fe hi lo t w h1 h2 h3 h4
    · exact unlisted_ft hi lo q t a w hg h1 h2 h3 h4 hq
  · exact unlisted_tf hi lo q t a w hg h1 h2 h3 h4
  · exact unlisted_tt hi lo q t w h1 h2 h3 h4
end Go.Proofs.YbulknqgDoor
