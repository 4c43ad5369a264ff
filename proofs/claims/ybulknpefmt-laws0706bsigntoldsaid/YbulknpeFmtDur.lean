import Derived.Test.YbulknpeFmtRows
import Derived.WalkKit
import Derived.WalkSpells
import Derived.WalkLawsBesides
import Derived.Laws.BytesArg
import Derived.RowKit3
namespace Go.Proofs.YbulknpeFmt
open Go.RowKit
set_option linter.unusedVariables false

/-! ### The buffer of (time.Duration).String: block b holds 32 bytes. -/
def Buf (b : Nat) (w : World) : Prop := b < w.heap.size ∧ (∀ i, i < 32 → ∃ x : Int, 0 ≤ x ∧ x < 256 ∧ w.cell? ⟨b, i, none⟩ = some (.int .u8 x)) ∧ ∀ i, i < 32 → w.frozen? ⟨b, i, none⟩ = false
theorem Buf.cell {b : Nat} {w : World} (h : Buf b w) (i : Nat) (hi : i < 32) : ∃ x : Int, w.cell? ⟨b, i, none⟩ = some (.int .u8 x) := by
  obtain ⟨x, _, _, hx⟩ := h.2.1 i hi
  exact ⟨x, hx⟩
theorem Buf.set {b : Nat} {w : World} (h : Buf b w) (i : Nat) (hi : i < 32) (y : Int) (h0 : 0 ≤ y) (h1 : y < 256) : Buf b (w.setCell ⟨b, i, none⟩ (.int .u8 y)) := by
  obtain ⟨hs, hc, hf⟩ := h
  refine ⟨by simpa [World.setCell] using hs, fun j hj => ?_, fun j hj => by rw [World.frozen?_setCell]; exact hf j hj⟩
  by_cases e : j = i
  · subst e
    obtain ⟨x, _, _, hx⟩ := hc j hj
    exact ⟨y, h0, h1, by simp [go_sem, hx]⟩
  · obtain ⟨x, a0, a1, hx⟩ := hc j hj
    refine ⟨x, a0, a1, ?_⟩
    rw [World.cell?_setCell_other _ _ _ _ (by simp)]
    exact hx

theorem below_set {b : Nat} {w w' : World} (h : Below b w w') (i : Nat) (y : Value) : Below b w (w'.setCell ⟨b, i, none⟩ y) := h.setCell (Nat.le_refl _) _

theorem pow_step (m : Nat) (v : Int) (h : v < 10 ^ m) (h0 : 0 < v) : ∃ m', m = m' + 1 ∧ v / 10 < 10 ^ m' := by
  cases m with
  | zero => simp at h; omega
  | succ m' => exact ⟨m', rfl, by rw [Int.pow_succ] at h; omega⟩

set_option maxHeartbeats 400000 in
theorem fmtInt_any (b L n : Nat) (v : Int) (w : World) (hB : Buf b w) (h0 : 0 ≤ v) (h1 : v < 18446744073709551616) (hv : v < 10 ^ n) (hn : 1 ≤ n) (hL : n ≤ L) (hL2 : L ≤ 32) :
    Calls Ybaf.prog 16 #[.slice (some ⟨b, 0, none⟩) L 32, .int .u64 v] w fun e w' => ∃ r : Nat, e = .returned (.int .i64 r) ∧ L ≤ r + n ∧ r ≤ L ∧ Buf b w' ∧ Below b w w' := by
  by_cases hz : v = 0
  · subst hz
    have hz' : ((0 : Int) == 0) = true := rfl
    obtain ⟨L', rfl⟩ : ∃ L', L = L' + 1 := ⟨L - 1, by omega⟩
    obtain ⟨x, hc⟩ := hB.cell L' (by omega)
    have hf := hB.2.2 L' (by omega)
    go_enter Ybaf.func16, Ybaf.ntmps16
    go_wp2
    go_ret
    exact ⟨L', rfl, by omega, by omega, hB.set L' (by omega) 48 (by omega) (by omega), below_set (Below.refl b w) _ _⟩
  · have hz' : (v == 0) = false := by simpa using hz
    go_enter Ybaf.func16, Ybaf.ntmps16
    go_wp2
    go_loopw [1, 5] (fun s1 s5 wr => ∃ (u : Int) (m r : Nat), s1 = .int .u64 u ∧ s5 = .int .i64 r ∧ 0 ≤ u ∧ u < 18446744073709551616 ∧ u < 10 ^ m ∧ L + m ≤ r + n ∧ r ≤ L ∧ Buf b wr ∧ Below b w wr) (fun s1 _ _ => (intOf s1).toNat)
    case atStart => exact ⟨v, n, L, rfl, rfl, h0, h1, hv, by omega, by omega, hB, Below.refl _ _⟩
    case round =>
      obtain ⟨u, m, r, rfl, rfl, u0, u1, um, hr, hr2, hB2, hb2⟩ := hrel
      by_cases hu : 0 < u
      · obtain ⟨m', rfl, hm'⟩ := pow_step m u um hu
        obtain ⟨r', rfl⟩ : ∃ r', r = r' + 1 := ⟨r - 1, by omega⟩
        obtain ⟨x, hc⟩ := hB2.cell r' (by omega)
        have hf := hB2.2.2 r' (by omega)
        have Hm : Hid _ := hm'
        clear hm' um hv hB hz'
        go_wp2
        exact ⟨⟨u / 10, m', r', rfl, rfl, by omega, by omega, Hm.out, by omega, by omega, hB2.set r' (by omega) _ (by omega) (by omega), below_set hb2 _ _⟩, by simp [intOf]; omega⟩
      · go_wp2
        go_ret
        exact ⟨r, rfl, by omega, by omega, hB2, hb2⟩

theorem div_pow_step (v : Int) (i : Nat) : v / 10 ^ i / 10 = v / 10 ^ (i + 1) := by
  rw [Int.pow_succ, ← Int.ediv_ediv_of_nonneg (by exact Int.le_of_lt (Int.pow_pos (by omega)))]

set_option maxHeartbeats 400000 in
theorem fmtFrac_any (b L p : Nat) (v : Int) (w : World) (hB : Buf b w) (h0 : 0 ≤ v) (h1 : v < 18446744073709551616) (hp : p ≤ 9) (hL : p + 1 ≤ L) (hL2 : L ≤ 32) :
    Calls Ybaf.prog 15 #[.slice (some ⟨b, 0, none⟩) L 32, .int .u64 v, .int .i64 p] w fun e w' => ∃ r : Nat, e = .returned (.tuple #[.int .i64 r, .int .u64 (v / 10 ^ p)]) ∧ L ≤ r + p + 1 ∧ r ≤ L ∧ Buf b w' ∧ Below b w w' := by
  go_enter Ybaf.func15, Ybaf.ntmps15
  go_wp2
  go_loopw [1, 8, 9, 10, 11] (fun s1 s8 s9 s10 s11 wr => ∃ (u : Int) (i r : Nat) (pr : Bool), s1 = .int .u64 u ∧ s8 = .int .i64 r ∧ s9 = .bool pr ∧ s10 = .int .i64 i ∧ 0 ≤ u ∧ u < 18446744073709551616 ∧ Hid (u = v / 10 ^ i) ∧ i ≤ p ∧ L ≤ r + i ∧ r ≤ L ∧ Buf b wr ∧ Below b w wr) (fun _ _ _ s10 _ _ => p - (intOf s10).toNat)
  case atStart => exact ⟨v, 0, L, false, rfl, rfl, rfl, rfl, h0, h1, by simp [Hid], by omega, by omega, by omega, hB, Below.refl _ _⟩
  case round =>
    obtain ⟨u, i, r, pr, rfl, rfl, rfl, rfl, u0, u1, hu, hi, hr, hr2, hB2, hb2⟩ := hrel
    by_cases hlt : i < p
    · obtain ⟨r', rfl⟩ : ∃ r', r = r' + 1 := ⟨r - 1, by omega⟩
      obtain ⟨x, hc⟩ := hB2.cell r' (by omega)
      have hf := hB2.2.2 r' (by omega)
      have Hu : Hid (u / 10 = v / 10 ^ (i + 1)) := by rw [hu.out]; exact div_pow_step v i
      cases pr
      · by_cases hd : u % 10 = 0
        · go_wp2
          exact ⟨⟨u / 10, i + 1, r' + 1, false, rfl, rfl, rfl, by go_num, by omega, by omega, Hu, by omega, by omega, by omega, hB2, hb2⟩, by simp [intOf]; omega⟩
        · have hd' : (u % 10 != 0) = true := by simpa using hd
          go_wp2
          exact ⟨⟨u / 10, i + 1, r', true, rfl, rfl, rfl, by go_num, by omega, by omega, Hu, by omega, by omega, by omega, hB2.set r' (by omega) _ (by omega) (by omega), below_set hb2 _ _⟩, by simp [intOf]; omega⟩
      · go_wp2
        exact ⟨⟨u / 10, i + 1, r', true, rfl, rfl, rfl, by go_num, by omega, by omega, Hu, by omega, by omega, by omega, hB2.set r' (by omega) _ (by omega) (by omega), below_set hb2 _ _⟩, by simp [intOf]; omega⟩
    · obtain rfl : i = p := by omega
      cases pr
      · go_wp2
        go_ret2
        exact ⟨r, by rw [hu.out]; rfl, by omega, by omega, hB2, hb2⟩
      · obtain ⟨r', rfl⟩ : ∃ r', r = r' + 1 := ⟨r - 1, by omega⟩
        obtain ⟨x, hc⟩ := hB2.cell r' (by omega)
        have hf := hB2.2.2 r' (by omega)
        go_wp2
        go_ret2
        exact ⟨r', by rw [hu.out]; rfl, by omega, by omega, hB2.set r' (by omega) _ (by omega) (by omega), below_set hb2 _ _⟩


theorem fmtFrac_at (b L p : Nat) (q c v : Int) (w : World) (hq : q = p) (hc : c = 10 ^ p) (hB : Buf b w) (h0 : 0 ≤ v) (h1 : v < 18446744073709551616) (hp : p ≤ 9) (hL : p + 1 ≤ L) (hL2 : L ≤ 32) :
    Calls Ybaf.prog 15 #[.slice (some ⟨b, 0, none⟩) L 32, .int .u64 v, .int .i64 q] w fun e w' => ∃ r : Nat, e = .returned (.tuple #[.int .i64 r, .int .u64 (v / c)]) ∧ L ≤ r + p + 1 ∧ r ≤ L ∧ Buf b w' ∧ Below b w w' := by
  subst hq hc
  exact fmtFrac_any b L p v w hB h0 h1 hp hL hL2

theorem fmtInt_at (b L n : Nat) (c v : Int) (w : World) (hc : c = 10 ^ n) (hB : Buf b w) (h0 : 0 ≤ v) (h1 : v < 18446744073709551616) (hv : v < c) (hn : 1 ≤ n) (hL : n ≤ L) (hL2 : L ≤ 32) :
    Calls Ybaf.prog 16 #[.slice (some ⟨b, 0, none⟩) L 32, .int .u64 v] w fun e w' => ∃ r : Nat, e = .returned (.int .i64 r) ∧ L ≤ r + n ∧ r ≤ L ∧ Buf b w' ∧ Below b w w' := by
  subst hc
  exact fmtInt_any b L n v w hB h0 h1 hv hn hL hL2

theorem slice51 (b r : Nat) (hr : r ≤ 32) (w : World) : (Instr.sliceAt 51 (.pointer (some ⟨b, 0, none⟩)) none (some (.int .i64 r)) none).run Ybaf.prog w = .ok (.slice (some ⟨b, 0, none⟩) r 32) w := by
  have hr' : (r : Int) ≤ 32 := by omega
  go_simp

theorem neg_back (u : Int) (h0 : 1 ≤ u) (h1 : u ≤ 9223372036854775808) : IntKind.u64.wrap (-IntKind.u64.wrap (-u)) = u := by
  rw [IntKind.wrap_u64, IntKind.wrap_u64]; omega

set_option maxHeartbeats 400000 in
theorem format_nano (b : Nat) (u : Int) (w : World) (hB : Buf b w) (h0 : 1 ≤ u) (h1 : u < 1000) :
    Calls Ybaf.prog 14 #[.int .i64 (-u), .pointer (some ⟨b, 0, none⟩)] w fun e w' => ∃ r : Nat, e = .returned (.int .i64 r) ∧ r < 32 ∧ Buf b w' ∧ Below b w w' := by
  have hu := neg_back u h0 (by omega)
  have hz : (u == 0) = false := by simp; omega
  obtain ⟨x31, hc31⟩ := hB.cell 31 (by omega)
  have hf31 := hB.2.2 31 (by omega)
  obtain ⟨x30, hc30⟩ := hB.cell 30 (by omega)
  have hf30 := hB.2.2 30 (by omega)
  go_enter Ybaf.func14, Ybaf.ntmps14
  go_wp2_with fail
  refine (fmtFrac_at b 30 0 0 1 u _ rfl rfl ((hB.set 31 (by omega) 115 (by omega) (by omega)).set 30 (by omega) 110 (by omega) (by omega)) (by omega) (by omega) (by omega) (by omega) (by omega)).mono ?_
  rintro e w2 ⟨r, rfl, k1, k2, hB2, hb2⟩
  have hs2 := slice51 b r (by omega)
  go_wp2_with fail
  refine (fmtInt_at b r 3 1000 u _ rfl hB2 (by omega) (by omega) (by omega) (by omega) (by omega) (by omega)).mono ?_
  rintro e w3 ⟨r, rfl, k3, k4, hB3, hb3⟩
  obtain ⟨r, rfl⟩ : ∃ r', r = r' + 1 := ⟨r - 1, by omega⟩
  obtain ⟨x, hc⟩ := hB3.cell r (by omega)
  have hf := hB3.2.2 r (by omega)
  have hi : (r : Int) < 32 := by omega
  go_wp2_with fail
  go_ret
  exact ⟨r, rfl, by omega, hB3.set r (by omega) _ (by omega) (by omega), below_set ((below_set (below_set (Below.refl b w) 31 _) 30 _).trans (hb2.trans hb3)) _ _⟩

set_option maxHeartbeats 400000 in
theorem format_milli (b : Nat) (u : Int) (w : World) (hB : Buf b w) (h0 : 1000000 ≤ u) (h1 : u < 1000000000) :
    Calls Ybaf.prog 14 #[.int .i64 (-u), .pointer (some ⟨b, 0, none⟩)] w fun e w' => ∃ r : Nat, e = .returned (.int .i64 r) ∧ r < 32 ∧ Buf b w' ∧ Below b w w' := by
  have hu := neg_back u (by omega) (by omega)
  have hz : (u == 0) = false := by simp; omega
  obtain ⟨x31, hc31⟩ := hB.cell 31 (by omega)
  have hf31 := hB.2.2 31 (by omega)
  obtain ⟨x30, hc30⟩ := hB.cell 30 (by omega)
  have hf30 := hB.2.2 30 (by omega)
  go_enter Ybaf.func14, Ybaf.ntmps14
  go_wp2_with fail
  refine (fmtFrac_at b 30 6 6 1000000 u _ rfl rfl ((hB.set 31 (by omega) 115 (by omega) (by omega)).set 30 (by omega) 109 (by omega) (by omega)) (by omega) (by omega) (by omega) (by omega) (by omega)).mono ?_
  rintro e w2 ⟨r, rfl, k1, k2, hB2, hb2⟩
  have hs2 := slice51 b r (by omega)
  go_wp2_with fail
  refine (fmtInt_at b r 3 1000 (u / 1000000) _ rfl hB2 (by omega) (by omega) (by omega) (by omega) (by omega) (by omega)).mono ?_
  rintro e w3 ⟨r, rfl, k3, k4, hB3, hb3⟩
  obtain ⟨r, rfl⟩ : ∃ r', r = r' + 1 := ⟨r - 1, by omega⟩
  obtain ⟨x, hc⟩ := hB3.cell r (by omega)
  have hf := hB3.2.2 r (by omega)
  have hi : (r : Int) < 32 := by omega
  go_wp2_with fail
  go_ret
  exact ⟨r, rfl, by omega, hB3.set r (by omega) _ (by omega) (by omega), below_set ((below_set (below_set (Below.refl b w) 31 _) 30 _).trans (hb2.trans hb3)) _ _⟩

theorem copy_mu (b : Nat) (w : World) (hB : Buf b w) :
    (Builtin.copy_ #[54, 9] 3 #[.slice (some ⟨b, 29, none⟩) 3 3, .string ⟨#[194, 181]⟩]).run Ybaf.prog w = .ok (.int .i64 2) ((w.setCell ⟨b, 29, none⟩ (.int .u8 194)).setCell ⟨b, 30, none⟩ (.int .u8 181)) := by
  obtain ⟨x30, hc30⟩ := hB.cell 30 (by omega)
  have hf30 := hB.2.2 30 (by omega)
  obtain ⟨x29, hc29⟩ := hB.cell 29 (by omega)
  have hf29 := hB.2.2 29 (by omega)
  have hs : (sizeOf 5).run Ybaf.prog w = .ok 1 w := by kernel_rfl
  have e : (⟨#[194, 181]⟩ : ByteArray).size.min 3 = 2 := by decide
  simp [Builtin.copy_, run_underlying Ybaf.underlying54, Builtin.lenOf, Builtin.firstCells, hs, goInt]
  rw [e]
  simp [storeCells, go_sem, hc29, hc30, hf29, hf30, Addr.add]

set_option maxHeartbeats 400000 in
theorem format_micro (b : Nat) (u : Int) (w : World) (hB : Buf b w) (h0 : 1000 ≤ u) (h1 : u < 1000000) :
    Calls Ybaf.prog 14 #[.int .i64 (-u), .pointer (some ⟨b, 0, none⟩)] w fun e w' => ∃ r : Nat, e = .returned (.int .i64 r) ∧ r < 32 ∧ Buf b w' ∧ Below b w w' := by
  have hu := neg_back u (by omega) (by omega)
  have hz : (u == 0) = false := by simp; omega
  obtain ⟨x31, hc31⟩ := hB.cell 31 (by omega)
  have hf31 := hB.2.2 31 (by omega)
  have hcp := copy_mu b _ (hB.set 31 (by omega) 115 (by omega) (by omega))
  go_enter Ybaf.func14, Ybaf.ntmps14
  go_wp2_with fail
  refine (fmtFrac_at b 29 3 3 1000 u _ rfl rfl (((hB.set 31 (by omega) 115 (by omega) (by omega)).set 29 (by omega) 194 (by omega) (by omega)).set 30 (by omega) 181 (by omega) (by omega)) (by omega) (by omega) (by omega) (by omega) (by omega)).mono ?_
  rintro e w2 ⟨r, rfl, k1, k2, hB2, hb2⟩
  clear hcp
  have hs2 := slice51 b r (by omega)
  go_wp2_with fail
  refine (fmtInt_at b r 3 1000 (u / 1000) _ rfl hB2 (by omega) (by omega) (by omega) (by omega) (by omega) (by omega)).mono ?_
  rintro e w3 ⟨r, rfl, k3, k4, hB3, hb3⟩
  obtain ⟨r, rfl⟩ : ∃ r', r = r' + 1 := ⟨r - 1, by omega⟩
  obtain ⟨x, hc⟩ := hB3.cell r (by omega)
  have hf := hB3.2.2 r (by omega)
  have hi : (r : Int) < 32 := by omega
  go_wp2_with fail
  go_ret
  exact ⟨r, rfl, by omega, hB3.set r (by omega) _ (by omega) (by omega), below_set ((below_set (below_set (below_set (Below.refl b w) 31 _) 29 _) 30 _).trans (hb2.trans hb3)) _ _⟩

set_option maxHeartbeats 400000 in
theorem format_secs (b : Nat) (u : Int) (w : World) (hB : Buf b w) (h0 : 1000000000 ≤ u) (h1 : u < 60000000000) :
    Calls Ybaf.prog 14 #[.int .i64 (-u), .pointer (some ⟨b, 0, none⟩)] w fun e w' => ∃ r : Nat, e = .returned (.int .i64 r) ∧ r < 32 ∧ Buf b w' ∧ Below b w w' := by
  have hu := neg_back u (by omega) (by omega)
  obtain ⟨x31, hc31⟩ := hB.cell 31 (by omega)
  have hf31 := hB.2.2 31 (by omega)
  go_enter Ybaf.func14, Ybaf.ntmps14
  go_wp2_with fail
  refine (fmtFrac_at b 31 9 9 1000000000 u _ rfl rfl (hB.set 31 (by omega) 115 (by omega) (by omega)) (by omega) (by omega) (by omega) (by omega) (by omega)).mono ?_
  rintro e w2 ⟨r, rfl, k1, k2, hB2, hb2⟩
  have hs2 := slice51 b r (by omega)
  go_wp2_with fail
  refine (fmtInt_at b r 2 100 (u / 1000000000 % 60) _ rfl hB2 (by omega) (by omega) (by omega) (by omega) (by omega) (by omega)).mono ?_
  rintro e w3 ⟨r, rfl, k3, k4, hB3, hb3⟩
  have hq : ¬ 0 < u / 1000000000 / 60 := by omega
  obtain ⟨r, rfl⟩ : ∃ r', r = r' + 1 := ⟨r - 1, by omega⟩
  obtain ⟨x, hc⟩ := hB3.cell r (by omega)
  have hf := hB3.2.2 r (by omega)
  have hi : (r : Int) < 32 := by omega
  go_wp2_with fail
  go_ret
  exact ⟨r, rfl, by omega, hB3.set r (by omega) _ (by omega) (by omega), below_set ((below_set (Below.refl b w) 31 _).trans (hb2.trans hb3)) _ _⟩

set_option maxHeartbeats 600000 in
theorem format_mins (b : Nat) (u : Int) (w : World) (hB : Buf b w) (h0 : 60000000000 ≤ u) (h1 : u < 3600000000000) :
    Calls Ybaf.prog 14 #[.int .i64 (-u), .pointer (some ⟨b, 0, none⟩)] w fun e w' => ∃ r : Nat, e = .returned (.int .i64 r) ∧ r < 32 ∧ Buf b w' ∧ Below b w w' := by
  have hu := neg_back u (by omega) (by omega)
  obtain ⟨x31, hc31⟩ := hB.cell 31 (by omega)
  have hf31 := hB.2.2 31 (by omega)
  go_enter Ybaf.func14, Ybaf.ntmps14
  go_wp2_with fail
  refine (fmtFrac_at b 31 9 9 1000000000 u _ rfl rfl (hB.set 31 (by omega) 115 (by omega) (by omega)) (by omega) (by omega) (by omega) (by omega) (by omega)).mono ?_
  rintro e w2 ⟨r, rfl, k1, k2, hB2, hb2⟩
  have hs2 := slice51 b r (by omega)
  go_wp2_with fail
  refine (fmtInt_at b r 2 100 (u / 1000000000 % 60) _ rfl hB2 (by omega) (by omega) (by omega) (by omega) (by omega) (by omega)).mono ?_
  rintro e w3 ⟨r3, rfl, k3, k4, hB3, hb3⟩
  have hq : 0 < u / 1000000000 / 60 := by omega
  obtain ⟨r3, rfl⟩ : ∃ r', r3 = r' + 1 := ⟨r3 - 1, by omega⟩
  obtain ⟨x, hc⟩ := hB3.cell r3 (by omega)
  have hf := hB3.2.2 r3 (by omega)
  have hi : (r3 : Int) < 32 := by omega
  have hs3 := slice51 b r3 (by omega)
  go_wp2_with fail
  refine (fmtInt_at b r3 2 100 (u / 1000000000 / 60 % 60) _ rfl (hB3.set r3 (by omega) 109 (by omega) (by omega)) (by omega) (by omega) (by omega) (by omega) (by omega) (by omega)).mono ?_
  rintro e w4 ⟨r4, rfl, k5, k6, hB4, hb4⟩
  have hq2 : ¬ 0 < u / 1000000000 / 60 / 60 := by omega
  obtain ⟨r4, rfl⟩ : ∃ r', r4 = r' + 1 := ⟨r4 - 1, by omega⟩
  obtain ⟨x4, hc4⟩ := hB4.cell r4 (by omega)
  have hf4 := hB4.2.2 r4 (by omega)
  have hi4 : (r4 : Int) < 32 := by omega
  go_wp2_with fail
  go_ret
  exact ⟨r4, rfl, by omega, hB4.set r4 (by omega) _ (by omega) (by omega), below_set ((below_set ((below_set (Below.refl b w) 31 _).trans (hb2.trans hb3)) r3 _).trans hb4) _ _⟩

set_option maxHeartbeats 600000 in
theorem format_hours (b : Nat) (u : Int) (w : World) (hB : Buf b w) (h0 : 3600000000000 ≤ u) (h1 : u ≤ 9223372036854775808) :
    Calls Ybaf.prog 14 #[.int .i64 (-u), .pointer (some ⟨b, 0, none⟩)] w fun e w' => ∃ r : Nat, e = .returned (.int .i64 r) ∧ r < 32 ∧ Buf b w' ∧ Below b w w' := by
  have hu := neg_back u (by omega) (by omega)
  obtain ⟨x31, hc31⟩ := hB.cell 31 (by omega)
  have hf31 := hB.2.2 31 (by omega)
  go_enter Ybaf.func14, Ybaf.ntmps14
  go_wp2_with fail
  refine (fmtFrac_at b 31 9 9 1000000000 u _ rfl rfl (hB.set 31 (by omega) 115 (by omega) (by omega)) (by omega) (by omega) (by omega) (by omega) (by omega)).mono ?_
  rintro e w2 ⟨r, rfl, k1, k2, hB2, hb2⟩
  have hs2 := slice51 b r (by omega)
  go_wp2_with fail
  refine (fmtInt_at b r 2 100 (u / 1000000000 % 60) _ rfl hB2 (by omega) (by omega) (by omega) (by omega) (by omega) (by omega)).mono ?_
  rintro e w3 ⟨r3, rfl, k3, k4, hB3, hb3⟩
  have hq : 0 < u / 1000000000 / 60 := by omega
  obtain ⟨r3, rfl⟩ : ∃ r', r3 = r' + 1 := ⟨r3 - 1, by omega⟩
  obtain ⟨x, hc⟩ := hB3.cell r3 (by omega)
  have hf := hB3.2.2 r3 (by omega)
  have hi : (r3 : Int) < 32 := by omega
  have hs3 := slice51 b r3 (by omega)
  go_wp2_with fail
  refine (fmtInt_at b r3 2 100 (u / 1000000000 / 60 % 60) _ rfl (hB3.set r3 (by omega) 109 (by omega) (by omega)) (by omega) (by omega) (by omega) (by omega) (by omega) (by omega)).mono ?_
  rintro e w4 ⟨r4, rfl, k5, k6, hB4, hb4⟩
  have hq2 : 0 < u / 1000000000 / 60 / 60 := by omega
  obtain ⟨r4, rfl⟩ : ∃ r', r4 = r' + 1 := ⟨r4 - 1, by omega⟩
  obtain ⟨x4, hc4⟩ := hB4.cell r4 (by omega)
  have hf4 := hB4.2.2 r4 (by omega)
  have hi4 : (r4 : Int) < 32 := by omega
  have hs4 := slice51 b r4 (by omega)
  go_wp2_with fail
  refine (fmtInt_at b r4 7 10000000 (u / 1000000000 / 60 / 60) _ rfl (hB4.set r4 (by omega) 104 (by omega) (by omega)) (by omega) (by omega) (by omega) (by omega) (by omega) (by omega)).mono ?_
  rintro e w5 ⟨r5, rfl, k7, k8, hB5, hb5⟩
  obtain ⟨r5, rfl⟩ : ∃ r', r5 = r' + 1 := ⟨r5 - 1, by omega⟩
  obtain ⟨x5, hc5⟩ := hB5.cell r5 (by omega)
  have hf5 := hB5.2.2 r5 (by omega)
  have hi5 : (r5 : Int) < 32 := by omega
  go_wp2_with fail
  go_ret
  exact ⟨r5, rfl, by omega, hB5.set r5 (by omega) _ (by omega) (by omega), below_set ((below_set ((below_set ((below_set (Below.refl b w) 31 _).trans (hb2.trans hb3)) r3 _).trans hb4) r4 _).trans hb5) _ _⟩

/-- (time.Duration).format at every negative duration: it returns a place within the buffer, and writes the buffer alone. -/
theorem format_any (b : Nat) (d : Int) (w : World) (hB : Buf b w) (h0 : -9223372036854775808 ≤ d) (h1 : d < 0) :
    Calls Ybaf.prog 14 #[.int .i64 d, .pointer (some ⟨b, 0, none⟩)] w fun e w' => ∃ r : Nat, e = .returned (.int .i64 r) ∧ r < 32 ∧ Buf b w' ∧ Below b w w' := by
  obtain ⟨u, rfl⟩ : ∃ u, d = -u := ⟨-d, by omega⟩
  by_cases c1 : u < 1000
  · exact format_nano b u w hB (by omega) c1
  by_cases c2 : u < 1000000
  · exact format_micro b u w hB (by omega) c2
  by_cases c3 : u < 1000000000
  · exact format_milli b u w hB (by omega) c3
  by_cases c4 : u < 60000000000
  · exact format_secs b u w hB (by omega) c4
  by_cases c5 : u < 3600000000000
  · exact format_mins b u w hB (by omega) c5
  · exact format_hours b u w hB (by omega) (by omega)

/-- The bytes from r on, as numbers. -/
theorem Buf.nums {b : Nat} {w : World} (h : Buf b w) (r k : Nat) (hk : r + k ≤ 32) : ∃ xs : List Int, xs.length = k ∧ ∀ i, i < k → w.cell? ⟨b, r + i, none⟩ = some (.int .u8 (xs.getD i 0)) := by
  induction k generalizing r with
  | zero => exact ⟨[], rfl, fun i hi => by omega⟩
  | succ k ih =>
    obtain ⟨xs, hl, hx⟩ := ih (r + 1) (by omega)
    obtain ⟨x, hc⟩ := h.cell r (by omega)
    refine ⟨x :: xs, by simp [hl], fun i hi => ?_⟩
    cases i with
    | zero => simpa using hc
    | succ i =>
      have := hx i (by omega)
      rw [show r + (i + 1) = r + 1 + i by omega]
      simpa using this

theorem slice51_from (b r : Nat) (hr : r < 32) (w : World) : (Instr.sliceAt 51 (.pointer (some ⟨b, 0, none⟩)) (some (.int .i64 r)) none none).run Ybaf.prog w = .ok (.slice (some ⟨b, r, none⟩) (32 - r) (32 - r)) w := by
  have hr' : (r : Int) ≤ 32 := by omega
  have hne : ¬ 32 = r := by omega
  go_simp

theorem buf_new (w : World) : Buf w.heap.size (w.alloc (.cells #[.int .u8 0, .int .u8 0, .int .u8 0, .int .u8 0, .int .u8 0, .int .u8 0, .int .u8 0, .int .u8 0, .int .u8 0, .int .u8 0, .int .u8 0, .int .u8 0, .int .u8 0, .int .u8 0, .int .u8 0, .int .u8 0, .int .u8 0, .int .u8 0, .int .u8 0, .int .u8 0, .int .u8 0, .int .u8 0, .int .u8 0, .int .u8 0, .int .u8 0, .int .u8 0, .int .u8 0, .int .u8 0, .int .u8 0, .int .u8 0, .int .u8 0, .int .u8 0] 51)) := by
  have e : (#[.int .u8 0, .int .u8 0, .int .u8 0, .int .u8 0, .int .u8 0, .int .u8 0, .int .u8 0, .int .u8 0, .int .u8 0, .int .u8 0, .int .u8 0, .int .u8 0, .int .u8 0, .int .u8 0, .int .u8 0, .int .u8 0, .int .u8 0, .int .u8 0, .int .u8 0, .int .u8 0, .int .u8 0, .int .u8 0, .int .u8 0, .int .u8 0, .int .u8 0, .int .u8 0, .int .u8 0, .int .u8 0, .int .u8 0, .int .u8 0, .int .u8 0, .int .u8 0] : Array Value) = Array.replicate 32 (.int .u8 0) := rfl
  rw [e]
  refine ⟨by simp, fun i hi => ⟨0, by omega, by omega, ?_⟩, fun i hi => ?_⟩
  · simp [go_sem, hi]
  · simp [go_sem]

set_option maxHeartbeats 400000 in
/-- (time.Duration).String at every negative duration: it returns some string of at most 32 bytes, and turns nothing that was there. -/
theorem string_any (d : Int) (w : World) (h0 : -9223372036854775808 ≤ d) (h1 : d < 0) :
    Calls Ybaf.prog 12 #[.int .i64 d] w fun e w' => ∃ s : ByteArray, e = .returned (.string s) ∧ s.size ≤ 32 ∧ Below w.heap.size w w' ∧ w.heap.size < w'.heap.size := by
  go_enter Ybaf.func12, Ybaf.ntmps12
  go_wp2_with fail
  refine (format_any _ d _ (buf_new w) h0 h1).mono ?_
  rintro e w2 ⟨r, rfl, k1, hB2, hb2⟩
  obtain ⟨xs, hl, hx⟩ := hB2.nums r (32 - r) (by omega)
  have hs2 := slice51_from w.heap.size r k1
  have hcv := run_convert_bytes_arg (P := Ybaf.prog) w2 54 5 Ybaf.underlying54 Ybaf.underlying5 w.heap.size r (32 - r) (32 - r) xs hl hx 9 Ybaf.underlying9
  clear hx
  go_wp2_with fail
  go_ret
  exact ⟨_, rfl, by rw [strOfNums_size]; omega, ((Below.refl _ _).alloc (Nat.le_refl _) _).trans hb2, by have := hb2.size; simp at this; omega⟩
end Go.Proofs.YbulknpeFmt
