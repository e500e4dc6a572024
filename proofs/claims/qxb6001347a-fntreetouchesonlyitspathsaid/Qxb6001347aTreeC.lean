/-
  cloneU16 (function 20), bitLen (26), zzBytes (25).
-/
import Derived.Test.Qxb6001347aRoomZ
import Derived.Test.Qxb6001347aTreeZ
namespace Go.Proofs.Qxb6001347a
open Go.RowKit
set_option linter.unusedVariables false

set_option maxHeartbeats 400000 in
theorem clone16_row (b off len cap : Nat) (f : Nat → Int) (w : World) (hlen : len ≤ 1048576) (hpos : 0 < len) (hcell : ∀ i, i < len → w.cell? ⟨b, off + i, none⟩ = some (.int .u16 (f i))) :
    Calls Try.prog 20 #[.slice (some ⟨b, off, none⟩) len cap] w fun e w' => e = .returned (.slice (some ⟨w.heap.size, 0, none⟩) len len) ∧ w'.rowIs w.heap.size 30 len (fun i => .int .u16 (f i)) ∧ Below w.heap.size w w' := by
  have hbB : b < w.heap.size := World.block_lt_of_cell? _ _ (hcell 0 hpos)
  have hmk := run_make_row' (P := Try.prog) 37 30 (.int .u16 0) 2 Try.underlying37 info30 rfl .i64 .i64 len (by omega) (by omega)
  have hq := fun (w : World) => Lib.run_eql_slice_nil (P := Try.prog) w 37 30 (some ⟨b, off, none⟩) len cap 0 0 Try.underlying37
  have hmade := World.rowIs_made w (.int .u16 0) len 30
  have hb0 : Below w.heap.size w (w.alloc (.cells (madeCells #[.int .u16 0] len) 30)) := (Below.refl _ _).alloc (Nat.le_refl _) _
  have HM : Hid ((w.alloc (.cells (madeCells #[.int .u16 0] len) 30)).rowIs w.heap.size 30 len (fun _ => .int .u16 0) ∧ Below w.heap.size w (w.alloc (.cells (madeCells #[.int .u16 0] len) 30))) := ⟨hmade, hb0⟩
  clear hmade hb0
  go_enter Try.func20, Try.ntmps20
  go_wp2
  go_loopw [4] (fun i wr => ∃ k : Nat, k ≤ len ∧ i = .int .i64 k ∧ wr.rowIs w.heap.size 30 len (fun i => if i < k then .int .u16 (f i) else .int .u16 0) ∧ Below w.heap.size w wr) (fun i _ => len - (intOf i).toNat)
  case atStart => exact ⟨0, Nat.zero_le _, rfl, HM.out.1.congr (fun i _ => by simp), HM.out.2⟩
  case round =>
    obtain ⟨k, hk, rfl, hrow, hbel⟩ := hrel
    have hsz := hbel.size
    by_cases hlt : k < len
    · have hcx : wr.cell? ⟨b, off + k, none⟩ = some (.int .u16 (f k)) := (hbel.cell (p := ⟨b, off + k, none⟩) hbB).trans (hcell k hlt)
      obtain ⟨v0, hv0⟩ : ∃ v0, wr.cell? ⟨w.heap.size, k, none⟩ = some v0 := ⟨_, hrow.cell hlt⟩
      have hfz := hrow.frozen k
      have R : Hid ((wr.setCell ⟨w.heap.size, k, none⟩ (.int .u16 (f k))).rowIs w.heap.size 30 len (fun i => if i < k + 1 then .int .u16 (f i) else .int .u16 0) ∧ Below w.heap.size w (wr.setCell ⟨w.heap.size, k, none⟩ (.int .u16 (f k)))) := ⟨row_step (F := fun i => .int .u16 (f i)) hrow, hbel.setCell (p := ⟨w.heap.size, k, none⟩) (Nat.le_refl _) _⟩
      clear hrow hbel hcell HM
      go_wp2
      go_roundw
      case rel => exact ⟨k + 1, by omega, by go_num, R.out.1, R.out.2⟩
      case measure => simp [intOf]; omega
    · clear hcell HM
      go_wp2
      go_ret
      exact ⟨rfl, hrow.congr (fun i hi => by rw [if_pos (by omega)]), hbel⟩

theorem shr_step (x t : Nat) : x / 2 ^ t / 2 = x / 2 ^ (t + 1) := by
  rw [Nat.div_div_eq_div_mul, ← Nat.pow_succ]
theorem bit_top {x t : Nat} (h : 0 < x / 2 ^ t) : 2 ^ t ≤ x := by
  have hp : 0 < 2 ^ t := Nat.two_pow_pos t
  exact (Nat.div_pos_iff.1 h).2
theorem top_small {x t : Nat} (hx : x < 65536) (h : 0 < t → 2 ^ (t - 1) ≤ x) : t ≤ 16 := by
  by_cases h0 : t ≤ 16
  · exact h0
  · have h1 := h (by omega)
    have h2 : 2 ^ 16 ≤ 2 ^ (t - 1) := Nat.pow_le_pow_right (by omega) (by omega)
    have h3 : (2 : Nat) ^ 16 = 65536 := rfl
    omega

set_option maxRecDepth 10000 in
set_option maxHeartbeats 400000 in
/-- The number of bits. -/
theorem bitLen_any (x : Nat) (hx : x < 65536) (w : World) :
    Calls Try.prog 26 #[.int .u32 x] w fun e w' => ∃ L : Nat, e = .returned (.int .i64 L) ∧ L ≤ 16 ∧ Hid (x < 2 ^ L ∧ (0 < L → 2 ^ (L - 1) ≤ x)) ∧ w = w' := by
  have HX := hidT hx
  have hx' : (x : Int) < 65536 := by omega
  clear hx
  go_enter Try.func26, Try.ntmps26
  go_wp2
  go_loop [0, 3] (fun s0 s3 => ∃ (y : Int) (t : Nat), s0 = .int .u32 y ∧ s3 = .int .i64 t ∧ 0 ≤ y ∧ y < 65536 ∧ (t : Int) ≤ 16 ∧ Hid (y = ((x / 2 ^ t : Nat) : Int) ∧ (0 < t → 2 ^ (t - 1) ≤ x))) (fun s0 _ => (intOf s0).toNat)
  case atStart => exact ⟨x, 0, rfl, rfl, by omega, hx', by omega, ⟨by simp, fun h => by omega⟩⟩
  case round =>
    obtain ⟨y, t, rfl, rfl, hy0, hy, ht, HY⟩ := hrel
    by_cases h0 : y = 0
    · subst h0
      go_wp2
      go_ret
      refine ⟨t, rfl, by omega, ⟨?_, HY.out.2⟩, rfl⟩
      have h1 := HY.out.1
      have hp : 0 < 2 ^ t := Nat.two_pow_pos t
      exact (Nat.div_eq_zero_iff_lt hp).1 (by omega)
    · have h0' : (0 : Int) < y := by omega
      clear h0
      have ht' : (t : Int) + 1 ≤ 16 := by
        have h1 := HY.out.1
        have h2 : 2 ^ t ≤ x := bit_top (by omega)
        have h3 := top_small (t := t + 1) HX.out (fun _ => h2)
        omega
      have h0b : (y != 0) = true := by simp; omega
      go_wp2
      go_round
      case rel =>
        refine ⟨_, t + 1, rfl, by go_num, by omega, by omega, by omega, ?_, fun _ => ?_⟩
        · rw [← shr_step]
          have h1 := HY.out.1
          omega
        · have h1 := HY.out.1
          rw [Nat.add_sub_cancel]
          exact bit_top (by omega)
      case measure => simp [intOf]; omega

set_option maxHeartbeats 400000 in
/-- zzBytes (function 25): do the two lengths add up to at most 2^20? -/
theorem zz25_yes (a1 a2 : Option Addr) (l1 c1 l2 c2 : Nat) (r c i n : Int) (w : World) (h : l1 + l2 ≤ 1048576) :
    Calls Try.prog 25 #[.int .u32 r, .int .u32 c, .int .i64 i, .slice a1 l1 c1, .slice a2 l2 c2, .int .u64 n] w fun e w' => e = .returned (.bool true) ∧ w = w' := by
  have h1 : (l1 : Int) + (l2 : Int) ≤ 1048576 := by omega
  go_enter Try.func25, Try.ntmps25
  go_wp2
  go_ret
  exact ⟨rfl, rfl⟩
set_option maxHeartbeats 400000 in
theorem zz25_no (a1 a2 : Option Addr) (l1 c1 l2 c2 : Nat) (r c i n : Int) (w : World) (h : 1048576 < l1 + l2) (m1 : l1 ≤ 9223372036854775807) (m2 : l2 ≤ 9223372036854775807) :
    Calls Try.prog 25 #[.int .u32 r, .int .u32 c, .int .i64 i, .slice a1 l1 c1, .slice a2 l2 c2, .int .u64 n] w fun e w' => e = .returned (.bool false) ∧ w = w' := by
  by_cases h1 : 1048576 < l1
  · have h1' : (1048576 : Int) < (l1 : Int) := by omega
    go_enter Try.func25, Try.ntmps25
    go_wp2
    go_ret
    exact ⟨rfl, rfl⟩
  have h1' : (l1 : Int) ≤ 1048576 := by omega
  by_cases h2 : 1048576 < l2
  · have h2' : (1048576 : Int) < (l2 : Int) := by omega
    go_enter Try.func25, Try.ntmps25
    go_wp2
    go_ret
    exact ⟨rfl, rfl⟩
  · have h2' : (l2 : Int) ≤ 1048576 := by omega
    have h3 : (1048576 : Int) < (l1 : Int) + (l2 : Int) := by omega
    go_enter Try.func25, Try.ntmps25
    go_wp2
    go_ret
    exact ⟨rfl, rfl⟩
end Go.Proofs.Qxb6001347a
