/-
  THE WALKS OF (rangeDecoder).bitOf (function 28) AND xz.ZZBitOf (17), for every decoder state and every probability below 2^16.
-/
import Derived.Test.Qxb6001347aProg
import Derived.WalkKit
import Derived.WalkSpells
import Derived.WalkLawsBesides
import Derived.Outline
namespace Go.Proofs.Qxb6001347a
open Go.RowKit
set_option linter.unusedVariables false

theorem and_all : bits BinOp.and IntKind.u32 2017 4294967295 = 2017 := by kernel_rfl
theorem and_none : bits BinOp.and IntKind.u32 2017 0 = 0 := by kernel_rfl

/-- What the cell holds behind a 0, resp. a 1, as the walk spells it. -/
theorem cell_lo (v : Int) (h0 : 0 ≤ v) (h1 : v ≤ 2048) : IntKind.u16.wrap ((v + wrap32 ((31 + 2017 - v) % 4294967296) / 32) % 4294967296) = v + (2048 - v) / 32 := by
  rw [IntKind.wrap_u16]; unfold wrap32; omega
theorem cell_hi (v : Int) (h0 : 0 ≤ v) (h1 : v ≤ 2048) : IntKind.u16.wrap ((v + wrap32 ((31 - v) % 4294967296) / 32) % 4294967296) = v - v / 32 := by
  rw [IntKind.wrap_u16]; unfold wrap32; omega
theorem u16_range (x : Int) : 0 ≤ IntKind.u16.wrap x ∧ IntKind.u16.wrap x < 65536 := by
  rw [IntKind.wrap_u16]; omega

/-- ONE STEP OF THE DECODER, as plain numbers: the range r, the code c, the probability v; behind it the range r', the code c', the bit b, the cell p. -/
def Step (r c v r' c' b p : Int) : Prop :=
  0 ≤ p ∧ p < 65536 ∧
  ((c < r / 2048 * v % 4294967296 ∧ r' = r / 2048 * v % 4294967296 ∧ c' = c ∧ b = 0 ∧ (v ≤ 2048 → p = v + (2048 - v) / 32)) ∨
   (r / 2048 * v % 4294967296 ≤ c ∧ r' = (r - r / 2048 * v) % 4294967296 ∧ c' = (c - r / 2048 * v) % 4294967296 ∧ b = 1 ∧ (v ≤ 2048 → p = v - v / 32)))

set_option maxHeartbeats 400000 in
theorem bitOf_any (r c ip v x : Int) (B o : Nat) (w : World) (hr0 : 0 ≤ r) (hr1 : r < 4294967296) (hc0 : 0 ≤ c) (hc1 : c < 4294967296) (hv0 : 0 ≤ v) (hv1 : v < 65536)
   (hcell : w.cell? ⟨B, o, none⟩ = some (.int .u16 x)) (hfz : w.frozen? ⟨B, o, none⟩ = false) (hB : B < w.heap.size) :
    Calls Try.prog 28 #[.agg #[.int .u32 r, .int .u32 c, .int .i64 ip], .pointer (some ⟨B, o, none⟩), .int .u32 v] w fun e w' =>
      ∃ r' c' b p, e = .returned (.tuple #[.agg #[.int .u32 r', .int .u32 c', .int .i64 ip], .int .u32 b]) ∧ Step r c v r' c' b p ∧ Below w.heap.size (w.setCell ⟨B, o, none⟩ (.int .u16 p)) w' := by
  have e1 := and_all
  have e2 := and_none
  go_enter Try.func28, Try.ntmps28
  go_wp2
  · have hlt : c < r / 2048 * v % 4294967296 := by assumption
    refine bodyPost_ret (v := .tuple #[.agg #[.int .u32 (r / 2048 * v % 4294967296), .int .u32 c, .int .i64 ip], .int .u32 0]) (by simp [results, Try.results28, go_sem]) rfl ⟨_, _, _, _, rfl, ?_, ((Below.refl _ _).alloc (by simp) _).alloc (by simp) _⟩
    exact ⟨(u16_range _).1, (u16_range _).2, .inl ⟨hlt, rfl, rfl, rfl, fun h => cell_lo v hv0 h⟩⟩
  · have hge : r / 2048 * v % 4294967296 ≤ c := by assumption
    refine bodyPost_ret (v := .tuple #[.agg #[.int .u32 ((r - r / 2048 * v) % 4294967296), .int .u32 ((c - r / 2048 * v) % 4294967296), .int .i64 ip], .int .u32 1]) (by simp [results, Try.results28, go_sem]) rfl ⟨_, _, _, _, rfl, ?_, ((Below.refl _ _).alloc (by simp) _).alloc (by simp) _⟩
    exact ⟨(u16_range _).1, (u16_range _).2, .inr ⟨hge, rfl, rfl, rfl, fun h => cell_hi v hv0 h⟩⟩

/-- Of a world that lies 'Below' one in which a cell of a one-cell block has been stored. -/
theorem one_behind {w w1 : World} {v v' : Value} {t : TypeId} (h : Below (w.heap.size + 1) ((w.alloc (.cells #[v] t)).setCell ⟨w.heap.size, 0, none⟩ v') w1) :
    w1.cell? ⟨w.heap.size, 0, none⟩ = some v' ∧ w.heap.size < w1.heap.size ∧ Below w.heap.size w w1 := by
  refine ⟨?_, ?_, ?_⟩
  · rw [h.cell (p := ⟨w.heap.size, 0, none⟩) (by simp)]
    simp [go_sem]
  · have := h.size
    simp [World.setCell] at this
    omega
  · exact (((Below.refl _ _).alloc (Nat.le_refl _) _).setCell (p := ⟨w.heap.size, 0, none⟩) (Nat.le_refl _) _).trans (h.mono (by omega))

set_option maxHeartbeats 400000 in
theorem zzBitOf_any (r c ip v p0 : Int) (w : World) (hr0 : 0 ≤ r) (hr1 : r < 4294967296) (hc0 : 0 ≤ c) (hc1 : c < 4294967296) (hv0 : 0 ≤ v) (hv1 : v < 65536) :
    Calls Try.prog 17 #[.int .u32 r, .int .u32 c, .int .i64 ip, .int .u16 p0, .int .u32 v] w fun e w' =>
      ∃ r' c' b p, e = .returned (.tuple #[.int .u32 r', .int .u32 c', .int .i64 ip, .int .u16 p, .int .u32 b]) ∧ Step r c v r' c' b p ∧ Below w.heap.size w w' := by
  go_enter Try.func17, Try.ntmps17
  go_wp2_with fail
  refine (bitOf_any r c ip v p0 w.heap.size 0 _ hr0 hr1 hc0 hc1 hv0 hv1 (by simp [go_sem]) (by simp [go_sem]) (by simp)).mono ?_
  rintro e w1 ⟨r', c', b, p, rfl, hs, hb⟩
  obtain ⟨q1, q2, q3⟩ := one_behind (by simpa using hb)
  have HS : Hid (Step r c v r' c' b p) := hs
  clear hs hb
  go_wp2
  go_region
  all_goals go_wp2
  all_goals
    refine bodyPost_ret (v := .tuple #[.int .u32 r', .int .u32 c', .int .i64 ip, .int .u16 p, .int .u32 b]) (by simp [results, Try.results17, go_sem]) rfl ⟨r', c', b, p, rfl, HS.out, ?_⟩
    exact (q3.alloc (by omega) _).drew
end Go.Proofs.Qxb6001347a
