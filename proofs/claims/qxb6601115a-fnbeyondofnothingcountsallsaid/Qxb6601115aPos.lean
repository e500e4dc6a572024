/-
  THE WALKS OF toGTID (22), (Position).sequence (23) at an empty position, (Range).Count (24), toPosition (10).
-/
import Derived.Test.Qxb6601115aProg
import Derived.WalkKit
import Derived.WalkSpells
import Derived.WalkLawsBesides
import Derived.BigQuiet
import Derived.Deep.QuietTactic
import Derived.Deep.OwnRows
import Derived.Outline
namespace Go.Proofs.Qxb6601115a
open Go.RowKit
set_option linter.unusedVariables false

theorem hid {p : Prop} (h : p) : Hid p := h

set_option maxHeartbeats 400000 in
theorem seq_none (ao : Option Addr) (cap : Nat) (d : Int) (w : World) :
    Calls Try.prog 23 #[.slice ao 0 cap, .int .u32 d] w fun e w' => e = .returned (.tuple #[.int .u64 0, .bool false]) ∧ w = w' := by
  go_enter Try.func23, Try.ntmps23
  go_wp2
  refine wp_loop_rounds 1 ?_
  rw [rounds_succ]
  go_wp2
  go_ret2
  exact ⟨rfl, rfl⟩

set_option maxHeartbeats 400000 in
theorem toGTID_any (d s q : Int) (w : World) :
    Calls Try.prog 22 #[.agg #[.int .u32 d, .int .u32 s, .int .u64 q]] w fun e w' => e = .returned (.agg #[.int .u32 d, .int .u32 s, .int .u64 q]) ∧ Below w.heap.size w w' := by
  go_enter Try.func22, Try.ntmps22
  go_wp2
  refine bodyPost_ret (v := .agg #[.int .u32 d, .int .u32 s, .int .u64 q]) (by simp [results, Try.results22, go_sem]) rfl ⟨rfl, ?_⟩
  exact ((Below.refl _ _).alloc (Nat.le_refl _) _).alloc (by simp) _

theorem u64_back (q : Int) (h0 : 0 ≤ q) (h1 : q ≤ 18446744073709551615) : IntKind.u64.wrap (IntKind.u64.wrap (q - 1) + 1) = q := by
  rw [IntKind.wrap_u64, IntKind.wrap_u64]; omega

set_option maxHeartbeats 400000 in
theorem count1_any (d s d' s' q : Int) (w : World) (h0 : 0 ≤ q) (h1 : q ≤ 18446744073709551615) :
    Calls Try.prog 24 #[.agg #[.int .u32 d, .int .u32 s, .int .u64 1, .int .u32 d', .int .u32 s', .int .u64 q]] w fun e w' => e = .returned (.int .u64 q) ∧ Below w.heap.size w w' := by
  have hq := u64_back q h0 h1
  have HQ := hid hq
  clear hq
  go_enter Try.func24, Try.ntmps24
  go_wp2
  go_ret
  refine ⟨?_, (Below.refl _ _).alloc (Nat.le_refl _) _⟩
  show Ending.returned (Value.int IntKind.u64 (IntKind.u64.wrap (IntKind.u64.wrap (q - 1) + 1))) = _
  rw [HQ.out]

theorem info33 : (Try.prog.info? 33).map (fun i => (i.zero, i.size, i.bytes)) = some (some (.agg #[.int .u32 0, .int .u32 0, .int .u64 0]), 3, 16) := by kernel_rfl
theorem info35 : (Try.prog.info? 35).map (fun i => (i.zero, i.size, i.bytes)) = some (some (.agg #[.int .u32 0, .int .u32 0, .int .u64 0, .int .u32 0, .int .u32 0, .int .u64 0]), 6, 32) := by kernel_rfl

/-- BLOCK B HOLDS n GTIDs: domain, server and sequence by the index. -/
def Gs (w : World) (B n : Nat) (D S Q : Nat → Int) : Prop :=
  ∃ c : Array Value, w.heap[B]? = some (.cells c 33 (0, 0)) ∧ c.size = n * 3 ∧ ∀ i, i < n → c[i * 3]? = some (.int .u32 (D i)) ∧ c[i * 3 + 1]? = some (.int .u32 (S i)) ∧ c[i * 3 + 2]? = some (.int .u64 (Q i))

theorem Gs.lt {w : World} {B n : Nat} {D S Q : Nat → Int} (h : Gs w B n D S Q) : B < w.heap.size := by
  obtain ⟨c, hb, -⟩ := h
  exact (Array.getElem?_eq_some_iff.1 hb).1
theorem Gs.cell {w : World} {B n : Nat} {D S Q : Nat → Int} (h : Gs w B n D S Q) {i : Nat} (hi : i < n) :
    w.cell? ⟨B, i * 3, none⟩ = some (.int .u32 (D i)) ∧ w.cell? ⟨B, i * 3 + 1, none⟩ = some (.int .u32 (S i)) ∧ w.cell? ⟨B, i * 3 + 2, none⟩ = some (.int .u64 (Q i)) := by
  obtain ⟨c, hb, -, hc⟩ := h
  obtain ⟨h1, h2, h3⟩ := hc i hi
  simp [World.cell?, hb, h1, h2, h3]
theorem Gs.frozen {w : World} {B n : Nat} {D S Q : Nat → Int} (h : Gs w B n D S Q) (i : Nat) : w.frozen? ⟨B, i, none⟩ = false := by
  obtain ⟨c, hb, -⟩ := h
  simp [World.frozen?, hb]
theorem Gs.of_block {w w' : World} {B n : Nat} {D S Q : Nat → Int} (h : Gs w B n D S Q) (e : w'.heap[B]? = w.heap[B]?) : Gs w' B n D S Q := by
  obtain ⟨c, hb, r⟩ := h
  exact ⟨c, e.trans hb, r⟩
theorem Gs.set {w : World} {B n : Nat} {D S Q : Nat → Int} (h : Gs w B n D S Q) {k : Nat} (hk : k < n) (d s q : Int) :
    Gs (((w.setCell ⟨B, k * 3, none⟩ (.int .u32 d)).setCell ⟨B, k * 3 + 1, none⟩ (.int .u32 s)).setCell ⟨B, k * 3 + 2, none⟩ (.int .u64 q)) B n (fun i => if i = k then d else D i) (fun i => if i = k then s else S i) (fun i => if i = k then q else Q i) := by
  obtain ⟨c, hb, hn, hc⟩ := h
  refine ⟨((c.setIfInBounds (k * 3) (.int .u32 d)).setIfInBounds (k * 3 + 1) (.int .u32 s)).setIfInBounds (k * 3 + 2) (.int .u64 q), ?_, by simpa using hn, fun i hi => ?_⟩
  · simp [World.setCell, Array.getElem?_modify, hb]
  · obtain ⟨h1, h2, h3⟩ := hc i hi
    by_cases e : i = k
    · subst e
      simp [Array.getElem?_setIfInBounds]
      omega
    · have e1 : k * 3 ≠ i * 3 := by omega
      have e2 : k * 3 + 1 ≠ i * 3 := by omega
      have e3 : k * 3 + 2 ≠ i * 3 := by omega
      have e4 : k * 3 ≠ i * 3 + 1 := by omega
      have e5 : k * 3 + 1 ≠ i * 3 + 1 := by omega
      have e6 : k * 3 + 2 ≠ i * 3 + 1 := by omega
      have e7 : k * 3 ≠ i * 3 + 2 := by omega
      have e8 : k * 3 + 1 ≠ i * 3 + 2 := by omega
      have e9 : k * 3 + 2 ≠ i * 3 + 2 := by omega
      simp only [Array.getElem?_setIfInBounds, e1, e2, e3, e4, e5, e6, e7, e8, e9, if_false, h1, h2, h3, e, and_self]

/-- 'make(gtid.Position, n)' -/
theorem make_gs (n : Nat) (hn : n ≤ 4096) (w : World) :
    (Instr.makeSlice 25 (.int .i64 (n : Int)) (.int .i64 (n : Int))).run Try.prog w = .ok (.slice (some ⟨w.heap.size, 0, none⟩) n n) (w.alloc (.cells (madeCells #[.int .u32 0, .int .u32 0, .int .u64 0] (n * 3)) 33)) := by
  obtain ⟨i, hi, hz0, hz1, hz2⟩ := info_parts info33
  have hr := run_make (P := Try.prog) w 25 33 i _ Try.underlying25 hi hz0 .i64 .i64 n n (by omega) (Int.le_refl _) (by rw [hz2]; omega) (by omega)
  simp only [Int.toNat_natCast, hz1] at hr
  exact hr
theorem made_gs (n : Nat) (w : World) : Gs (w.alloc (.cells (madeCells #[.int .u32 0, .int .u32 0, .int .u64 0] (n * 3)) 33)) w.heap.size n (fun _ => 0) (fun _ => 0) (fun _ => 0) := by
  refine ⟨madeCells #[.int .u32 0, .int .u32 0, .int .u64 0] (n * 3), ?_, size_madeCells _ _, fun i hi => ?_⟩
  · show (w.heap.push _)[w.heap.size]? = _
    simp
  · have h1 : i * 3 < n * 3 := by omega
    have h2 : i * 3 + 1 < n * 3 := by omega
    have h3 : i * 3 + 2 < n * 3 := by omega
    have m1 : i * 3 % 3 = 0 := by omega
    have m2 : (i * 3 + 1) % 3 = 1 := by omega
    have m3 : (i * 3 + 2) % 3 = 2 := by omega
    simp [madeCells, h1, h2, h3, m1, m2, m3]

theorem gs_step {wr : World} {B n k : Nat} {D S Q : Nat → Int} (h : Gs wr B n (fun i => if i < k then D i else 0) (fun i => if i < k then S i else 0) (fun i => if i < k then Q i else 0)) (hk : k < n) :
    Gs (((wr.setCell ⟨B, k * 3, none⟩ (.int .u32 (D k))).setCell ⟨B, k * 3 + 1, none⟩ (.int .u32 (S k))).setCell ⟨B, k * 3 + 2, none⟩ (.int .u64 (Q k))) B n (fun i => if i < k + 1 then D i else 0) (fun i => if i < k + 1 then S i else 0) (fun i => if i < k + 1 then Q i else 0) := by
  have e : ∀ (F : Nat → Int), (fun i => if i < k + 1 then F i else 0) = (fun i => if i = k then F k else if i < k then F i else 0) := by
    intro F
    funext i
    by_cases e : i = k
    · subst e; simp
    · by_cases h9 : i < k
      · simp [e, h9, Nat.lt_succ_of_lt h9]
      · have h10 : ¬ i < k + 1 := by omega
        simp [e, h9, h10]
  rw [e D, e S, e Q]
  exact h.set hk _ _ _

theorem below_set3 {B0 B k : Nat} {w wr : World} (h : Below B0 w wr) (hB : B0 ≤ B) (a b c : Value) (i j l : Nat) : Below B0 w (((wr.setCell ⟨B, i, none⟩ a).setCell ⟨B, j, none⟩ b).setCell ⟨B, l, none⟩ c) :=
  ((h.setCell (p := ⟨B, i, none⟩) hB _).setCell (p := ⟨B, j, none⟩) hB _).setCell (p := ⟨B, l, none⟩) hB _

set_option maxHeartbeats 1000000 in
theorem toPos_row (b off n cap : Nat) (D S Q : Nat → Int) (w : World) (hn : n ≤ 4096) (hpos : 0 < n) (hcell : ∀ i, i < n → w.cell? ⟨b, off + i * 3, none⟩ = some (.int .u32 (D i)) ∧ w.cell? ⟨b, off + i * 3 + 1, none⟩ = some (.int .u32 (S i)) ∧ w.cell? ⟨b, off + i * 3 + 2, none⟩ = some (.int .u64 (Q i))) :
    Calls Try.prog 10 #[.slice (some ⟨b, off, none⟩) n cap] w fun e w' => e = .returned (.slice (some ⟨w.heap.size, 0, none⟩) n n) ∧ Gs w' w.heap.size n D S Q ∧ Below w.heap.size w w' := by
  have hbB : b < w.heap.size := World.block_lt_of_cell? _ _ (hcell 0 hpos).1
  have hmk := make_gs n hn
  have hn' : (n : Int) ≤ 4096 := by omega
  have hq := fun (w : World) => Lib.run_eql_slice_nil (P := Try.prog) w 22 47 (some ⟨b, off, none⟩) n cap 0 0 Try.underlying22
  have HM := hid (And.intro (made_gs n w) (show Below w.heap.size w (w.alloc (.cells (madeCells #[.int .u32 0, .int .u32 0, .int .u64 0] (n * 3)) 33)) from (Below.refl _ _).alloc (Nat.le_refl _) _))
  have HC := hid hcell
  clear hcell
  go_enter Try.func10, Try.ntmps10
  go_wp2
  go_loopw [4] (fun i wr => ∃ k : Nat, k ≤ n ∧ i = .int .i64 k ∧ Hid (Gs wr w.heap.size n (fun i => if i < k then D i else 0) (fun i => if i < k then S i else 0) (fun i => if i < k then Q i else 0) ∧ Below w.heap.size w wr)) (fun i _ => n - (intOf i).toNat)
  case atStart => exact ⟨0, Nat.zero_le _, rfl, by simpa using HM.out.1, HM.out.2⟩
  case round =>
    clear HM
    obtain ⟨k, hk, rfl, HK⟩ := hrel
    by_cases hlt : k < n
    · have hlt' : (k : Int) < (n : Int) := by omega
      obtain ⟨s1, s2, s3⟩ := HC.out k hlt
      have t1 : wr.cell? ⟨b, off + k * 3, none⟩ = some (.int .u32 (D k)) := (HK.out.2.cell (p := ⟨b, off + k * 3, none⟩) hbB).trans s1
      have t2 : wr.cell? ⟨b, off + k * 3 + 1, none⟩ = some (.int .u32 (S k)) := (HK.out.2.cell (p := ⟨b, off + k * 3 + 1, none⟩) hbB).trans s2
      have t3 : wr.cell? ⟨b, off + k * 3 + 2, none⟩ = some (.int .u64 (Q k)) := (HK.out.2.cell (p := ⟨b, off + k * 3 + 2, none⟩) hbB).trans s3
      clear s1 s2 s3
      go_wp2_with fail
      refine (toGTID_any (D k) (S k) (Q k) wr).mono ?_
      rintro e w2 ⟨rfl, hb2⟩
      have hG : Gs w2 w.heap.size n (fun i => if i < k then D i else 0) (fun i => if i < k then S i else 0) (fun i => if i < k then Q i else 0) := HK.out.1.of_block (hb2.block _ HK.out.1.lt)
      obtain ⟨c1, c2, c3⟩ := hG.cell hlt
      have z1 := hG.frozen (k * 3)
      have z2 := hG.frozen (k * 3 + 1)
      have z3 := hG.frozen (k * 3 + 2)
      have HX := hid (And.intro (gs_step hG hlt) (below_set3 (k := k) (HK.out.2.trans (hb2.mono HK.out.2.size)) (Nat.le_refl w.heap.size) (.int .u32 (D k)) (.int .u32 (S k)) (.int .u64 (Q k)) (k * 3) (k * 3 + 1) (k * 3 + 2)))
      have v1 : ∃ v, w2.cell? ⟨w.heap.size, k * 3, none⟩ = some v := ⟨_, c1⟩
      have v2 : ∃ v, w2.cell? ⟨w.heap.size, k * 3 + 1, none⟩ = some v := ⟨_, c2⟩
      have v3 : ∃ v, w2.cell? ⟨w.heap.size, k * 3 + 2, none⟩ = some v := ⟨_, c3⟩
      clear c1 c2 c3
      obtain ⟨v1, c1⟩ := v1
      obtain ⟨v2, c2⟩ := v2
      obtain ⟨v3, c3⟩ := v3
      clear hG hb2 t1 t2 t3
      go_wp2
      go_roundw
      case rel => exact ⟨k + 1, by omega, by go_num, HX⟩
      case measure => simp [intOf]; omega
    · have hlt' : ¬ (k : Int) < (n : Int) := by omega
      obtain rfl : k = n := by omega
      go_wp2
      go_ret
      refine ⟨rfl, ?_, HK.out.2⟩
      obtain ⟨c, h1, h2, h3⟩ := HK.out.1
      exact ⟨c, h1, h2, fun i hi => by simpa [hi] using h3 i hi⟩

set_option maxHeartbeats 400000 in
theorem toPos_empty (x : Addr) (cap : Nat) (w : World) :
    Calls Try.prog 10 #[.slice (some x) 0 cap] w fun e w' => e = .returned (.slice (some ⟨w.heap.size, 0, none⟩) 0 0) ∧ Gs w' w.heap.size 0 (fun _ => 0) (fun _ => 0) (fun _ => 0) ∧ Below w.heap.size w w' := by
  have hmk : ∀ w : World, (Instr.makeSlice 25 (.int .i64 0) (.int .i64 0)).run Try.prog w = .ok (.slice (some ⟨w.heap.size, 0, none⟩) 0 0) (w.alloc (.cells (madeCells #[.int .u32 0, .int .u32 0, .int .u64 0] 0) 33)) := fun w => make_gs 0 (by omega) w
  have hq := fun (w : World) => Lib.run_eql_slice_nil (P := Try.prog) w 22 47 (some x) 0 cap 0 0 Try.underlying22
  have HM := hid (And.intro (made_gs 0 w) (show Below w.heap.size w (w.alloc (.cells (madeCells #[.int .u32 0, .int .u32 0, .int .u64 0] 0) 33)) from (Below.refl _ _).alloc (Nat.le_refl _) _))
  go_enter Try.func10, Try.ntmps10
  go_wp2
  refine wp_loop_rounds 1 ?_
  rw [rounds_succ]
  go_wp2
  go_ret
  exact ⟨rfl, HM.out.1, HM.out.2⟩

set_option maxHeartbeats 400000 in
theorem toPos_nil (len cap : Nat) (w : World) :
    Calls Try.prog 10 #[.slice none len cap] w fun e w' => e = .returned (.slice none 0 0) ∧ w = w' := by
  have hq := fun (w : World) => Lib.run_eql_slice_nil (P := Try.prog) w 22 47 none len cap 0 0 Try.underlying22
  go_enter Try.func10, Try.ntmps10
  go_wp2
  go_ret
  exact ⟨rfl, rfl⟩

/-- toPosition AT WHATEVER SLICE: a slice of the call's own with the same GTIDs. -/
theorem toPos_any (ao : Option Addr) (n cap : Nat) (D S Q : Nat → Int) (w : World) (hn : n ≤ 4096) (hnil : ao = none → n = 0)
    (hcell : ∀ x, ao = some x → ∀ i, i < n → w.cell? (x.add (i * 3)) = some (.int .u32 (D i)) ∧ w.cell? (x.add (i * 3 + 1)) = some (.int .u32 (S i)) ∧ w.cell? (x.add (i * 3 + 2)) = some (.int .u64 (Q i))) :
    Calls Try.prog 10 #[.slice ao n cap] w fun e w' => ∃ g : Option Nat, e = .returned (.slice (g.map fun b => ⟨b, 0, none⟩) n n) ∧ (g = none → n = 0) ∧ (∀ b, g = some b → Gs w' b n D S Q ∧ w.heap.size ≤ b) ∧ Below w.heap.size w w' := by
  cases ao with
  | none =>
    obtain rfl := hnil rfl
    refine (toPos_nil 0 cap w).mono ?_
    rintro e w' ⟨rfl, rfl⟩
    exact ⟨none, rfl, fun _ => rfl, fun b h => (by cases h), Below.refl _ _⟩
  | some x =>
    by_cases h0 : n = 0
    · subst h0
      refine (toPos_empty x cap w).mono ?_
      rintro e w' ⟨rfl, hg, hb⟩
      obtain ⟨c, c1, c2, c3⟩ := hg
      exact ⟨some w.heap.size, rfl, fun h => (by cases h), fun b h => (by cases h; exact ⟨⟨c, c1, c2, fun i hi => absurd hi (Nat.not_lt_zero i)⟩, Nat.le_refl _⟩), hb⟩
    · obtain ⟨b, off, spot⟩ := x
      have hc := (hcell _ rfl 0 (by omega)).1
      have hspot : spot = none := by simpa [Addr.add] using World.cell?_spot hc
      subst hspot
      refine (toPos_row b off n cap D S Q w hn (by omega) (fun i hi => ?_)).mono ?_
      · have := hcell _ rfl i hi
        simp only [Addr.add_lit] at this
        simpa [Nat.add_assoc] using this
      · rintro e w' ⟨rfl, hg, hb⟩
        exact ⟨some w.heap.size, rfl, fun h => (by cases h), fun b h => (by cases h; exact ⟨hg, Nat.le_refl _⟩), hb⟩
end Go.Proofs.Qxb6601115a
