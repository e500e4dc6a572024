/-
  FnBeyondOfNothingCountsAll (function 6): the walk of the law's own road.
-/
import Derived.Test.Qxb6601115aBey
namespace Go.Proofs.Qxb6601115a
open Go.RowKit
set_option linter.unusedVariables false

set_option maxHeartbeats 400000 in
theorem zz_yes (ao : Option Addr) (len cap : Nat) (w : World) (h : len ≤ 1048576) :
    Calls Try.prog 16 #[.slice ao len cap] w fun e w' => e = .returned (.bool true) ∧ w = w' := by
  have h1 : (len : Int) ≤ 1048576 := by omega
  go_enter Try.func16, Try.ntmps16
  go_wp2
  go_ret
  exact ⟨rfl, rfl⟩
set_option maxHeartbeats 400000 in
theorem zz_no (ao : Option Addr) (len cap : Nat) (w : World) (h : 1048576 < len) (hm : len ≤ 9223372036854775807) :
    Calls Try.prog 16 #[.slice ao len cap] w fun e w' => e = .returned (.bool false) ∧ w = w' := by
  have h1 : (1048576 : Int) < (len : Int) := by omega
  go_enter Try.func16, Try.ntmps16
  go_wp2
  go_ret
  exact ⟨rfl, rfl⟩

/-- The sum of all sequences, as uint64 adds. -/
def sq (Q : Nat → Int) : Nat → Int
  | 0 => 0
  | k + 1 => IntKind.u64.wrap (sq Q k + Q k)
theorem sq_range (Q : Nat → Int) (k : Nat) : 0 ≤ sq Q k ∧ sq Q k ≤ 18446744073709551615 := by
  cases k with
  | zero => simp [sq]
  | succ k =>
    show 0 ≤ IntKind.u64.wrap _ ∧ IntKind.u64.wrap _ ≤ _
    rw [IntKind.wrap_u64]
    omega
theorem sq_zero {Q : Nat → Int} {k : Nat} (h : Q k = 0) : IntKind.u64.wrap (sq Q k) = sq Q (k + 1) := by
  show _ = IntKind.u64.wrap (sq Q k + Q k)
  rw [h, Int.add_zero]

/-- The plain law: what was left out adds nothing. -/
theorem sm_sel (D S Q : Nat → Int) (k : Nat) : smL (sel D S Q k) = sq Q k := by
  induction k with
  | zero => rfl
  | succ k ih =>
    by_cases h : Q k = 0
    · rw [sel_miss h, ih]
      show sq Q k = IntKind.u64.wrap (sq Q k + Q k)
      have := sq_range Q k
      rw [h, IntKind.wrap_u64]
      omega
    · rw [sel_hit h]
      unfold smL at ih ⊢
      rw [List.foldl_append, ih]
      rfl
theorem sel_q {D S Q : Nat → Int} {n : Nat} (hQ : ∀ i, i < n → 0 ≤ Q i ∧ Q i ≤ 18446744073709551615) : ∀ k, k ≤ n → ∀ t ∈ sel D S Q k, 0 ≤ t.2.2 ∧ t.2.2 ≤ 18446744073709551615 := by
  intro k
  induction k with
  | zero => intro _ t ht; simp [sel] at ht
  | succ k ih =>
    intro hk t ht
    by_cases h : Q k = 0
    · rw [sel_miss h] at ht
      exact ih (by omega) t ht
    · rw [sel_hit h, List.mem_append] at ht
      rcases ht with ht | ht
      · exact ih (by omega) t ht
      · simp at ht
        subst ht
        exact hQ k (by omega)

/-- The position in memory. -/
def PosIn (w : World) (ao : Option Addr) (n : Nat) (D S Q : Nat → Int) : Prop :=
  ∃ g : Option Nat, (ao = g.map fun b => ⟨b, 0, none⟩) ∧ (g = none → n = 0) ∧ ∀ b, g = some b → Gs w b n D S Q
theorem PosIn.below {w w' : World} {ao : Option Addr} {n : Nat} {D S Q : Nat → Int} (h : PosIn w ao n D S Q) (hb : Below w.heap.size w w') : PosIn w' ao n D S Q := by
  obtain ⟨g, h1, h2, h3⟩ := h
  exact ⟨g, h1, h2, fun b e => (h3 b e).of_block (hb.block b (h3 b e).lt)⟩
theorem PosIn.seqAt {w : World} {ao : Option Addr} {n : Nat} {D S Q : Nat → Int} (h : PosIn w ao n D S Q) {k : Nat} (hk : k < n) : ∃ b, some ⟨b, 0, none⟩ = ao ∧ w.cell? ⟨b, k * 3 + 2, none⟩ = some (.int .u64 (Q k)) := by
  obtain ⟨g, h1, h2, h3⟩ := h
  cases g with
  | none => have := h2 rfl; omega
  | some b => exact ⟨b, h1.symm, ((h3 b rfl).cell hk).2.2⟩

/-- What Beyond hands back. -/
def Bey (w0 : World) (D S Q : Nat → Int) (n : Nat) (ao : Option Addr) (c cap : Nat) (w' : World) : Prop :=
  c = (sel D S Q n).length ∧ w'.ownsRow w0.heap.size 35 6 (.slice ao c cap) c (rgs (sel D S Q n)) ∧ ((ao = none ∧ sel D S Q n = [] ∧ cap = 0) ∨ ∃ g, ao = some ⟨g, 0, none⟩) ∧ Below w0.heap.size w0 w'

theorem bey_c {wx : World} {ao1 : Option Addr} {n c : Nat} {D S Q : Nat → Int} (hP : PosIn wx ao1 n D S Q) (hc : c = (sel D S Q n).length) (hn : n ≤ 4096) (hQ : ∀ i, i < n → 0 ≤ Q i ∧ Q i ≤ 18446744073709551615) (aq : Option Addr) (cq : Nat) :
    Calls Try.prog 11 #[.slice ao1 n n, .slice aq 0 cq] wx fun e w' => ∃ ao2 cap2, e = .returned (.slice ao2 c cap2) ∧ Bey wx D S Q n ao2 c cap2 w' := by
  obtain ⟨g, h1, h2, h3⟩ := hP
  subst h1
  refine (beyond_any g n D S Q aq cq wx hn h2 h3 hQ).mono ?_
  rintro e w' ⟨v, rfl, ho, hb⟩
  obtain ⟨ao2, cap2, rfl, hsh⟩ := own_shape ho
  subst hc
  exact ⟨ao2, cap2, rfl, rfl, ho, hsh, hb⟩

theorem cnt_c {w0 w' : World} {ao2 : Option Addr} {n c cap2 : Nat} {D S Q : Nat → Int} (h : Bey w0 D S Q n ao2 c cap2 w') (hn : n ≤ 4096) (hQ : ∀ i, i < n → 0 ≤ Q i ∧ Q i ≤ 18446744073709551615) :
    Calls Try.prog 17 #[.slice ao2 c cap2] w' fun e w'' => e = .returned (.int .u64 (sq Q n)) ∧ Below w'.heap.size w' w'' := by
  obtain ⟨hc, ho, hsh, hb⟩ := h
  subst hc
  rw [← sm_sel D S Q n]
  exact count_any ao2 cap2 _ _ w' ho hsh (Nat.le_trans (sel_le D S Q n) hn) (sel_q hQ n (Nat.le_refl _))

set_option maxRecDepth 10000 in
set_option maxHeartbeats 1600000 in
theorem main (ao : Option Addr) (n cap : Nat) (D S Q : Nat → Int) (w : World) (hn : n ≤ 4096) (hnil : ao = none → n = 0)
    (hcell : ∀ x, ao = some x → ∀ i, i < n → w.cell? (x.add (i * 3)) = some (.int .u32 (D i)) ∧ w.cell? (x.add (i * 3 + 1)) = some (.int .u32 (S i)) ∧ w.cell? (x.add (i * 3 + 2)) = some (.int .u64 (Q i))) (hQ : ∀ i, i < n → 0 ≤ Q i ∧ Q i ≤ 18446744073709551615) :
    Calls Try.prog 6 #[.slice ao n cap] w fun e w' => e = .returned (.bool true) ∧ Below w.heap.size w w' := by
  have hn' : (n : Int) ≤ 4096 := by omega
  have HC := hid (toPos_any ao n cap D S Q w hn hnil hcell)
  have HQ := hid hQ
  clear hnil hcell hQ
  go_enter Try.func6, Try.ntmps6
  go_wp2_with (go_at_call 16; refine (zz_yes ao n cap _ (by omega)).mono ?_; rintro e w' ⟨rfl, rfl⟩)
  refine HC.out.mono ?_
  rintro e w1 ⟨g, rfl, hg0, hg1, hb1⟩
  obtain ⟨ao1, hao1⟩ : ∃ ao1 : Option Addr, ao1 = g.map fun b => ⟨b, 0, none⟩ := ⟨_, rfl⟩
  rw [← hao1]
  have HP := hid (show PosIn w1 ao1 n D S Q from ⟨g, hao1, hg0, fun b e => (hg1 b e).1⟩)
  have HB := hid hb1
  clear HC hao1 hg0 hg1 hb1
  go_wp2
  go_loop [4, 5, 6] (fun s4 s5 s6 => ∃ (k c : Nat) (x : Int), k ≤ n ∧ c ≤ k ∧ s6 = .int .i64 k ∧ s5 = .int .i64 c ∧ s4 = .int .u64 x ∧ Hid (x = sq Q k ∧ c = (sel D S Q k).length)) (fun _ _ s6 => n - (intOf s6).toNat)
  case atStart => exact ⟨0, 0, 0, Nat.zero_le _, Nat.zero_le _, rfl, rfl, rfl, rfl, rfl⟩
  case round =>
    obtain ⟨k, c, x, hk, hck, rfl, rfl, rfl, HK⟩ := hrel
    by_cases hlt : k < n
    · have hlt' : (k : Int) < (n : Int) := by omega
      obtain ⟨q0, q1⟩ := HQ.out k hlt
      obtain ⟨b, rfl, hcx⟩ := HP.out.seqAt hlt
      by_cases hq : Q k = 0
      · have HX := hid (And.intro hq (sel_miss (D := D) (S := S) hq))
        rw [hq] at hcx
        clear hq q0 q1
        go_wp2
        go_round
        case rel => exact ⟨k + 1, c, _, by omega, by omega, by go_num, by go_num, rfl, by rw [HK.out.1]; exact sq_zero HX.out.1, by rw [HX.out.2]; exact HK.out.2⟩
        case measure => simp [intOf]; omega
      · have hq' : (Q k != 0) = true := by simpa using hq
        have HX := hid (sel_hit (D := D) (S := S) hq)
        clear hq
        go_wp2
        go_round
        case rel => exact ⟨k + 1, c + 1, _, by omega, by omega, by go_num, by go_num, rfl, by rw [HK.out.1]; rfl, by rw [HX.out, List.length_append, ← HK.out.2]; rfl⟩
        case measure => simp [intOf]; omega
    · have hlt' : ¬ (k : Int) < (n : Int) := by omega
      obtain rfl : k = n := by omega
      have HBey1 := hid (bey_c HP.out HK.out.2 hn HQ.out none 0)
      go_wp2_with fail
      refine HBey1.out.mono ?_
      rintro e w2 ⟨ao2, cap2, rfl, hY⟩
      have HC1 := hid (cnt_c hY hn HQ.out)
      rw [← HK.out.1] at HC1
      have HB2 := hid hY.2.2.2
      clear hY HBey1
      go_wp2_with fail
      refine HC1.out.mono ?_
      rintro e w3 ⟨rfl, hb3⟩
      have HB3 := hid (HB2.out.trans (hb3.mono HB2.out.size))
      clear hb3 HC1 HB2
      go_wp2_with fail
      have hb4 : Below w1.heap.size w1 (w3.alloc (.cells #[] 33)) := HB3.out.alloc HB3.out.size _
      refine (bey_c (HP.out.below hb4) HK.out.2 hn HQ.out (some ⟨w3.heap.size, 0, none⟩) 0).mono ?_
      rintro e w5 ⟨ao5, cap5, rfl, hY⟩
      have HC5 := hid (cnt_c hY hn HQ.out)
      rw [← HK.out.1] at HC5
      have HB5 := hid (hb4.trans (hY.2.2.2.mono hb4.size))
      clear hY hb4 HB3
      go_wp2_with fail
      refine HC5.out.mono ?_
      rintro e w6 ⟨rfl, hb6⟩
      have HB6 := hid (HB5.out.trans (hb6.mono HB5.out.size))
      clear hb6 HC5 HB5
      go_wp2
      go_ret
      exact ⟨rfl, HB.out.trans (HB6.out.mono HB.out.size)⟩
end Go.Proofs.Qxb6601115a
