/-
  FnMakeRoomScriptGrowsOnceAndKeepsHistory (function 5): the walk of the law's own road.
-/
import Derived.Test.Qxb6001347aRoomZ
namespace Go.Proofs.Qxb6001347a.script
open Go.RowKit
set_option linter.unusedVariables false

set_option maxHeartbeats 400000 in
theorem zz_yes (ao : Option Addr) (len cap : Nat) (p s o r : Int) (w : World) (h : len ≤ 1048576) :
    Calls Try.prog 16 #[.slice ao len cap, .int .i64 p, .int .i64 s, .int .i64 o, .int .u8 r] w fun e w' => e = .returned (.bool true) ∧ w = w' := by
  have h1 : (len : Int) ≤ 1048576 := by omega
  go_enter Try.func16, Try.ntmps16
  go_wp2
  go_ret
  exact ⟨rfl, rfl⟩
set_option maxHeartbeats 400000 in
theorem zz_no (ao : Option Addr) (len cap : Nat) (p s o r : Int) (w : World) (h : 1048576 < len) (hm : len ≤ 9223372036854775807) :
    Calls Try.prog 16 #[.slice ao len cap, .int .i64 p, .int .i64 s, .int .i64 o, .int .u8 r] w fun e w' => e = .returned (.bool false) ∧ w = w' := by
  have h1 : (1048576 : Int) < (len : Int) := by omega
  go_enter Try.func16, Try.ntmps16
  go_wp2
  go_ret
  exact ⟨rfl, rfl⟩

theorem hid {p : Prop} (h : p) : Hid p := h

/-- The low byte of a 64-bit position. -/
def lowb (x : Int) : Int := wrap64 x % 256

/-- WHAT HOLDS AT THE HEAD OF ROUND k. -/
def Inv (w : World) (s : Nat) (start : Int) (k : Nat) (ao : Option Addr) (n p W ch : Nat) (o : Int) (wr : World) : Prop :=
  ∃ (g : Option Nat) (f : Nat → Int), (ao = g.map fun b => ⟨b, 0, none⟩) ∧ Buf wr g n f ∧ (∀ b, g = some b → w.heap.size ≤ b) ∧ Below w.heap.size w wr ∧
    wrap64 (o + (p : Int)) = wrap64 (start + (W : Int)) ∧ (∀ j, j < W → j < p → f (p - 1 - j) = lowb (o + ((p - 1 - j : Nat) : Int))) ∧ ((k = 0 ∧ W = 0 ∧ ch = 0) ∨ (0 < k ∧ s + 262144 ≤ n ∧ ch ≤ 1))

/-- INSIDE A ROUND: the bytes from p up to t are laid. -/
def Fill (w : World) (s : Nat) (start : Int) (k : Nat) (ao : Option Addr) (n p W ch : Nat) (o : Int) (t : Nat) (wr : World) : Prop :=
  ∃ (g : Option Nat) (f : Nat → Int), (ao = g.map fun b => ⟨b, 0, none⟩) ∧ Buf wr g n (fun i => if p ≤ i ∧ i < t then lowb (o + (i : Int)) else f i) ∧ (∀ b, g = some b → w.heap.size ≤ b) ∧ Below w.heap.size w wr ∧
    wrap64 (o + (p : Int)) = wrap64 (start + (W : Int)) ∧ (∀ j, j < W → j < p → f (p - 1 - j) = lowb (o + ((p - 1 - j : Nat) : Int))) ∧ ((k = 0 ∧ W = 0 ∧ ch = 0) ∨ (0 < k ∧ s + 262144 ≤ n ∧ ch ≤ 1))

theorem fill_start {w : World} {s : Nat} {start : Int} {k : Nat} {ao : Option Addr} {n p W ch : Nat} {o : Int} {wr : World} (h : Inv w s start k ao n p W ch o wr) : Fill w s start k ao n p W ch o p wr := by
  obtain ⟨g, f, h1, h2, h3, h4, h5, h6, h7⟩ := h
  refine ⟨g, f, h1, ⟨h2.1, fun b e => (h2.2 b e).congr fun i _ => ?_⟩, h3, h4, h5, h6, h7⟩
  have hno : ¬ (p ≤ i ∧ i < p) := by omega
  simp [hno]

theorem fill_step {w : World} {s : Nat} {start : Int} {k : Nat} {ao : Option Addr} {n p W ch : Nat} {o : Int} {t : Nat} {wr : World} (h : Fill w s start k ao n p W ch o t wr) (hp : p ≤ t) (ht : t < n) :
    ∃ b v0, some ⟨b, 0, none⟩ = ao ∧ wr.cell? ⟨b, t, none⟩ = some v0 ∧ wr.frozen? ⟨b, t, none⟩ = false ∧ Fill w s start k ao n p W ch o (t + 1) (wr.setCell ⟨b, t, none⟩ (.int .u8 (lowb (o + (t : Int))))) := by
  obtain ⟨g, f, h1, h2, h3, h4, h5, h6, h7⟩ := h
  cases g with
  | none => have := h2.1 rfl; omega
  | some b =>
    have hr := h2.2 b rfl
    refine ⟨b, _, h1.symm, hr.cell ht, hr.frozen t, some b, f, h1, ⟨fun e => (by cases e), fun b' e => ?_⟩, h3, h4.setCell (p := ⟨b, t, none⟩) (h3 b rfl) _, h5, h6, h7⟩
    cases e
    refine (hr.set t _).congr fun i hi => ?_
    by_cases e : i = t
    · subst e
      have hyes : p ≤ i ∧ i < i + 1 := by omega
      simp [hyes]
    · by_cases h9 : p ≤ i ∧ i < t
      · have h10 : p ≤ i ∧ i < t + 1 := by omega
        simp [e, h9, h10]
      · have h10 : ¬ (p ≤ i ∧ i < t + 1) := by omega
        simp [e, h9, h10]

theorem zzMakeRoom_sl (ao : Option Addr) (g : Option Nat) (hao : ao = g.map fun b => ⟨b, 0, none⟩) (n : Nat) (f : Nat → Int) (pos s : Nat) (origin : Int) (w : World) (hB : Buf w g n f) (hpos : pos ≤ n) (hn : n ≤ 1048576) (hs : s ≤ 65536) :
    Calls Try.prog 13 #[.slice ao n n, .int .i64 pos, .int .i64 pos, .int .i64 s, .int .i64 origin] w fun e w' =>
      ∃ b' n' f' pos' origin', e = .returned (.tuple #[.slice (some ⟨b', 0, none⟩) n' n', .int .i64 (pos' : Nat), .int .i64 (pos' : Nat), .int .i64 s, .int .i64 origin']) ∧ w'.rowIs b' 5 n' (fun i => .int .u8 (f' i)) ∧
        Room n f pos s origin n' f' pos' origin' ∧ (g = some b' ∨ w.heap.size ≤ b') ∧ w.grownBy w' g := by
  subst hao
  rw [← bufVal_slice hB]
  exact zzMakeRoom_any g n f pos s origin w hB hpos hn hs

theorem lowb_congr (x y : Int) (h : (x - y) % 18446744073709551616 = 0) : lowb x = lowb y := by
  unfold lowb wrap64; omega

/-- One round's call of makeRoom, in the law's own words. -/
theorem round_call {w : World} {s : Nat} {start : Int} {k : Nat} {ao : Option Addr} {n p W ch : Nat} {o : Int} {wr : World} (W1 : Nat) (hW1 : W1 = W + (n - p)) (hp : p ≤ n) (hn : n ≤ 1048576) (hs : s ≤ 65536) (h : Fill w s start k ao n p W ch o n wr) :
    Calls Try.prog 13 #[.slice ao n n, .int .i64 n, .int .i64 n, .int .i64 s, .int .i64 o] wr fun e w3 =>
      ∃ (b' n' p' : Nat) (o' : Int) (ch' : Nat), e = .returned (.tuple #[.slice (some ⟨b', 0, none⟩) n' n', .int .i64 p', .int .i64 p', .int .i64 s, .int .i64 o']) ∧ p' < n' ∧ n' ≤ 1048576 ∧ (n' = n ∧ ch' = ch ∨ n < n' ∧ ch' = ch + 1) ∧
        wrap64 (o' + (p' : Int)) = wrap64 (start + (W1 : Int)) ∧ (∀ K, K ≤ s → K ≤ W1 → K ≤ p') ∧ (∀ j, j < W1 → j < p' → w3.cell? ⟨b', p' - 1 - j, none⟩ = some (.int .u8 (lowb (o' + ((p' - 1 - j : Nat) : Int))))) ∧
        Inv w s start (k + 1) (some ⟨b', 0, none⟩) n' p' W1 ch' o' w3 := by
  obtain ⟨g, f, h1, h2, h3, h4, h5, h6, h7⟩ := h
  refine (zzMakeRoom_sl ao g h1 n _ n s o wr h2 (Nat.le_refl _) hn hs).mono ?_
  rintro e w3 ⟨b', n', f', p', o', rfl, hrow, hroom, hb, hgr⟩
  -- the history ahead of the call
  have hist : ∀ j, j < W1 → j < n → (fun i : Nat => if p ≤ i ∧ i < n then lowb (o + (i : Int)) else f i) (n - 1 - j) = lowb (o + ((n - 1 - j : Nat) : Int)) := by
    intro j hj1 hj2
    by_cases hc : p ≤ n - 1 - j
    · have : p ≤ n - 1 - j ∧ n - 1 - j < n := by omega
      simp only [this, and_self, if_true]
    · have hno : ¬ (p ≤ n - 1 - j ∧ n - 1 - j < n) := by omega
      simp only [hno, if_false]
      have := h6 (j - (n - p)) (by omega) (by omega)
      rw [show p - 1 - (j - (n - p)) = n - 1 - j by omega] at this
      exact this
  have hbel : Below w.heap.size w w3 := h4.grown hgr h4.size h3
  have hbb : w.heap.size ≤ b' := by
    rcases hb with hb | hb
    · exact h3 b' hb
    · exact Nat.le_trans h4.size hb
  have hwr : wrap64 (o' + (p' : Int)) = wrap64 (start + (W1 : Int)) := by
    have h8 := (room_plain (Nat.le_refl n) hroom).2.2.1
    rw [h8]
    have : (W1 : Int) = (W : Int) + ((n : Int) - (p : Int)) := by omega
    rw [this]
    unfold wrap64 at h5 ⊢
    omega
  have hhist : ∀ j, j < W1 → j < p' → f' (p' - 1 - j) = lowb (o' + ((p' - 1 - j : Nat) : Int)) := by
    intro j hj1 hj2
    rcases hroom with ⟨r1, rfl, r2, rfl, rfl⟩ | ⟨-, r1, rfl, r2, rfl, rfl⟩ | ⟨-, r1, rfl, r2, rfl, rfl⟩
    · omega
    · rw [r2 _ (by omega)]
      exact hist j hj1 hj2
    · rw [r2 _ (by omega)]
      have h9 := hist j hj1 (by omega)
      rw [show n' - p' + (p' - 1 - j) = n' - 1 - j by omega]
      rw [h9]
      refine lowb_congr _ _ ?_
      have e1 : ((n' - 1 - j : Nat) : Int) = (n' : Int) - 1 - (j : Int) := by omega
      have e2 : ((p' - 1 - j : Nat) : Int) = (p' : Int) - 1 - (j : Int) := by omega
      rw [e1, e2]
      unfold wrap64
      omega
  have hcells : ∀ j, j < W1 → j < p' → p' < n' → w3.cell? ⟨b', p' - 1 - j, none⟩ = some (.int .u8 (lowb (o' + ((p' - 1 - j : Nat) : Int)))) := by
    intro j hj1 hj2 hj3
    rw [← hhist j hj1 hj2]
    exact hrow.cell (by omega)
  have hbuf : Buf w3 (some b') n' f' := ⟨fun e => (by cases e), fun b e => (by cases e; exact hrow)⟩
  rcases hroom with ⟨r1, -⟩ | ⟨-, r1, r3, r2, r4, r5⟩ | ⟨-, r1, r3, r2, r4, r5⟩
  · omega
  · -- it grew: the first round
    have hk0 : k = 0 ∧ W = 0 ∧ ch = 0 := by
      rcases h7 with h7 | ⟨_, h7, _⟩
      · exact h7
      · omega
    refine ⟨b', n', p', o', ch + 1, rfl, by omega, by omega, .inr ⟨by omega, rfl⟩, hwr, fun K _ hK => by omega, fun j hj1 hj2 => hcells j hj1 hj2 (by omega), some b', f', rfl, hbuf, fun b e => (by cases e; exact hbb), hbel, hwr, hhist, .inr ⟨by omega, by omega, by omega⟩⟩
  · refine ⟨b', n', p', o', ch, rfl, by omega, by omega, .inl ⟨r3, rfl⟩, hwr, fun K hK _ => by omega, fun j hj1 hj2 => hcells j hj1 hj2 (by omega), some b', f', rfl, hbuf, fun b e => (by cases e; exact hbb), hbel, hwr, hhist, .inr ⟨by omega, by omega, ?_⟩⟩
    rcases h7 with h7 | ⟨_, _, h7⟩ <;> omega

theorem inv_ch {w : World} {s : Nat} {start : Int} {k : Nat} {ao : Option Addr} {n p W ch : Nat} {o : Int} {wr : World} (h : Inv w s start k ao n p W ch o wr) : ch ≤ 1 := by
  obtain ⟨g, f, -, -, -, -, -, -, h⟩ := h
  rcases h with ⟨-, -, rfl⟩ | ⟨-, -, h⟩ <;> omega
theorem inv_below {w : World} {s : Nat} {start : Int} {k : Nat} {ao : Option Addr} {n p W ch : Nat} {o : Int} {wr : World} (h : Inv w s start k ao n p W ch o wr) : Below w.heap.size w wr := by
  obtain ⟨g, f, -, -, -, h, -⟩ := h
  exact h

set_option maxRecDepth 10000 in
set_option maxHeartbeats 1600000 in
theorem main (ao0 : Option Addr) (n0 cap p0 s R : Nat) (o0 : Int) (f0 : Nat → Int) (w : World) (hn0 : n0 ≤ 1048576) (hs : s ≤ 65536) (hp0 : p0 ≤ n0) (hR : R ≤ 8) (hnil : ao0 = none → n0 = 0) (hcell : ∀ x, ao0 = some x → ∀ i, i < n0 → w.cell? (x.add i) = some (.int .u8 (f0 i))) :
    Calls Try.prog 5 #[.slice ao0 n0 cap, .int .i64 p0, .int .i64 s, .int .i64 o0, .int .u8 R] w fun e w' => e = .returned (.bool true) ∧ Below w.heap.size w w' := by
  have HC : Hid (Calls Try.prog 12 #[.slice ao0 n0 cap] w fun e w' => ∃ g, e = .returned (bufVal g n0) ∧ Buf w' g n0 f0 ∧ Below w.heap.size w w' ∧ (∀ b, g = some b → w.heap.size ≤ b)) := clone_any ao0 n0 cap f0 w hn0 hnil hcell
  clear hnil hcell
  have hn' : (n0 : Int) ≤ 1048576 := by omega
  have hs' : (s : Int) ≤ 65536 := by omega
  have hp' : (p0 : Int) ≤ (n0 : Int) := by omega
  have hR' : (R : Int) ≤ 8 := by omega
  go_enter Try.func5, Try.ntmps5
  go_wp2_with (go_at_call 16; refine (zz_yes ao0 n0 cap p0 s o0 R _ hn0).mono ?_; rintro e w' ⟨rfl, rfl⟩)
  refine HC.out.mono ?_
  rintro e w1 ⟨g1, rfl, hB1, hb1, hn1⟩
  rw [bufVal_slice hB1]
  obtain ⟨ao1, hao1⟩ : ∃ ao1 : Option Addr, ao1 = g1.map fun b => ⟨b, 0, none⟩ := ⟨_, rfl⟩
  rw [← hao1]
  have H1 : Hid (Inv w s (wrap64 (o0 + p0)) 0 ao1 n0 p0 0 0 o0 w1) := ⟨g1, f0, hao1, hB1, hn1, hb1, by simp only [wrap64]; omega, fun j h => absurd h (Nat.not_lt_zero j), .inl ⟨rfl, rfl, rfl⟩⟩
  clear hB1 hb1 hn1 HC hao1
  go_wp2
  go_loopw [0, 1, 2, 3, 13, 14, 15] (fun v0 v1 v2 v3 v13 v14 v15 wr => ∃ (k : Nat) (ao : Option Addr) (n p W ch : Nat) (o : Int), k ≤ R ∧ n ≤ 1048576 ∧ p ≤ n ∧ W ≤ k * 1048576 ∧ ch ≤ k ∧ v0 = .slice ao n n ∧ v1 = .int .i64 p ∧ v2 = .int .i64 s ∧ v3 = .int .i64 o ∧ v13 = .int .i64 W ∧ v14 = .int .i64 ch ∧ v15 = .int .i64 k ∧ Hid (Inv w s (wrap64 (o0 + p0)) k ao n p W ch o wr))
    (fun _ _ _ _ _ _ v15 _ => R - (intOf v15).toNat)
  case atStart => exact ⟨0, ao1, n0, p0, 0, 0, o0, by omega, hn0, hp0, by omega, by omega, rfl, rfl, rfl, rfl, rfl, rfl, rfl, H1⟩
  case round =>
    clear H1 hn0 hp0 hn' hp'
    obtain ⟨k, ao, n, p, W, ch, o, hk, hn, hp, hW, hch, rfl, rfl, rfl, rfl, rfl, rfl, rfl, HI⟩ := hrel
    have q1 : (n : Int) ≤ 1048576 := by omega
    have q2 : (p : Int) ≤ (n : Int) := by omega
    have q3 : (W : Int) ≤ 8388608 := by omega
    have q4 : (ch : Int) ≤ 8 := by omega
    have q5 : (k : Int) ≤ (R : Int) := by omega
    by_cases hlt : k < R
    · have hlt' : (k : Int) < (R : Int) := by omega
      go_wp2
      go_loopw [16] (fun v16 wr2 => ∃ t : Nat, p ≤ t ∧ t ≤ n ∧ v16 = .int .i64 t ∧ Hid (Fill w s (wrap64 (o0 + p0)) k ao n p W ch o t wr2)) (fun v16 _ => n - (intOf v16).toNat)
      case atStart => exact ⟨p, Nat.le_refl _, hp, rfl, fill_start HI.out⟩
      case round =>
        clear HI
        obtain ⟨t, ht1, ht2, rfl, HF⟩ := hrel
        by_cases htn : t < n
        · obtain ⟨b, v0, rfl, hc, hfz, hnext⟩ := fill_step HF.out ht1 htn
          have HN : Hid (Fill w s (wrap64 (o0 + p0)) k (some ⟨b, 0, none⟩) n p W ch o (t + 1) (_)) := hnext
          clear hnext HF
          have htn' : (t : Int) < (n : Int) := by omega
          go_wp2
          go_roundw
          case rel => exact ⟨t + 1, by omega, by omega, by go_num, HN⟩
          case measure => simp [intOf]; omega
        · have htn' : ¬ (t : Int) < (n : Int) := by omega
          obtain rfl : t = n := by omega
          go_wp2_with fail
          obtain ⟨W1, hW1⟩ : ∃ W1 : Nat, W1 = W + (t - p) := ⟨_, rfl⟩
          have hW1i : (W : Int) + ((t : Int) - (p : Int)) = (W1 : Int) := by omega
          have HR := hid (round_call W1 hW1 hp hn hs HF.out)
          have q7 : (W1 : Int) ≤ 9437184 := by omega
          have H6 : Hid (W1 ≤ (k + 1) * 1048576) := show W1 ≤ (k + 1) * 1048576 by omega
          clear hW
          rw [hW1i]
          refine HR.out.mono ?_
          rintro e w3 ⟨b', n', p', o', ch', rfl, hpn, hn1, hch1, hwr, hJ1, hJ2, hJ3⟩
          have HJ : Hid ((∀ K, K ≤ s → K ≤ W1 → K ≤ p') ∧ (∀ j, j < W1 → j < p' → w3.cell? ⟨b', p' - 1 - j, none⟩ = some (.int .u8 (lowb (o' + ((p' - 1 - j : Nat) : Int))))) ∧ Inv w s (wrap64 (o0 + p0)) (k + 1) (some ⟨b', 0, none⟩) n' p' W1 ch' o' w3) := ⟨hJ1, hJ2, hJ3⟩
          clear hJ1 hJ2 hJ3 HR HF hW1i hW1
          have hpn' : (p' : Int) < (n' : Int) := by omega
          have hn1' : (n' : Int) ≤ 1048576 := by omega
          rcases hch1 with ⟨e1, e2⟩ | ⟨e1, e2⟩
          · subst e1 e2
            by_cases hkeep : W1 < s
            · have hkeep' : (W1 : Int) < (s : Int) := by omega
              have hK1 : W1 ≤ s := by omega
              have hK2 : W1 ≤ W1 := by omega
              have hK3 : (W1 : Int) ≤ (p' : Int) := by have := HJ.out.1 W1 hK1 hK2; omega
              go_wp2
              go_loopw [19] (fun v19 wr3 => ∃ j : Nat, j ≤ W1 ∧ v19 = .int .i64 j ∧ wr3 = w3) (fun v19 _ => W1 - (intOf v19).toNat)
              case atStart => exact ⟨0, Nat.zero_le _, rfl, rfl⟩
              case round =>
                obtain ⟨j, hj, rfl, rfl⟩ := hrel
                by_cases hjK : j < W1
                · have hcx := HJ.out.2.1 j (by omega) (by omega)
                  rw [show ((p' - 1 - j : Nat) : Int) = (p' : Int) - 1 - (j : Int) by omega] at hcx
                  unfold lowb at hcx
                  have i1 : (0 : Int) ≤ (p' : Int) - 1 - (j : Int) := by omega
                  have i2 : (p' : Int) - 1 - (j : Int) < (n' : Int) := by omega
                  have hjK' : (j : Int) < (W1 : Int) := by omega
                  go_wp2
                  go_roundw
                  case rel => first | exact ⟨j + 1, by omega, by go_num, rfl⟩ | exact ⟨j + 1, by omega, by go_num, trivial⟩
                  case measure => simp [intOf]; omega
                · have hjK' : ¬ (j : Int) < (W1 : Int) := by omega
                  go_wp2
                  go_roundw
                  case rel => exact ⟨k + 1, some ⟨b', 0, none⟩, n', p', W1, ch', o', by omega, hn1, by omega, H6.out, by omega, rfl, rfl, rfl, rfl, rfl, by go_num, by go_num, HJ.out.2.2⟩
                  case measure => simp [intOf]; omega
            · have hkeep' : ¬ (W1 : Int) < (s : Int) := by omega
              have hK1 : s ≤ s := by omega
              have hK2 : s ≤ W1 := by omega
              have hK3 : (s : Int) ≤ (p' : Int) := by have := HJ.out.1 s hK1 hK2; omega
              go_wp2
              go_loopw [19] (fun v19 wr3 => ∃ j : Nat, j ≤ s ∧ v19 = .int .i64 j ∧ wr3 = w3) (fun v19 _ => s - (intOf v19).toNat)
              case atStart => exact ⟨0, Nat.zero_le _, rfl, rfl⟩
              case round =>
                obtain ⟨j, hj, rfl, rfl⟩ := hrel
                by_cases hjK : j < s
                · have hcx := HJ.out.2.1 j (by omega) (by omega)
                  rw [show ((p' - 1 - j : Nat) : Int) = (p' : Int) - 1 - (j : Int) by omega] at hcx
                  unfold lowb at hcx
                  have i1 : (0 : Int) ≤ (p' : Int) - 1 - (j : Int) := by omega
                  have i2 : (p' : Int) - 1 - (j : Int) < (n' : Int) := by omega
                  have hjK' : (j : Int) < (s : Int) := by omega
                  go_wp2
                  go_roundw
                  case rel => first | exact ⟨j + 1, by omega, by go_num, rfl⟩ | exact ⟨j + 1, by omega, by go_num, trivial⟩
                  case measure => simp [intOf]; omega
                · have hjK' : ¬ (j : Int) < (s : Int) := by omega
                  go_wp2
                  go_roundw
                  case rel => exact ⟨k + 1, some ⟨b', 0, none⟩, n', p', W1, ch', o', by omega, hn1, by omega, H6.out, by omega, rfl, rfl, rfl, rfl, rfl, by go_num, by go_num, HJ.out.2.2⟩
                  case measure => simp [intOf]; omega
          · subst e2
            have e1' : (t : Int) < (n' : Int) := by omega
            by_cases hkeep : W1 < s
            · have hkeep' : (W1 : Int) < (s : Int) := by omega
              have hK1 : W1 ≤ s := by omega
              have hK2 : W1 ≤ W1 := by omega
              have hK3 : (W1 : Int) ≤ (p' : Int) := by have := HJ.out.1 W1 hK1 hK2; omega
              go_wp2
              go_loopw [19] (fun v19 wr3 => ∃ j : Nat, j ≤ W1 ∧ v19 = .int .i64 j ∧ wr3 = w3) (fun v19 _ => W1 - (intOf v19).toNat)
              case atStart => exact ⟨0, Nat.zero_le _, rfl, rfl⟩
              case round =>
                obtain ⟨j, hj, rfl, rfl⟩ := hrel
                by_cases hjK : j < W1
                · have hcx := HJ.out.2.1 j (by omega) (by omega)
                  rw [show ((p' - 1 - j : Nat) : Int) = (p' : Int) - 1 - (j : Int) by omega] at hcx
                  unfold lowb at hcx
                  have i1 : (0 : Int) ≤ (p' : Int) - 1 - (j : Int) := by omega
                  have i2 : (p' : Int) - 1 - (j : Int) < (n' : Int) := by omega
                  have hjK' : (j : Int) < (W1 : Int) := by omega
                  go_wp2
                  go_roundw
                  case rel => first | exact ⟨j + 1, by omega, by go_num, rfl⟩ | exact ⟨j + 1, by omega, by go_num, trivial⟩
                  case measure => simp [intOf]; omega
                · have hjK' : ¬ (j : Int) < (W1 : Int) := by omega
                  go_wp2
                  go_roundw
                  case rel => exact ⟨k + 1, some ⟨b', 0, none⟩, n', p', W1, ch + 1, o', by omega, hn1, by omega, H6.out, by omega, rfl, rfl, rfl, rfl, rfl, by go_num, by go_num, HJ.out.2.2⟩
                  case measure => simp [intOf]; omega
            · have hkeep' : ¬ (W1 : Int) < (s : Int) := by omega
              have hK1 : s ≤ s := by omega
              have hK2 : s ≤ W1 := by omega
              have hK3 : (s : Int) ≤ (p' : Int) := by have := HJ.out.1 s hK1 hK2; omega
              go_wp2
              go_loopw [19] (fun v19 wr3 => ∃ j : Nat, j ≤ s ∧ v19 = .int .i64 j ∧ wr3 = w3) (fun v19 _ => s - (intOf v19).toNat)
              case atStart => exact ⟨0, Nat.zero_le _, rfl, rfl⟩
              case round =>
                obtain ⟨j, hj, rfl, rfl⟩ := hrel
                by_cases hjK : j < s
                · have hcx := HJ.out.2.1 j (by omega) (by omega)
                  rw [show ((p' - 1 - j : Nat) : Int) = (p' : Int) - 1 - (j : Int) by omega] at hcx
                  unfold lowb at hcx
                  have i1 : (0 : Int) ≤ (p' : Int) - 1 - (j : Int) := by omega
                  have i2 : (p' : Int) - 1 - (j : Int) < (n' : Int) := by omega
                  have hjK' : (j : Int) < (s : Int) := by omega
                  go_wp2
                  go_roundw
                  case rel => first | exact ⟨j + 1, by omega, by go_num, rfl⟩ | exact ⟨j + 1, by omega, by go_num, trivial⟩
                  case measure => simp [intOf]; omega
                · have hjK' : ¬ (j : Int) < (s : Int) := by omega
                  go_wp2
                  go_roundw
                  case rel => exact ⟨k + 1, some ⟨b', 0, none⟩, n', p', W1, ch + 1, o', by omega, hn1, by omega, H6.out, by omega, rfl, rfl, rfl, rfl, rfl, by go_num, by go_num, HJ.out.2.2⟩
                  case measure => simp [intOf]; omega
    · have hlt' : ¬ (k : Int) < (R : Int) := by omega
      have hc1 : (ch : Int) ≤ 1 := by have := inv_ch HI.out; omega
      go_wp2
      go_ret
      exact ⟨rfl, inv_below HI.out⟩
end Go.Proofs.Qxb6001347a.script
