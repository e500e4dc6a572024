/-
  FnTreeTouchesOnlyItsPath (function 10): the walk of the law's own road.
-/
import Derived.Test.Qxb6001347aTreeC
namespace Go.Proofs.Qxb6001347a.treeLaw
open Go.RowKit
set_option linter.unusedVariables false

theorem hid {p : Prop} (h : p) : Hid p := h

theorem src_of {w1 w2 : World} {g : Option Nat} {lin : Nat} {fin : Nat → Int} {ao : Option Addr} (hB : Buf w1 g lin fin) (ha : ao = g.map fun b => ⟨b, 0, none⟩) (hb : Below w1.heap.size w1 w2) :
    ∀ j, j < lin → ∃ ad, ao = some ad ∧ w2.cell? (ad.add j) = some (.int .u8 (fin j)) := by
  intro j hj
  cases g with
  | none => have := hB.1 rfl; omega
  | some b =>
    have hr := hB.2 b rfl
    refine ⟨⟨b, 0, none⟩, ha, ?_⟩
    rw [Addr.add_lit, Nat.zero_add]
    exact (hb.cell (p := ⟨b, j, none⟩) hr.lt).trans (hr.cell hj)

/-- The first probability is on no path. -/
theorem zero_same {N n m : Nat} {f f' : Nat → Int} (hN : N = 2 ^ n) (hm : N ≤ m) (h : ∀ i, f' i ≠ f i → ∃ j, j < n ∧ i = m / 2 ^ (n - j)) : f' 0 = f 0 := by
  by_cases e : f' 0 = f 0
  · exact e
  · obtain ⟨j, hj, h0⟩ := h 0 e
    have h1 : 2 ^ (n - j) ≤ m := Nat.le_trans (Nat.pow_le_pow_right (by omega) (Nat.sub_le n j)) (by omega)
    have h2 : 0 < m / 2 ^ (n - j) := Nat.div_pos h1 (Nat.two_pow_pos _)
    omega

theorem or_path {N n m : Nat} (hN : N = 2 ^ n) (h1 : N ≤ m) (h2 : m < 2 * N) (h3 : N ≤ 65536) : bits .or .u32 ((m : Int) - (N : Int)) (N : Int) = (m : Int) := by
  rw [u32_or _ _ (by omega) (by omega) (by omega) (by omega), show ((m : Int) - (N : Int)).toNat = m - N by omega, Int.toNat_natCast]
  have h4 : m - N < 2 ^ n := by omega
  have h5 := Nat.two_pow_add_eq_or_of_lt h4 1
  rw [Nat.mul_one] at h5
  rw [← hN] at h5
  rw [Nat.or_comm, ← h5]
  omega

theorem back (ip : Int) (d : Nat) (hip : -9223372036854775808 ≤ ip ∧ ip ≤ 9223372036854775807) (hd : d ≤ 16) : wrap64 (wrap64 (ip + (d : Int)) - ip) = (d : Int) := by
  unfold wrap64; omega

/-- The first j + 1 bits of m, as a number, have the length j + 1. -/
theorem len_facts {N n m i L : Nat} (h : ∃ j, j < n ∧ i = m / 2 ^ (n - j)) (hL : i < 2 ^ L ∧ (0 < L → 2 ^ (L - 1) ≤ i)) (hN : N = 2 ^ n) (h1 : N ≤ m) (h2 : m < 2 * N) : 1 ≤ L ∧ L ≤ n ∧ i = m / 2 ^ (n + 1 - L) := by
  obtain ⟨j, hj, e⟩ := h
  have hp : 0 < 2 ^ (n - j) := Nat.two_pow_pos _
  have e1 : 2 ^ n = 2 ^ j * 2 ^ (n - j) := by rw [← Nat.pow_add]; congr 1; omega
  have e2 : 2 ^ (n + 1) = 2 ^ (j + 1) * 2 ^ (n - j) := by rw [← Nat.pow_add]; congr 1; omega
  have e3 : 2 ^ (n + 1) = 2 * N := by rw [Nat.pow_succ, hN]; omega
  have lo : 2 ^ j ≤ i := by
    rw [e]
    exact (Nat.le_div_iff_mul_le hp).2 (by rw [← e1]; omega)
  have hi : i < 2 ^ (j + 1) := by
    rw [e]
    exact (Nat.div_lt_iff_lt_mul hp).2 (by rw [← e2]; omega)
  have hL1 : L = j + 1 := by
    by_cases h3 : L ≤ j
    · have : 2 ^ L ≤ 2 ^ j := Nat.pow_le_pow_right (by omega) h3
      omega
    · by_cases h4 : j + 1 < L
      · have h5 := hL.2 (by omega)
        have : 2 ^ (j + 1) ≤ 2 ^ (L - 1) := Nat.pow_le_pow_right (by omega) (by omega)
        omega
      · omega
  refine ⟨by omega, by omega, ?_⟩
  rw [e, hL1]
  congr 2
  omega
theorem len_le {N n m i L : Nat} (h : ∃ j, j < n ∧ i = m / 2 ^ (n - j)) (hL : i < 2 ^ L ∧ (0 < L → 2 ^ (L - 1) ≤ i)) (hN : N = 2 ^ n) (h1 : N ≤ m) (h2 : m < 2 * N) : 1 ≤ L ∧ L ≤ n :=
  ⟨(len_facts h hL hN h1 h2).1, (len_facts h hL hN h1 h2).2.1⟩

theorem shr_same {i m k : Nat} (h : i = m / 2 ^ k) : ((i : Int) != (m : Int) / 2 ^ k) = false := by
  have e : ((m / 2 ^ k : Nat) : Int) = (m : Int) / 2 ^ k := by simp
  rw [h, e]
  simp

set_option maxRecDepth 10000 in
set_option maxHeartbeats 1600000 in
theorem main (r c ip : Int) (ain : Option Addr) (lin cin : Nat) (fin : Nat → Int) (bp off N capp n : Nat) (f : Nat → Int) (w : World) (hr : 0 ≤ r ∧ r < 4294967296 ∧ 0 ≤ c ∧ c < 4294967296) (hip : -9223372036854775808 ≤ ip ∧ ip ≤ 9223372036854775807) (hn : 1 ≤ n) (hn2 : n ≤ 16) (hN : N = 2 ^ n)
    (hlin : lin ≤ 65536) (hnil : ain = none → lin = 0) (hin : ∀ x, ain = some x → ∀ i, i < lin → w.cell? (x.add i) = some (.int .u8 (fin i))) (hfin : ∀ j, j < lin → 0 ≤ fin j ∧ fin j ≤ 255)
    (hcell : ∀ i, i < N → w.cell? ⟨bp, off + i, none⟩ = some (.int .u16 (f i))) (hf : ∀ i, 0 ≤ f i ∧ f i < 65536) :
    Calls Try.prog 10 #[.int .u32 r, .int .u32 c, .int .i64 ip, .slice ain lin cin, .slice (some ⟨bp, off, none⟩) N capp, .int .u64 n] w fun e w' => e = .returned (.bool true) ∧ Below w.heap.size w w' := by
  have hN1 : 2 ≤ N := by
    rw [hN]
    calc 2 = 2 ^ 1 := rfl
      _ ≤ 2 ^ n := Nat.pow_le_pow_right (by omega) hn
  have hN2 : N ≤ 65536 := by
    rw [hN]
    calc 2 ^ n ≤ 2 ^ 16 := Nat.pow_le_pow_right (by omega) hn2
      _ = 65536 := rfl
  have hpow : ((2 : Int) ^ n) = (N : Int) := by rw [hN]; simp
  have b1 : (2 : Int) ≤ (N : Int) := by omega
  have b2 : (N : Int) ≤ 65536 := by omega
  have b3 : (lin : Int) ≤ 65536 := by omega
  have b4 : (n : Int) ≤ 16 := by omega
  have b5 : (1 : Int) ≤ (n : Int) := by omega
  have HC := hid (clone_any ain lin cin fin w (by omega) hnil hin)
  have HN := hid hN
  have HFI := hid hfin
  have HCE := hid hcell
  have HF := hid hf
  clear hnil hin hN hfin hcell hf
  go_enter Try.func10, Try.ntmps10
  go_wp2_with (go_at_call 25; refine (zz25_yes ain (some ⟨bp, off, none⟩) lin cin N capp r c ip n _ (by omega)).mono ?_; rintro e w' ⟨rfl, rfl⟩)
  refine HC.out.mono ?_
  rintro e w1 ⟨g1, rfl, hB1, hb1, hn1⟩
  rw [bufVal_slice hB1]
  obtain ⟨ao1, hao1⟩ : ∃ ao1 : Option Addr, ao1 = g1.map fun b => ⟨b, 0, none⟩ := ⟨_, rfl⟩
  rw [← hao1]
  have H1 := hid (And.intro hB1 (And.intro hb1 hao1))
  clear hB1 hb1 hn1 hao1 HC
  go_wp2_with fail
  refine (clone16_row bp off N capp f w1 (by omega) (by omega) (fun i hi => cell_later H1.out.2.1 (HCE.out i hi))).mono ?_
  rintro e w2 ⟨rfl, hrow2, hb2⟩
  have HZ := hid (zzTree_any r c ip ao1 lin lin fin w1.heap.size N n f w2 hr hip hn hn2 HN.out hlin (src_of H1.out.1 H1.out.2.2 hb2) HFI.out hrow2 HF.out)
  have H2 := hid (And.intro hrow2 hb2)
  clear hrow2 hb2 HCE
  go_wp2_with fail
  refine HZ.out.mono ?_
  rintro e w3 ⟨r', c', d, m, go, f', rfl, hd, hm1, hm2, hrow3, hP, hb3, hgo⟩
  have hbel : Below w.heap.size w w3 := (H1.out.2.1.trans (H2.out.2.mono H1.out.2.1.size)).trans (hb3.mono (Nat.le_trans H1.out.2.1.size H2.out.2.size))
  have hrow4 : w3.rowIs w1.heap.size 30 N (fun i => .int .u16 (f i)) := H2.out.1.of_block (hb3.block _ H2.out.1.lt)
  have H3 := hid (And.intro hrow3 (And.intro hrow4 (And.intro hP hbel)))
  have c0 := hrow3.cell (i := 0) (by omega)
  have c1 := hrow4.cell (i := 0) (by omega)
  rw [zero_same HN.out hm1 hP] at c0
  have hor := or_path HN.out hm1 hm2 hN2
  have hbk := back ip d hip (by omega)
  clear hrow3 hrow4 hP hbel hb3 HZ H1 H2 HFI
  have m1 : (N : Int) ≤ (m : Int) := by omega
  have m2 : (m : Int) < 2 * (N : Int) := by omega
  have d1 : (d : Int) ≤ (n : Int) := by omega
  have i0 : (0 : Int) < (N : Int) := by omega
  have hnd : ¬ n < d := by omega
  go_wp2
  go_quiet (fail)
  go_wp2
  clear c0 c1
  go_loopw [20] (fun s20 wr => ∃ i : Nat, 1 ≤ i ∧ i ≤ N ∧ s20 = .int .i64 i ∧ ∃ q, wr = w3.drewN q) (fun s20 _ => N - (intOf s20).toNat)
  case atStart => exact ⟨1, Nat.le_refl _, by omega, rfl, nq, rfl⟩
  case round =>
    obtain ⟨i, hi1, hiN, rfl, q, rfl⟩ := hrel
    have hi1' : (1 : Int) ≤ (i : Int) := by omega
    have hiN' : (i : Int) ≤ (N : Int) := by omega
    by_cases hlt : i < N
    · have hlt' : (i : Int) < (N : Int) := by omega
      have ci1 := H3.out.1.cell hlt
      have ci2 := H3.out.2.1.cell hlt
      by_cases heq : f' i = f i
      · rw [heq] at ci1
        clear heq
        go_wp2
        go_quiet (fail)
        go_wp2
        go_roundw
        case rel => exact ⟨i + 1, by omega, by omega, by go_num, _, rfl⟩
        case measure => simp [intOf]; omega
      · obtain ⟨x, hx⟩ : ∃ x, x = f' i := ⟨_, rfl⟩
        obtain ⟨y, hy⟩ : ∃ y, y = f i := ⟨_, rfl⟩
        have hP := H3.out.2.2.1 i heq
        rw [← hx] at ci1 heq
        rw [← hy] at ci2 heq
        have HP := hid hP
        have hxy : (x == y) = false := by simpa using heq
        clear hx hy heq hP
        go_wp2
        go_quiet (fail)
        go_wp2_with fail
        refine (bitLen_any i (by omega) _).mono ?_
        rintro e w' ⟨L, rfl, hL16, HL, rfl⟩
        have hLf := len_facts HP.out HL.out HN.out hm1 hm2
        have hsh := shr_same hLf.2.2
        have hLn1 : (1 : Int) ≤ (L : Int) := by omega
        have hLn2 : (L : Int) ≤ (n : Int) := by omega
        clear hLf HL HP
        go_wp2
        go_roundw
        case rel => exact ⟨i + 1, by omega, by omega, by go_num, _, rfl⟩
        case measure => simp [intOf]; omega
    · have hlt' : ¬ (i : Int) < (N : Int) := by omega
      go_wp2
      go_ret
      exact ⟨rfl, below_drewN H3.out.2.2.2 q⟩
end Go.Proofs.Qxb6001347a.treeLaw
