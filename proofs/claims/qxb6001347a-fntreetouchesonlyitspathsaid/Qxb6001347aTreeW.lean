/-
  THE WALK OF (rangeDecoder).tree (function 29).
-/
import Derived.Test.Qxb6001347aTree
import Derived.Laws.DeepBits32
namespace Go.Proofs.Qxb6001347a
open Go.RowKit
set_option linter.unusedVariables false

theorem hidT {p : Prop} (h : p) : Hid p := h

/-- WHAT HOLDS AT THE HEAD OF ROUND k: the bits so far are m (with a leading 1); the probabilities that have turned are those of m's proper heads. -/
def TInv (w : World) (Bp Bin N : Nat) (f : Nat → Int) (ip : Int) (k m : Nat) (wr : World) : Prop :=
  ∃ (d : Nat) (f' : Nat → Int) (r c : Int), d ≤ k ∧ TW w Bp Bin N f' r c (wrap64 (ip + (d : Int))) wr ∧ ∀ i, f' i ≠ f i → ∃ j, j < k ∧ i = m / 2 ^ (k - j)

/-- The index of a successor's probability stays in the row. -/
theorem and_lt (a : Int) (N : Nat) (hN : 1 ≤ N) (hN2 : N ≤ 65536) : bits .and .u32 a ((N : Int) - 1) < (N : Int) := by
  have e : bits .and .u32 a ((N : Int) - 1) = IntKind.u32.wrap ((BitVec.ofInt 32 a &&& BitVec.ofInt 32 ((N : Int) - 1)).toNat : Int) := rfl
  have h1 : (BitVec.ofInt 32 ((N : Int) - 1)).toNat = N - 1 := by
    rw [show ((N : Int) - 1) = ((N - 1 : Nat) : Int) by omega]
    exact ofInt_u32 _ (by omega)
  have h2 : (BitVec.ofInt 32 a &&& BitVec.ofInt 32 ((N : Int) - 1)).toNat ≤ N - 1 := by
    rw [BitVec.toNat_and, h1]
    exact Nat.and_le_right
  rw [e, IntKind.wrap_u32']
  omega

theorem tw_drewN {w : World} {Bp Bin N : Nat} {f : Nat → Int} {r c ip : Int} {wx : World} (h : TW w Bp Bin N f r c ip wx) (k : Nat) : TW w Bp Bin N f r c ip (wx.drewN k) := h.below (below_drewN (Below.refl _ _) k)
theorem tw_drew {w : World} {Bp Bin N : Nat} {f : Nat → Int} {r c ip : Int} {wx : World} (h : TW w Bp Bin N f r c ip wx) : TW w Bp Bin N f r c ip wx.drew := h.below (Below.refl _ _).drew
theorem TW.resCells {w : World} {Bp Bin N : Nat} {f : Nat → Int} {r c ip : Int} {wx : World} (h : TW w Bp Bin N f r c ip wx) :
    wx.cell? ⟨w.heap.size + 1, 0, none⟩ = some (.int .u32 0) ∧ wx.cell? ⟨w.heap.size + 1, 1, none⟩ = some (.int .u32 0) ∧ wx.cell? ⟨w.heap.size + 1, 2, none⟩ = some (.int .i64 0) ∧ (∀ i, wx.frozen? ⟨w.heap.size + 1, i, none⟩ = false) := by
  refine ⟨?_, ?_, ?_, fun i => ?_⟩ <;> simp [World.cell?, World.frozen?, h.res]

theorem pow_lt_of {N n k m : Nat} (hN : N = 2 ^ n) (hk : k < n) (hm : m < 2 ^ (k + 1)) : m < N := by
  rw [hN]
  exact Nat.lt_of_lt_of_le hm (Nat.pow_le_pow_right (by omega) hk)

theorem succ_cell {w : World} {Bp Bin N : Nat} {f : Nat → Int} {r c ip : Int} {wx : World} (h : TW w Bp Bin N f r c ip wx) (hN : 1 ≤ N) (hN2 : N ≤ 65536) (a : Int) :
    ∃ z : Int, 0 ≤ z ∧ z < 65536 ∧ 0 ≤ bits .and .u32 a ((N : Int) - 1) ∧ bits .and .u32 a ((N : Int) - 1) < (N : Int) ∧ wx.cell? ⟨Bp, (bits .and .u32 a ((N : Int) - 1)).toNat, none⟩ = some (.int .u16 z) := by
  have h1 := (and_u32_range a ((N : Int) - 1)).1
  have h2 := and_lt a N hN hN2
  exact ⟨f (bits .and .u32 a ((N : Int) - 1)).toNat, (h.ff _).1, (h.ff _).2, h1, h2, h.row.cell (by omega)⟩

theorem tw_start (r c ip : Int) (Bp Bin N : Nat) (f : Nat → Int) (w : World) (hr : 0 ≤ r ∧ r < 4294967296 ∧ 0 ≤ c ∧ c < 4294967296) (hip : -9223372036854775808 ≤ ip ∧ ip ≤ 9223372036854775807)
    (hrow : w.rowIs Bp 52 N (fun i => .int .u16 (f i))) (hf : ∀ i, 0 ≤ f i ∧ f i < 65536) (hin : ∀ i, i < 65536 → ∃ y : Int, 0 ≤ y ∧ y ≤ 255 ∧ w.cell? ⟨Bin, i, none⟩ = some (.int .u8 y)) (hlB : Bin < w.heap.size) (hne : Bin ≠ Bp) :
    TW w Bp Bin N f r c (wrap64 (ip + (0 : Nat))) ((w.alloc (.cells #[.int .u32 r, .int .u32 c, .int .i64 ip] 54)).alloc (.cells #[.int .u32 0, .int .u32 0, .int .i64 0] 54)) := by
  have e : wrap64 (ip + ((0 : Nat) : Int)) = ip := by unfold wrap64; omega
  rw [e]
  have hb : Below w.heap.size w ((w.alloc (.cells #[.int .u32 r, .int .u32 c, .int .i64 ip] 54)).alloc (.cells #[.int .u32 0, .int .u32 0, .int .i64 0] 54)) := ((Below.refl _ _).alloc (Nat.le_refl _) _).alloc (by simp) _
  refine ⟨?_, ?_, hrow.of_block (hb.block _ hrow.lt), fun i hi => ?_, hr, hf, ⟨hrow.lt, hlB, hne⟩, ⟨hb.os, hb.tape, hb.output, hb.size, fun k hk _ => hb.block k hk⟩⟩
  · rw [Below.heap_alloc _ _ _ (by simp)]
    show (w.heap.push _)[w.heap.size]? = _
    simp
  · show ((w.heap.push _).push _)[w.heap.size + 1]? = _
    rw [Array.getElem?_push]
    simp
  · obtain ⟨y, y0, y1, hy⟩ := hin i hi
    exact ⟨y, y0, y1, (hb.cell (p := ⟨Bin, i, none⟩) hlB).trans hy⟩

/-- WHAT tree LEAVES. -/
def TPost (w : World) (Bp N n : Nat) (f : Nat → Int) (ip : Int) (e : Ending) (w' : World) : Prop :=
  ∃ (r' c' : Int) (d m : Nat) (f' : Nat → Int), e = .returned (.tuple #[.agg #[.int .u32 r', .int .u32 c', .int .i64 (wrap64 (ip + (d : Int)))], .int .u32 ((m : Int) - (N : Int))]) ∧ d ≤ n ∧ N ≤ m ∧ m < 2 * N ∧ w'.rowIs Bp 52 N (fun i => .int .u16 (f' i)) ∧ (∀ i, 0 ≤ f' i ∧ f' i < 65536) ∧
        (∀ i, f' i ≠ f i → ∃ j, j < n ∧ i = m / 2 ^ (n - j)) ∧ w.grownBy w' (some Bp)

theorem grownBy_new {w w' : World} {row : Option Nat} (h : w.grownBy w' row) (a : Addr) (v : Value) (ha : w.heap.size ≤ a.block) : w.grownBy (w'.setCell a v) row :=
  ⟨h.os, h.tape, h.output, by simpa [World.setCell] using h.size, fun k hk hne => (Below.heap_setCell _ _ _ _ (by omega)).trans (h.block k hk hne)⟩

theorem tree_end {w : World} {Bp Bin N n m d : Nat} {f f' : Nat → Int} {r1 c1 ip : Int} {wr : World} (hT : TW w Bp Bin N f' r1 c1 (wrap64 (ip + (d : Int))) wr) (hP : ∀ i, f' i ≠ f i → ∃ j, j < n ∧ i = m / 2 ^ (n - j)) (hN : N = 2 ^ n) (hN2 : N ≤ 65536) (hd : d ≤ n) (hM : 2 ^ n ≤ m ∧ m < 2 ^ (n + 1)) :
    TPost w Bp N n f ip (.returned (.tuple #[.agg #[.int .u32 r1, .int .u32 c1, .int .i64 (wrap64 (ip + (d : Int)))], .int .u32 (((m : Int) - 2 ^ n) % 4294967296)])) (((wr.setCell ⟨w.heap.size + 1, 0, none⟩ (.int .u32 r1)).setCell ⟨w.heap.size + 1, 1, none⟩ (.int .u32 c1)).setCell ⟨w.heap.size + 1, 2, none⟩ (.int .i64 (wrap64 (ip + (d : Int))))) := by
  have hlt := hT.lt
  have e1 : ((2 : Int) ^ n) = (N : Int) := by rw [hN]; simp
  have e2 : 2 ^ (n + 1) = 2 * N := by rw [hN, Nat.pow_succ]; omega
  have e3 : ((m : Int) - 2 ^ n) % 4294967296 = (m : Int) - (N : Int) := by rw [e1]; omega
  rw [e3]
  refine ⟨r1, c1, d, m, f', rfl, hd, by omega, by omega, ?_, hT.ff, hP, ?_⟩
  · have hne : Bp ≠ w.heap.size + 1 := by omega
    exact ((hT.row.setOther (a := ⟨w.heap.size + 1, 0, none⟩) hne _).setOther (a := ⟨w.heap.size + 1, 1, none⟩) hne _).setOther (a := ⟨w.heap.size + 1, 2, none⟩) hne _
  · exact grownBy_new (grownBy_new (grownBy_new hT.grown ⟨w.heap.size + 1, 0, none⟩ _ (Nat.le_succ _)) ⟨w.heap.size + 1, 1, none⟩ _ (Nat.le_succ _)) ⟨w.heap.size + 1, 2, none⟩ _ (Nat.le_succ _)

/-- The decoder's three fields stored anew. -/
theorem TW.setBox {w : World} {Bp Bin N : Nat} {f : Nat → Int} {r c ip : Int} {wx : World} (h : TW w Bp Bin N f r c ip wx) (r3 c3 ip3 : Int) (hr : 0 ≤ r3 ∧ r3 < 4294967296 ∧ 0 ≤ c3 ∧ c3 < 4294967296) :
    TW w Bp Bin N f r3 c3 ip3 (((wx.setCell ⟨w.heap.size, 0, none⟩ (.int .u32 r3)).setCell ⟨w.heap.size, 1, none⟩ (.int .u32 c3)).setCell ⟨w.heap.size, 2, none⟩ (.int .i64 ip3)) := by
  have hlt := h.lt
  have hk : ∀ k, k ≠ w.heap.size → (((wx.setCell ⟨w.heap.size, 0, none⟩ (.int .u32 r3)).setCell ⟨w.heap.size, 1, none⟩ (.int .u32 c3)).setCell ⟨w.heap.size, 2, none⟩ (.int .i64 ip3)).heap[k]? = wx.heap[k]? := fun k hk => by
    rw [Below.heap_setCell _ _ _ _ hk, Below.heap_setCell _ _ _ _ hk, Below.heap_setCell _ _ _ _ hk]
  refine ⟨?_, (hk _ (by omega)).trans h.res, h.row.of_block (hk _ (by omega)), fun i hi => ?_, hr, h.ff, h.lt, grownBy_new (grownBy_new (grownBy_new h.grown ⟨w.heap.size, 0, none⟩ _ (Nat.le_refl _)) ⟨w.heap.size, 1, none⟩ _ (Nat.le_refl _)) ⟨w.heap.size, 2, none⟩ _ (Nat.le_refl _)⟩
  · simp [World.setCell, Array.getElem?_modify, h.box]
  · obtain ⟨y, y0, y1, hy⟩ := h.inp i hi
    exact ⟨y, y0, y1, (World.cell?_of_block (a := ⟨Bin, i, none⟩) (hk Bin (by omega))).trans hy⟩

theorem or_zero (m : Nat) (hm : m < 65536) : bits .or .u32 ((m : Int) * 2) 0 = ((2 * m + 0 : Nat) : Int) := by
  rw [u32_or _ _ (by omega) (by omega) (by omega) (by omega), show ((m : Int) * 2).toNat = 2 * m by omega]
  simp
theorem or_one (m : Nat) (hm : m < 65536) : bits .or .u32 ((m : Int) * 2) 1 = ((2 * m + 1 : Nat) : Int) := by
  rw [u32_or _ _ (by omega) (by omega) (by omega) (by omega), show ((m : Int) * 2).toNat = 2 * m by omega, show (1 : Int).toNat = 1 from rfl, or_bit _ _ (by omega) (by omega)]

theorem m_step {k m : Nat} (b : Nat) (hb : b ≤ 1) (h : 2 ^ k ≤ m ∧ m < 2 ^ (k + 1)) : 2 ^ (k + 1) ≤ 2 * m + b ∧ 2 * m + b < 2 ^ (k + 1 + 1) := by
  have e1 : 2 ^ (k + 1) = 2 * 2 ^ k := by rw [Nat.pow_succ]; omega
  have e2 : 2 ^ (k + 1 + 1) = 2 * 2 ^ (k + 1) := by rw [Nat.pow_succ 2 (k + 1)]; omega
  omega

theorem tinv_step {w : World} {Bp Bin N : Nat} {f f' : Nat → Int} {r1 c1 ip ip2 r3 c3 p : Int} {d k m : Nat} {w7 : World} (b : Nat) (hb : b ≤ 1) (h : TW w Bp Bin N (fun i => if i = m then p else f' i) r1 c1 (wrap64 (ip + (d : Int))) w7) (hr3 : 0 ≤ r3 ∧ r3 < 4294967296 ∧ 0 ≤ c3 ∧ c3 < 4294967296)
    (hip2 : ip2 = wrap64 (ip + (d : Int)) ∨ ip2 = wrap64 (wrap64 (ip + (d : Int)) + 1)) (hd : d ≤ k) (hP : ∀ i, f' i ≠ f i → ∃ j, j < k ∧ i = m / 2 ^ (k - j)) :
    TInv w Bp Bin N f ip (k + 1) (2 * m + b) (((w7.setCell ⟨w.heap.size, 0, none⟩ (.int .u32 r3)).setCell ⟨w.heap.size, 1, none⟩ (.int .u32 c3)).setCell ⟨w.heap.size, 2, none⟩ (.int .i64 ip2)) := by
  obtain ⟨d', hd', e⟩ : ∃ d', d' ≤ k + 1 ∧ ip2 = wrap64 (ip + ((d' : Nat) : Int)) := by
    rcases hip2 with rfl | rfl
    · exact ⟨d, by omega, rfl⟩
    · refine ⟨d + 1, by omega, ?_⟩
      have : ((d + 1 : Nat) : Int) = (d : Int) + 1 := by omega
      rw [this]
      unfold wrap64
      omega
  subst e
  refine ⟨d', _, r3, c3, hd', h.setBox r3 c3 _ hr3, fun i hi => ?_⟩
  by_cases him : i = m
  · refine ⟨k, Nat.lt_succ_self k, ?_⟩
    rw [him, show k + 1 - k = 1 by omega, Nat.pow_one]
    omega
  · simp only [him, if_false] at hi
    obtain ⟨j, hj, e⟩ := hP i hi
    refine ⟨j, by omega, ?_⟩
    rw [e, show k + 1 - j = (k - j) + 1 by omega, Nat.pow_succ, Nat.mul_comm (2 ^ (k - j)) 2, ← Nat.div_div_eq_div_mul]
    congr 1
    omega

set_option maxRecDepth 10000 in
set_option maxHeartbeats 1600000 in
theorem tree_any (r c ip : Int) (Bp Bin N n : Nat) (f : Nat → Int) (w : World) (hr : 0 ≤ r ∧ r < 4294967296 ∧ 0 ≤ c ∧ c < 4294967296) (hip : -9223372036854775808 ≤ ip ∧ ip ≤ 9223372036854775807) (hn : 1 ≤ n) (hn2 : n ≤ 16) (hN : N = 2 ^ n)
    (hrow : w.rowIs Bp 52 N (fun i => .int .u16 (f i))) (hf : ∀ i, 0 ≤ f i ∧ f i < 65536) (hin : ∀ i, i < 65536 → ∃ y : Int, 0 ≤ y ∧ y ≤ 255 ∧ w.cell? ⟨Bin, i, none⟩ = some (.int .u8 y)) (hne : Bin ≠ Bp) :
    Calls Try.prog 29 #[.agg #[.int .u32 r, .int .u32 c, .int .i64 ip], .pointer (some ⟨Bin, 0, none⟩), .slice (some ⟨Bp, 0, none⟩) N N, .int .u64 n] w fun e w' =>
      TPost w Bp N n f ip e w' := by
  have hN1 : 2 ≤ N := by
    rw [hN]
    calc 2 = 2 ^ 1 := rfl
      _ ≤ 2 ^ n := Nat.pow_le_pow_right (by omega) hn
  have hN2 : N ≤ 65536 := by
    rw [hN]
    calc 2 ^ n ≤ 2 ^ 16 := Nat.pow_le_pow_right (by omega) hn2
      _ = 65536 := rfl
  have HN := show Hid (N = 2 ^ n) from hN
  clear hN
  have b1 : (2 : Int) ≤ (N : Int) := by omega
  have b2 : (N : Int) ≤ 65536 := by omega
  have b3 : (n : Int) ≤ 16 := by omega
  have b0 : (1 : Int) < (N : Int) := by omega
  have hlB : Bin < w.heap.size := by
    obtain ⟨y, -, -, hy⟩ := hin 0 (by omega)
    exact World.block_lt_of_cell? _ _ hy
  have HT := tw_start r c ip Bp Bin N f w hr hip hrow hf hin hlB hne
  have g1 := hf 1
  clear hrow hf hin
  go_enter Try.func29, Try.ntmps29
  go_wp2
  generalize hw1 : (w.alloc (Obj.cells #[Value.int IntKind.u32 r, Value.int IntKind.u32 c, Value.int IntKind.i64 ip] 54)).alloc (Obj.cells #[Value.int IntKind.u32 0, Value.int IntKind.u32 0, Value.int IntKind.i64 0] 54) = w1
  rw [hw1] at HT
  have HT1 : Hid (TW w Bp Bin N f r c (wrap64 (ip + (0 : Nat))) w1) := HT
  have hp1 := HT.row.cell (i := 1) (by omega)
  clear hw1 HT
  go_quiet (fail)
  go_wp2
  clear hp1
  go_loopw [11, 12, 25] (fun s11 s12 s25 wr => ∃ (k m : Nat) (v : Int), k ≤ n ∧ s11 = .int .u32 m ∧ s12 = .int .u32 v ∧ s25 = .int .u64 k ∧ 0 ≤ v ∧ v < 65536 ∧ Hid (2 ^ k ≤ m ∧ m < 2 ^ (k + 1)) ∧ Hid (TInv w Bp Bin N f ip k m wr)) (fun _ _ s25 _ => n - (intOf s25).toNat)
  case atStart => exact ⟨0, 1, f 1, by omega, rfl, rfl, rfl, g1.1, g1.2, ⟨by omega, by omega⟩, 0, f, r, c, Nat.le_refl _, tw_drewN HT1.out nq, fun i h => absurd rfl h⟩
  case round =>
    obtain ⟨k, m, v, hk, rfl, rfl, rfl, hv0, hv1, HM, HI⟩ := hrel
    have hk' : (k : Int) ≤ (n : Int) := by omega
    by_cases hlt : k < n
    · have hlt' : (k : Int) < (n : Int) := by omega
      obtain ⟨d, f', r1, c1, hd, hT, hpre⟩ := HI.out
      have hmN : m < N := pow_lt_of HN.out hlt HM.out.2
      have hm1 : 1 ≤ m := Nat.le_trans Nat.one_le_two_pow HM.out.1
      have hmN' : (m : Int) < (N : Int) := by omega
      obtain ⟨z1, hz1, hz1', i1, i2, cz1⟩ := succ_cell hT (by omega) hN2 (2 * (m : Int))
      obtain ⟨z2, hz2, hz2', j1, j2, cz2⟩ := succ_cell hT (by omega) hN2 (2 * (m : Int) + 1)
      have HT : Hid (TW w Bp Bin N f' r1 c1 (wrap64 (ip + (d : Int))) wr) := hT
      have HP : Hid (∀ i, f' i ≠ f i → ∃ j, j < k ∧ i = m / 2 ^ (k - j)) := hpre
      clear hT hpre HI HT1
      obtain ⟨q0, q1, q2, qz, qs⟩ := HT.out.cells
      go_wp2
      go_quiet (fail)
      go_wp2
      clear cz1 cz2
      go_region_with (first
        | (go_at_call 31; refine (norm_tw (w := w) (Bp := Bp) (N := N) (f := f') ?_).mono ?_; exact tw_drew (tw_drewN HT.out nq); rintro e w6 ⟨r2, c2, ip2, rfl, hr2, hip2, hT6⟩; have HT6 := hidT hT6; clear hT6)
        | (go_at_call 28; refine (bit_tw HT6.out r2 c2 ip2 v m hmN hr2 ⟨hv0, hv1⟩).mono ?_; rintro e w7 ⟨r3, c3, b, p, rfl, hr3, hb, hT7⟩; obtain ⟨t0, t1, t2, tz, ts⟩ := hT7.cells; have tz0 := tz 0; have tz1 := tz 1; have tz2 := tz 2; have HT7 := hidT hT7; have HB := hidT hb; clear hT7 tz hb))
      rcases HB.out with rfl | rfl
      · have ho := or_zero m (by omega)
        have HO := hidT ho
        clear ho
        go_wp2
        go_roundw
        case rel => exact ⟨k + 1, 2 * m + 0, z1, by omega, by rw [HO.out], rfl, by go_num, hz1, hz1', m_step 0 (by omega) HM.out, tinv_step 0 (by omega) HT7.out hr3 hip2 hd HP.out⟩
        case measure => simp [intOf]; omega
      · have ho := or_one m (by omega)
        have HO := hidT ho
        clear ho
        go_wp2
        go_roundw
        case rel => exact ⟨k + 1, 2 * m + 1, z2, by omega, by rw [HO.out], rfl, by go_num, hz2, hz2', m_step 1 (by omega) HM.out, tinv_step 1 (by omega) HT7.out hr3 hip2 hd HP.out⟩
        case measure => simp [intOf]; omega
    · have hlt' : ¬ (k : Int) < (n : Int) := by omega
      obtain rfl : k = n := by omega
      obtain ⟨d, f', r1, c1, hd, hT, hpre⟩ := HI.out
      obtain ⟨q0, q1, q2, qz, qs⟩ := hT.cells
      obtain ⟨e0, e1, e2, ez⟩ := hT.resCells
      have ez0 := ez 0
      have ez1 := ez 1
      have ez2 := ez 2
      have HT : Hid (TW w Bp Bin N f' r1 c1 (wrap64 (ip + (d : Int))) wr) := hT
      have HP : Hid (∀ i, f' i ≠ f i → ∃ j, j < k ∧ i = m / 2 ^ (k - j)) := hpre
      clear HI HT1 hT hpre ez qz
      go_wp2
      exact bodyPost_ret (v := .tuple #[.agg #[.int .u32 r1, .int .u32 c1, .int .i64 (wrap64 (ip + (d : Int)))], .int .u32 (((m : Int) - 2 ^ k) % 4294967296)]) (by simp [results, Try.results29, go_sem, e0, e1, e2]) rfl (tree_end HT.out HP.out HN.out hN2 hd HM.out)
end Go.Proofs.Qxb6001347a
