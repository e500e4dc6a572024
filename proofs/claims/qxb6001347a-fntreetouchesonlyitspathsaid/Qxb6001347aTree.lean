/-
  THE WALKS OF (rangeDecoder).normalize (function 31) AND (rangeDecoder).tree (29).
-/
import Derived.Test.Qxb6001347aBit
import Derived.BigQuiet
import Derived.Deep.QuietTactic
import Derived.Deep.OwnRows
import Derived.Deep.RegionHeldLaw
import Derived.Deep.AppendLies
import Derived.Maps.Range
import Derived.Maps.RangeWalk
import Derived.Laws.CopyOwn
namespace Go.Proofs.Qxb6001347a
open Go.RowKit
set_option linter.unusedVariables false

theorem or_u32_range (a b : Int) : 0 ≤ bits .or .u32 a b ∧ bits .or .u32 a b < 4294967296 := by
  show 0 ≤ IntKind.u32.wrap _ ∧ IntKind.u32.wrap _ < 4294967296
  rw [IntKind.wrap_u32']
  omega
theorem and_u32_range (a b : Int) : 0 ≤ bits .and .u32 a b ∧ bits .and .u32 a b < 4294967296 := by
  show 0 ≤ IntKind.u32.wrap _ ∧ IntKind.u32.wrap _ < 4294967296
  rw [IntKind.wrap_u32']
  omega
/-- 'ip & 65535': an index of the input's array, whatever ip. -/
theorem mask_range (ip : Int) : 0 ≤ bits .and .i64 ip 65535 ∧ bits .and .i64 ip 65535 < 65536 := by
  have h : (BitVec.ofInt 64 ip &&& BitVec.ofInt 64 65535).toNat ≤ 65535 := by
    rw [BitVec.toNat_and]
    exact Nat.and_le_right
  have e : bits .and .i64 ip 65535 = IntKind.i64.wrap ((BitVec.ofInt 64 ip &&& BitVec.ofInt 64 65535).toNat : Int) := rfl
  rw [e, IntKind.wrap_i64]
  omega

set_option maxHeartbeats 1000000 in
theorem normalize_any (r c ip : Int) (Bin : Nat) (w : World) (hr0 : 0 ≤ r) (hr1 : r < 4294967296) (hc0 : 0 ≤ c) (hc1 : c < 4294967296) (hin : ∀ i, i < 65536 → ∃ y : Int, 0 ≤ y ∧ y ≤ 255 ∧ w.cell? ⟨Bin, i, none⟩ = some (.int .u8 y)) :
    Calls Try.prog 31 #[.agg #[.int .u32 r, .int .u32 c, .int .i64 ip], .pointer (some ⟨Bin, 0, none⟩)] w fun e w' =>
      ∃ r' c' ip', e = .returned (.agg #[.int .u32 r', .int .u32 c', .int .i64 ip']) ∧ 0 ≤ r' ∧ r' < 4294967296 ∧ 0 ≤ c' ∧ c' < 4294967296 ∧ (ip' = ip ∨ ip' = wrap64 (ip + 1)) ∧ Below w.heap.size w w' := by
  obtain ⟨hx0, hx1⟩ := mask_range ip
  obtain ⟨y, hy0, hy1, hcell⟩ := hin (bits .and .i64 ip 65535).toNat (by omega)
  have hlt : Bin < w.heap.size := World.block_lt_of_cell? _ _ hcell
  clear hin
  by_cases h : r < 16777216
  · have ho := or_u32_range (c * 256 % 4294967296) y
    have HO : Hid (0 ≤ bits .or .u32 (c * 256 % 4294967296) y ∧ bits .or .u32 (c * 256 % 4294967296) y < 4294967296) := ho
    clear ho
    go_enter Try.func31, Try.ntmps31
    go_wp2
    go_region
    all_goals go_wp2
    all_goals
      refine bodyPost_ret (v := .agg #[.int .u32 (r * 256), .int .u32 (bits .or .u32 (c * 256 % 4294967296) y), .int .i64 (wrap64 (ip + 1))]) (by simp [results, Try.results31, go_sem]) rfl ⟨_, _, _, rfl, by omega, by omega, HO.out.1, HO.out.2, .inr rfl, ?_⟩
      exact (((Below.refl _ _).alloc (Nat.le_refl _) _).alloc (by simp) _).drew
  · go_enter Try.func31, Try.ntmps31
    go_wp2
    refine bodyPost_ret (v := .agg #[.int .u32 r, .int .u32 c, .int .i64 ip]) (by simp [results, Try.results31, go_sem]) rfl ⟨_, _, _, rfl, hr0, hr1, hc0, hc1, .inl rfl, ?_⟩
    exact ((Below.refl _ _).alloc (Nat.le_refl _) _).alloc (by simp) _

theorem grownBy_setCell' {w w' : World} {row : Option Nat} (h : w.grownBy w' row) (a : Addr) (v : Value) (ha : row = some a.block) : w.grownBy (w'.setCell a v) row :=
  ⟨h.os, h.tape, h.output, by simpa [World.setCell] using h.size, fun k hk hne => (Below.heap_setCell _ _ _ _ (fun e => hne (by rw [e, ha]))).trans (h.block k hk hne)⟩

/-- WHAT THE WORLD wx HOLDS in the midst of tree: w: the world ahead of the call; the decoder r, c, ip in the call's first block; the probabilities f in block Bp; the input in block Bin. -/
structure TW (w : World) (Bp Bin N : Nat) (f : Nat → Int) (r c ip : Int) (wx : World) : Prop where
  box : wx.heap[w.heap.size]? = some (.cells #[.int .u32 r, .int .u32 c, .int .i64 ip] 54 (0, 0))
  res : wx.heap[w.heap.size + 1]? = some (.cells #[.int .u32 0, .int .u32 0, .int .i64 0] 54 (0, 0))
  row : wx.rowIs Bp 52 N (fun i => .int .u16 (f i))
  inp : ∀ i, i < 65536 → ∃ y : Int, 0 ≤ y ∧ y ≤ 255 ∧ wx.cell? ⟨Bin, i, none⟩ = some (.int .u8 y)
  rr : 0 ≤ r ∧ r < 4294967296 ∧ 0 ≤ c ∧ c < 4294967296
  ff : ∀ i, 0 ≤ f i ∧ f i < 65536
  lt : Bp < w.heap.size ∧ Bin < w.heap.size ∧ Bin ≠ Bp
  grown : w.grownBy wx (some Bp)

theorem TW.below {w : World} {Bp Bin N : Nat} {f : Nat → Int} {r c ip : Int} {wx w1 : World} (h : TW w Bp Bin N f r c ip wx) (hb : Below wx.heap.size wx w1) : TW w Bp Bin N f r c ip w1 := by
  have h1 : w.heap.size + 1 < wx.heap.size := (Array.getElem?_eq_some_iff.1 h.res).1
  exact ⟨(hb.block _ (by omega)).trans h.box, (hb.block _ h1).trans h.res, h.row.of_block (hb.block _ h.row.lt), fun i hi => by
    obtain ⟨y, y0, y1, hy⟩ := h.inp i hi
    exact ⟨y, y0, y1, (hb.cell (p := ⟨Bin, i, none⟩) (World.block_lt_of_cell? _ _ hy)).trans hy⟩, h.rr, h.ff, h.lt,
    ⟨hb.os.trans h.grown.os, hb.tape.trans h.grown.tape, hb.output.trans h.grown.output, Nat.le_trans h.grown.size hb.size, fun k hk hne => (hb.block k (Nat.lt_of_lt_of_le hk h.grown.size)).trans (h.grown.block k hk hne)⟩⟩

theorem TW.set {w : World} {Bp Bin N : Nat} {f : Nat → Int} {r c ip : Int} {wx : World} (h : TW w Bp Bin N f r c ip wx) (m : Nat) (p : Int) (hp : 0 ≤ p ∧ p < 65536) :
    TW w Bp Bin N (fun i => if i = m then p else f i) r c ip (wx.setCell ⟨Bp, m, none⟩ (.int .u16 p)) := by
  have hlt := h.lt
  have hne : ∀ k, k ≠ Bp → (wx.setCell ⟨Bp, m, none⟩ (.int .u16 p)).heap[k]? = wx.heap[k]? := fun k hk => Below.heap_setCell _ _ _ _ hk
  refine ⟨(hne _ (by omega)).trans h.box, (hne _ (by omega)).trans h.res, (h.row.set m (.int .u16 p)).congr fun i _ => ?_, fun i hi => ?_, h.rr, fun i => ?_, h.lt, grownBy_setCell' h.grown _ _ rfl⟩
  · split <;> rfl
  · obtain ⟨y, y0, y1, hy⟩ := h.inp i hi
    exact ⟨y, y0, y1, (World.cell?_of_block (a := ⟨Bin, i, none⟩) (hne Bin hlt.2.2)).trans hy⟩
  · by_cases e : i = m
    · simp [e, hp]
    · simp [e, h.ff i]

theorem TW.cells {w : World} {Bp Bin N : Nat} {f : Nat → Int} {r c ip : Int} {wx : World} (h : TW w Bp Bin N f r c ip wx) :
    wx.cell? ⟨w.heap.size, 0, none⟩ = some (.int .u32 r) ∧ wx.cell? ⟨w.heap.size, 1, none⟩ = some (.int .u32 c) ∧ wx.cell? ⟨w.heap.size, 2, none⟩ = some (.int .i64 ip) ∧ (∀ i, wx.frozen? ⟨w.heap.size, i, none⟩ = false) ∧ w.heap.size + 1 < wx.heap.size := by
  refine ⟨?_, ?_, ?_, fun i => ?_, (Array.getElem?_eq_some_iff.1 h.res).1⟩ <;> simp [World.cell?, World.frozen?, h.box]

theorem norm_tw {w : World} {Bp Bin N : Nat} {f : Nat → Int} {r c ip : Int} {wx : World} (h : TW w Bp Bin N f r c ip wx) :
    Calls Try.prog 31 #[.agg #[.int .u32 r, .int .u32 c, .int .i64 ip], .pointer (some ⟨Bin, 0, none⟩)] wx fun e w' =>
      ∃ r' c' ip', e = .returned (.agg #[.int .u32 r', .int .u32 c', .int .i64 ip']) ∧ (0 ≤ r' ∧ r' < 4294967296 ∧ 0 ≤ c' ∧ c' < 4294967296) ∧ (ip' = ip ∨ ip' = wrap64 (ip + 1)) ∧ TW w Bp Bin N f r c ip w' :=
  (normalize_any r c ip Bin wx h.rr.1 h.rr.2.1 h.rr.2.2.1 h.rr.2.2.2 h.inp).mono fun e w' ⟨r', c', ip', h1, h2, h3, h4, h5, h6, h7⟩ => ⟨r', c', ip', h1, ⟨h2, h3, h4, h5⟩, h6, h.below h7⟩

theorem step_range {r c v r' c' b p : Int} (hr : 0 ≤ r ∧ r < 4294967296) (hc : 0 ≤ c ∧ c < 4294967296) (h : Step r c v r' c' b p) : (0 ≤ r' ∧ r' < 4294967296 ∧ 0 ≤ c' ∧ c' < 4294967296) ∧ (b = 0 ∨ b = 1) ∧ 0 ≤ p ∧ p < 65536 := by
  obtain ⟨h1, h2, h⟩ := h
  rcases h with ⟨-, rfl, rfl, rfl, -⟩ | ⟨-, rfl, rfl, rfl, -⟩
  · exact ⟨⟨by omega, by omega, hc.1, hc.2⟩, .inl rfl, h1, h2⟩
  · exact ⟨⟨by omega, by omega, by omega, by omega⟩, .inr rfl, h1, h2⟩

theorem bit_tw {w : World} {Bp Bin N : Nat} {f : Nat → Int} {r c ip : Int} {wx : World} (h : TW w Bp Bin N f r c ip wx) (r1 c1 ip1 v : Int) (m : Nat) (hm : m < N) (hr : 0 ≤ r1 ∧ r1 < 4294967296 ∧ 0 ≤ c1 ∧ c1 < 4294967296) (hv : 0 ≤ v ∧ v < 65536) :
    Calls Try.prog 28 #[.agg #[.int .u32 r1, .int .u32 c1, .int .i64 ip1], .pointer (some ⟨Bp, m, none⟩), .int .u32 v] wx fun e w' =>
      ∃ r' c' b p, e = .returned (.tuple #[.agg #[.int .u32 r', .int .u32 c', .int .i64 ip1], .int .u32 b]) ∧ (0 ≤ r' ∧ r' < 4294967296 ∧ 0 ≤ c' ∧ c' < 4294967296) ∧ (b = 0 ∨ b = 1) ∧ TW w Bp Bin N (fun i => if i = m then p else f i) r c ip w' := by
  refine (bitOf_any r1 c1 ip1 v (f m) Bp m wx hr.1 hr.2.1 hr.2.2.1 hr.2.2.2 hv.1 hv.2 (h.row.cell hm) (h.row.frozen m) h.row.lt).mono ?_
  rintro e w' ⟨r', c', b, p, rfl, hs, hb⟩
  obtain ⟨s1, s2, s3⟩ := step_range ⟨hr.1, hr.2.1⟩ hr.2.2 hs
  exact ⟨r', c', b, p, rfl, s1, s2, (h.set m p s3).below (by simpa [World.setCell] using hb)⟩
end Go.Proofs.Qxb6001347a
