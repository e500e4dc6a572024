/- The frame of this text was written by the kit (proof-skeleton.mjs) for this function; the walk is typed by the prover. -/
import Derived.Test.Qxb6001347aRows
import Derived.Test.Qxb6001347aRoomZ
import Derived.WalkKit
import Derived.ProofKit
import Derived.OpenShut
import Derived.ShutString
import Derived.ChangeOld
import Derived.Below
namespace Go.Proofs.Qxb6001347a.fnMakeRoomMakesRoomKeepingDictionary
open Go.ChangeShapes Go.WideShapes Go.ChangeAt Go.RowKit
open Go.ChangeMaps (open_string shut_string)
set_option linter.unusedVariables false

theorem own : ownKnob Try.prog.godebug = none := by kernel_rfl
theorem laidOut : laidOutB Try.prog = true := by kernel_rfl

/-- WHAT THE WALK IS TOLD OF A SLICE OF INTEGERS THAT CAME IN: it is nil; or it leads to a row of 'cap' cells, the numbers 'zs' (the first 'len' are its elements, the rest its spare room), each fitting its kind. -/
def IsRow (k : IntKind) (w : World) (a : Option Addr) (len cap : Nat) (zs : List Int) : Prop :=
  (a = none ∧ len = 0 ∧ cap = 0 ∧ zs = []) ∨
  ∃ x, a = some x ∧ len ≤ cap ∧ cap ≤ maxLen ∧ zs.length = cap ∧ (∀ i, i < zs.length → w.cell? (x.add i) = some (.int k (zs.getD i 0))) ∧ ∀ n ∈ zs, (Lit.int k n).wf = true

set_option maxHeartbeats 400000 in
/-- zzBytes (function 11): is the slice no longer than 2^20? -/
theorem zz_yes (ao : Option Addr) (len cap : Nat) (p r s o : Int) (w : World) (h : len ≤ 1048576) :
    Calls Try.prog 11 #[.slice ao len cap, .int .i64 p, .int .i64 r, .int .i64 s, .int .i64 o] w fun e w' => e = .returned (.bool true) ∧ w' = w := by
  have h1 : (len : Int) ≤ 1048576 := by omega
  go_enter Try.func11, Try.ntmps11
  go_wp2
  go_ret
  exact ⟨rfl, rfl⟩
set_option maxHeartbeats 400000 in
theorem zz_no (ao : Option Addr) (len cap : Nat) (p r s o : Int) (w : World) (h : 1048576 < len) (hm : len ≤ 9223372036854775807) :
    Calls Try.prog 11 #[.slice ao len cap, .int .i64 p, .int .i64 r, .int .i64 s, .int .i64 o] w fun e w' => e = .returned (.bool false) ∧ w' = w := by
  have h1 : (1048576 : Int) < (len : Int) := by omega
  go_enter Try.func11, Try.ntmps11
  go_wp2
  go_ret
  exact ⟨rfl, rfl⟩

/-- What the walk wants of the slice that came in. -/
theorem row_facts {w : World} {a : Option Addr} {len cap : Nat} {zs : List Int} (h : IsRow .u8 w a len cap zs) :
    len ≤ maxLen ∧ (a = none → len = 0) ∧ ∀ x, a = some x → ∀ i, i < len → w.cell? (x.add i) = some (.int .u8 (zs.getD i 0)) := by
  rcases h with ⟨rfl, rfl, rfl, rfl⟩ | ⟨x, rfl, hl, hm, hz, hcell, hwz⟩
  · exact ⟨Nat.zero_le _, fun _ => rfl, fun x e => (by cases e)⟩
  · exact ⟨Nat.le_trans hl hm, fun e => (by cases e), fun y e i hi => (by cases e; exact hcell i (by omega))⟩

/-- Behind the three calls. -/
theorem behind {w w1 w2 w3 : World} {g1 g2 : Option Nat} {n : Nat} {f : Nat → Int} (hb1 : Below w.heap.size w w1) (hn1 : ∀ b, g1 = some b → w.heap.size ≤ b) (hB1 : Buf w1 g1 n f) (hb2 : Below w1.heap.size w1 w2) (hB2 : Buf w2 g2 n f) (hn2 : ∀ b, g2 = some b → w1.heap.size ≤ b) (hgr : w2.grownBy w3 g1) :
    Below w.heap.size w w3 ∧ Buf w3 g2 n f := by
  refine ⟨(hb1.trans (hb2.mono hb1.size)).grown hgr (Nat.le_trans hb1.size hb2.size) hn1, hB2.1, fun b e => ?_⟩
  have hr := hB2.2 b e
  refine hr.of_block (hgr.block b hr.lt (fun e1 => ?_))
  have h1 := (hB1.2 b e1.symm).lt
  have h2 := hn2 b e
  omega

theorem buf_below {w w' : World} {g : Option Nat} {n : Nat} {f : Nat → Int} (h : Buf w g n f) (hb : Below w.heap.size w w') : Buf w' g n f :=
  ⟨h.1, fun b e => (h.2 b e).of_block (hb.block b (h.2 b e).lt)⟩
theorem rowIs_small {w : World} {b n : Nat} {f : Nat → Int} {pos s : Nat} {origin : Int} {n' : Nat} {f' : Nat → Int} {pos' : Nat} {origin' : Int} (_ : w.rowIs b 5 n' (fun i => .int .u8 (f' i))) (h : Room n f pos s origin n' f' pos' origin') (hn : n ≤ 1048576) (hs : s ≤ 65536) (hp : pos ≤ n) :
    n' ≤ 1048576 := by
  rcases h with ⟨h1, rfl, h2, rfl, rfl⟩ | ⟨rfl, h1, rfl, h2, rfl, rfl⟩ | ⟨rfl, h1, rfl, h2, rfl, rfl⟩ <;> omega

/-- The two cells that a round of the law's loop holds against each other. -/
theorem round_cells {w : World} {g2 : Option Nat} {b' n n' p p' s K j : Nat} {f f' : Nat → Int} {ao2 : Option Addr} (hB : Buf w g2 n f) (hrow : w.rowIs b' 5 n' (fun i => .int .u8 (f' i))) (hf : ∀ K, K ≤ s → K ≤ p → K ≤ p' ∧ ∀ j, j < K → f' (p' - 1 - j) = f (p - 1 - j)) (ha : ao2 = g2.map fun b => ⟨b, 0, none⟩)
    (hKs : K ≤ s) (hKp : K ≤ p) (hj : j < K) (hp : p ≤ n) (hp' : p' < n') :
    ∃ b2 x, some ⟨b2, 0, none⟩ = ao2 ∧ w.cell? ⟨b', p' - 1 - j, none⟩ = some (.int .u8 x) ∧ w.cell? ⟨b2, p - 1 - j, none⟩ = some (.int .u8 x) := by
  obtain ⟨h1, h2⟩ := hf K hKs hKp
  cases g2 with
  | none => have := hB.1 rfl; omega
  | some b2 =>
    subst ha
    refine ⟨b2, f (p - 1 - j), rfl, ?_, (hB.2 b2 rfl).cell (by omega)⟩
    rw [← h2 j hj]
    exact hrow.cell (by omega)

set_option maxHeartbeats 1600000 in
/-- The road on which the law says something. -/
theorem main (ao : Option Addr) (n cap p s : Nat) (o : Int) (f : Nat → Int) (w : World) (hn : n ≤ 1048576) (hs : s ≤ 65536) (hp : p ≤ n) (hnil : ao = none → n = 0) (hcell : ∀ x, ao = some x → ∀ i, i < n → w.cell? (x.add i) = some (.int .u8 (f i))) :
    Calls Try.prog 3 #[.slice ao n cap, .int .i64 p, .int .i64 p, .int .i64 s, .int .i64 o] w fun e w' => e = .returned (.bool true) ∧ Below w.heap.size w w' := by
  have HC : Hid (Calls Try.prog 12 #[.slice ao n cap] w fun e w' => ∃ g, e = .returned (bufVal g n) ∧ Buf w' g n f ∧ Below w.heap.size w w' ∧ (∀ b, g = some b → w.heap.size ≤ b)) := clone_any ao n cap f w hn hnil hcell
  clear hnil hcell
  have hn' : (n : Int) ≤ 1048576 := by omega
  have hs' : (s : Int) ≤ 65536 := by omega
  have hp' : (p : Int) ≤ (n : Int) := by omega
  go_enter Try.func3, Try.ntmps3
  go_wp2_with (go_at_call 11; refine (zz_yes ao n cap p p s o _ hn).mono ?_; rintro e w' ⟨rfl, rfl⟩)
  refine HC.out.mono ?_
  rintro e w1 ⟨g1, rfl, hB1, hb1, hn1⟩
  have H1 : Hid (Buf w1 g1 n f ∧ Below _ _ w1 ∧ ∀ b, g1 = some b → _ ≤ b) := ⟨hB1, hb1, hn1⟩
  clear hB1 hb1 hn1 HC
  go_wp2_with fail
  refine (clone_buf g1 n f w1 hn H1.out.1).mono ?_
  rintro e w2 ⟨g2, rfl, hB2, hb2, hn2⟩
  rw [bufVal_slice hB2]
  obtain ⟨ao2, hao2⟩ : ∃ ao2 : Option Addr, ao2 = g2.map fun b => ⟨b, 0, none⟩ := ⟨_, rfl⟩
  rw [← hao2]
  have H2 : Hid (Buf w2 g2 n f ∧ Below w1.heap.size w1 w2 ∧ (∀ b, g2 = some b → w1.heap.size ≤ b) ∧ ao2 = g2.map fun b => ⟨b, 0, none⟩) := ⟨hB2, hb2, hn2, hao2⟩
  have hB1 : Buf w2 g1 n f := buf_below H1.out.1 hb2
  clear hB2 hb2 hn2 hao2
  go_wp2_with fail
  refine (zzMakeRoom_any g1 n f p s o w2 hB1 hp hn hs).mono ?_
  rintro e w3 ⟨b', n', f', p', o', rfl, hrow, hroom, -, hgr⟩
  obtain ⟨f1, f2, f3, f4, -⟩ := room_plain hp hroom
  obtain ⟨hbel, hB3⟩ := behind H1.out.2.1 H1.out.2.2 H1.out.1 H2.out.2.1 H2.out.1 H2.out.2.2.1 hgr
  have HA := H2.out.2.2.2
  have HH : Hid (Below _ _ w3 ∧ Buf w3 g2 n f ∧ w3.rowIs b' 5 n' (fun i => .int .u8 (f' i)) ∧ (∀ K, K ≤ s → K ≤ p → K ≤ p' ∧ ∀ j, j < K → f' (p' - 1 - j) = f (p - 1 - j)) ∧ ao2 = g2.map fun b => ⟨b, 0, none⟩) := ⟨hbel, hB3, hrow, f4, HA⟩
  have hn'' := rowIs_small hrow hroom hn hs hp
  clear hbel hB3 hrow f4 HA hgr H1 H2 hroom hB1
  have f1' : (p' : Int) < (n' : Int) := by omega
  have f2' : (n : Int) ≤ (n' : Int) := by omega
  by_cases hk : p < s
  · have hkp : (p : Int) ≤ (p' : Int) := by have := (HH.out.2.2.2.1 p (by omega) (by omega)).1; omega
    have hk' : (p : Int) < (s : Int) := by omega
    have hKp : p ≤ p := by omega
    have hKs : p ≤ s := by omega
    go_wp2
    go_loopw [18] (fun i wr => ∃ j : Nat, j ≤ p ∧ i = .int .i64 j ∧ ∃ m, wr = w3.drewN m) (fun i _ => p - (intOf i).toNat)
    case atStart => exact ⟨0, Nat.zero_le _, rfl, 0, rfl⟩
    case round =>
      obtain ⟨j, hj, rfl, m, rfl⟩ := hrel
      by_cases hlt : j < p
      · obtain ⟨b2, x, rfl, hx1, hx2⟩ := round_cells HH.out.2.1 HH.out.2.2.1 HH.out.2.2.2.1 HH.out.2.2.2.2 hKs hKp hlt hp f1
        have i1 : (0 : Int) ≤ (p' : Int) - 1 - (j : Int) := by omega
        have i2 : (p' : Int) - 1 - (j : Int) < (n' : Int) := by omega
        have i3 : (0 : Int) ≤ (p : Int) - 1 - (j : Int) := by omega
        have i4 : (p : Int) - 1 - (j : Int) < (n : Int) := by omega
        have hlt' : (j : Int) < (p : Int) := by omega
        go_wp2
        go_quiet (fail)
        go_wp2
        go_roundw
        case rel => exact ⟨j + 1, by omega, by go_num, m + nq, by simp⟩
        case measure => simp [intOf]; omega
      · go_wp2
        go_ret
        exact ⟨rfl, below_drewN HH.out.1 m⟩
  · have hkp : (s : Int) ≤ (p' : Int) := by have := (HH.out.2.2.2.1 s (by omega) (by omega)).1; omega
    have hk' : ¬ (p : Int) < (s : Int) := by omega
    have hKp : s ≤ p := by omega
    have hKs : s ≤ s := by omega
    go_wp2
    go_loopw [18] (fun i wr => ∃ j : Nat, j ≤ s ∧ i = .int .i64 j ∧ ∃ m, wr = w3.drewN m) (fun i _ => s - (intOf i).toNat)
    case atStart => exact ⟨0, Nat.zero_le _, rfl, 0, rfl⟩
    case round =>
      obtain ⟨j, hj, rfl, m, rfl⟩ := hrel
      by_cases hlt : j < s
      · obtain ⟨b2, x, rfl, hx1, hx2⟩ := round_cells HH.out.2.1 HH.out.2.2.1 HH.out.2.2.2.1 HH.out.2.2.2.2 hKs hKp hlt hp f1
        have i1 : (0 : Int) ≤ (p' : Int) - 1 - (j : Int) := by omega
        have i2 : (p' : Int) - 1 - (j : Int) < (n' : Int) := by omega
        have i3 : (0 : Int) ≤ (p : Int) - 1 - (j : Int) := by omega
        have i4 : (p : Int) - 1 - (j : Int) < (n : Int) := by omega
        have hlt' : (j : Int) < (s : Int) := by omega
        go_wp2
        go_quiet (fail)
        go_wp2
        go_roundw
        case rel => exact ⟨j + 1, by omega, by go_num, m + nq, by simp⟩
        case measure => simp [intOf]; omega
      · go_wp2
        go_ret
        exact ⟨rfl, below_drewN HH.out.1 m⟩

/-! ### STEP 1: THE WALK: the Go text returns true, AND WRITES NOTHING THAT WAS THERE: 'Below w.heap.size w w'' (Derived/Below.lean: '.refl', '.alloc', '.drew', '.setCell' at a new block, '.trans'). Open each 'IsRow' by 'rcases' AHEAD of 'go_enter'; part every test ahead of the walk. -/
theorem walk (a0 : Option Addr) (len0 cap0 : Nat) (z0 : List Int) (a1 : Int) (a2 : Int) (a3 : Int) (a4 : Int) (w : World) (w0 : IsRow .u8 w a0 len0 cap0 z0) (w1 : (Lit.int .i64 a1).wf = true) (w2 : (Lit.int .i64 a2).wf = true) (w3 : (Lit.int .i64 a3).wf = true) (w4 : (Lit.int .i64 a4).wf = true) :
    Calls Try.prog 3 #[.slice a0 len0 cap0, .int .i64 a1, .int .i64 a2, .int .i64 a3, .int .i64 a4] w fun e w' => e = .returned (.bool true) ∧ Below w.heap.size w w' := by
  obtain ⟨hmax, hnil, hcell⟩ := row_facts w0
  unfold maxLen at hmax
  by_cases hbig : 1048576 < len0
  · go_enter Try.func3, Try.ntmps3
    go_wp2_with (go_at_call 11; refine (zz_no a0 len0 cap0 a1 a2 a3 a4 _ hbig (by omega)).mono ?_; rintro e w' ⟨rfl, rfl⟩)
    go_ret
    exact ⟨rfl, Below.refl _ _⟩
  have hn : len0 ≤ 1048576 := by omega
  have hn' : (len0 : Int) ≤ 1048576 := by omega
  by_cases h1 : a3 < 0
  · go_enter Try.func3, Try.ntmps3
    go_wp2_with (go_at_call 11; refine (zz_yes a0 len0 cap0 a1 a2 a3 a4 _ hn).mono ?_; rintro e w' ⟨rfl, rfl⟩)
    go_ret
    exact ⟨rfl, Below.refl _ _⟩
  have h1' : 0 ≤ a3 := by omega
  by_cases h2 : 65536 < a3
  · go_enter Try.func3, Try.ntmps3
    go_wp2_with (go_at_call 11; refine (zz_yes a0 len0 cap0 a1 a2 a3 a4 _ hn).mono ?_; rintro e w' ⟨rfl, rfl⟩)
    go_ret
    exact ⟨rfl, Below.refl _ _⟩
  have h2' : a3 ≤ 65536 := by omega
  by_cases h3 : a1 < 0
  · go_enter Try.func3, Try.ntmps3
    go_wp2_with (go_at_call 11; refine (zz_yes a0 len0 cap0 a1 a2 a3 a4 _ hn).mono ?_; rintro e w' ⟨rfl, rfl⟩)
    go_ret
    exact ⟨rfl, Below.refl _ _⟩
  have h3' : 0 ≤ a1 := by omega
  by_cases h4 : (len0 : Int) < a1
  · go_enter Try.func3, Try.ntmps3
    go_wp2_with (go_at_call 11; refine (zz_yes a0 len0 cap0 a1 a2 a3 a4 _ hn).mono ?_; rintro e w' ⟨rfl, rfl⟩)
    go_ret
    exact ⟨rfl, Below.refl _ _⟩
  have h4' : a1 ≤ (len0 : Int) := by omega
  by_cases h5 : a2 = a1
  · subst h5
    obtain ⟨p, rfl⟩ := Int.eq_ofNat_of_zero_le h3'
    obtain ⟨s, rfl⟩ := Int.eq_ofNat_of_zero_le h1'
    exact main a0 len0 cap0 p s a4 (fun i => z0.getD i 0) w hn (by omega) (by omega) hnil hcell
  · have h5' : (a2 != a1) = true := by simpa using h5
    go_enter Try.func3, Try.ntmps3
    go_wp2_with (go_at_call 11; refine (zz_yes a0 len0 cap0 a1 a2 a3 a4 _ hn).mono ?_; rintro e w' ⟨rfl, rfl⟩)
    go_ret
    exact ⟨rfl, Below.refl _ _⟩

/-! ### THE ROW's STEP: WRITTEN OUT: LEAVE IT -/
set_option maxRecDepth 100000 in
theorem lifted (os : Os) (started : os.Started) (H : Type) (enc : TypeId × Value → H) :
    ReturnsInHanded {} Try.checked os 3 .any (Rows.fnMakeRoomMakesRoomKeepingDictionarySpec.pre6 enc Try.prog Try.f3 Rows.fnMakeRoomMakesRoomKeepingDictionaryRow.domain false) (Rows.fnMakeRoomMakesRoomKeepingDictionarySpec.post enc Try.prog Try.f3 false true false false) := by
  refine returnsInHanded_of_change (C := Try.checked) own started (by kernel_rfl) Try.func3
    (ChangeSpec.witness6 (enc := enc) (C := Try.checked) false ⟨#[], #[.slice none 0 0, .int .i64 0, .int .i64 0, .int .i64 0, .int .i64 0], []⟩ 8 (by kernel_rfl) (by kernel_rfl) (by kernel_rfl) (by kernel_rfl)) ?_
  intro W base args ds gs before hval0 hW hcnd _
  have hval : ∀ (j : Nat) t v, Try.f3.params[j]? = some t → args[j]? = some v → Value.okWide Try.prog W .any base t v := hval0
  have hW' := hW
  obtain ⟨p, q, hA0, hV, rfl, hfz, hnd⟩ := hW
  have hA : DataW.TrodAll enc Try.prog W 0 (fun _ => true) true Try.f3.params.toList args.toList ds p := hA0
  rw [Try.params3] at hA hval
  obtain ⟨v0, vs0, d0, ds0, p0, q0, hargs, rfl, rfl, h0, r0⟩ := trodAll_cons hA
  obtain ⟨v1, vs1, d1, ds1, p1, q1, rfl, rfl, rfl, h1, r1⟩ := trodAll_cons r0
  obtain ⟨v2, vs2, d2, ds2, p2, q2, rfl, rfl, rfl, h2, r2⟩ := trodAll_cons r1
  obtain ⟨v3, vs3, d3, ds3, p3, q3, rfl, rfl, rfl, h3, r3⟩ := trodAll_cons r2
  obtain ⟨v4, vs4, d4, ds4, p4, q4, rfl, rfl, rfl, h4, r4⟩ := trodAll_cons r3
  obtain ⟨rfl, rfl, rfl⟩ := trodAll_nil r4
  obtain rfl : args = #[v0, v1, v2, v3, v4] := by cases args; simp_all
  obtain ⟨rfl, rfl⟩ := trodVars_none hV
  obtain ⟨a0, len0, cap0, rfl⟩ := okWide_slice Try.underlying22 (hval 0 22 v0 rfl rfl)
  have k0 := h0
  have lt0 : ∀ x ∈ p0, x.block < W.heap.size := by obtain ⟨m, hm⟩ := k0; exact DataW.trod_lt m _ _ _ hm
  obtain ⟨z0, w0⟩ : ∃ zs, IsRow .u8 W a0 len0 cap0 zs := by
    obtain ⟨fuel, hf⟩ := h0
    rcases open_ints Try.underlying22 Try.underlying5 (by kernel_rfl) hf with ⟨hcs, _⟩ | ⟨x, l, c, zs, hcs, _, hl, hm, hz, _, hcell, hwz⟩
    · simp [Value.cells] at hcs
      obtain ⟨rfl, rfl, rfl⟩ := hcs
      exact ⟨[], .inl ⟨rfl, rfl, rfl, rfl⟩⟩
    · simp [Value.cells] at hcs
      obtain ⟨rfl, rfl, rfl⟩ := hcs
      exact ⟨zs, .inr ⟨_, rfl, hl, hm, by simpa using hz, hcell, hwz⟩⟩
  obtain ⟨a1, rfl, rfl, rfl, w1⟩ := open_int Try.underlying3 (hval 1 3 v1 rfl rfl) h1
  obtain ⟨a2, rfl, rfl, rfl, w2⟩ := open_int Try.underlying3 (hval 2 3 v2 rfl rfl) h2
  obtain ⟨a3, rfl, rfl, rfl, w3⟩ := open_int Try.underlying3 (hval 3 3 v3 rfl rfl) h3
  obtain ⟨a4, rfl, rfl, rfl, w4⟩ := open_int Try.underlying2 (hval 4 2 v4 rfl rfl) h4
  clear hA0 hval0
  refine (walk a0 len0 cap0 z0 a1 a2 a3 a4 W w0 w1 w2 w3 w4).mono fun e W' ⟨he, bel⟩ => ?_
  subst he
  exact ⟨_, rfl, _, _, _, [], _, [], hW', trodAll_mk1 (shut_bool Try.underlying4 _), (trodAll_cons_mk (Below.trod laidOut (by kernel_rfl) (of_decide_eq_true (by kernel_rfl)) k0 bel lt0) (trodAll_cons_mk (shut_int Try.underlying3 w1) (trodAll_cons_mk (shut_int Try.underlying3 w2) (trodAll_cons_mk (shut_int Try.underlying3 w3) (trodAll_cons_mk (shut_int Try.underlying2 w4) trodAll_mk0))))), rfl, bel.frame _, fun h => by cases h⟩

theorem over : Rows.fnMakeRoomMakesRoomKeepingDictionaryRow.holds Try.pinned (OpenSpec.ofChange Rows.fnMakeRoomMakesRoomKeepingDictionarySpec) :=
  OpenClaim.holds_of_wide 3 Try.f3 rfl rfl rfl rfl rfl rfl rfl ⟨rfl, rfl, rfl, rfl, rfl⟩ rfl rfl rfl rfl rfl (by kernel_rfl) Try.func3 (by kernel_rfl)
    (of_decide_eq_true (by kernel_rfl)) (by unfold Func.isWrapper; first | (rw [if_pos (by decide +kernel)]; kernel_rfl) | (rw [if_neg (by decide +kernel)]; exact ⟨rfl, rfl⟩))
    (fun os started H enc _ => lifted os started H enc)

/-- ████ THE STATEMENT ████ -/
theorem proved : Rows.FnMakeRoomMakesRoomKeepingDictionarySaid := over
end Go.Proofs.Qxb6001347a.fnMakeRoomMakesRoomKeepingDictionary
