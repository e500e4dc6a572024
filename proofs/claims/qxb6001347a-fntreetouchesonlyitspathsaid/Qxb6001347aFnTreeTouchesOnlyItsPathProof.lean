/- The frame of this text was written by the kit (proof-skeleton.mjs) for this function; the walk is typed by the prover. -/
import Derived.Test.Qxb6001347aRows
import Derived.Test.Qxb6001347aTreeL
import Derived.WalkKit
import Derived.ProofKit
import Derived.OpenShut
import Derived.ShutString
import Derived.ChangeOld
import Derived.Below
namespace Go.Proofs.Qxb6001347a.fnTreeTouchesOnlyItsPath
open Go.ChangeShapes Go.WideShapes Go.ChangeAt Go.RowKit
open Go.ChangeMaps (open_string shut_string)
set_option linter.unusedVariables false

theorem own : ownKnob Try.prog.godebug = none := by kernel_rfl
theorem laidOut : laidOutB Try.prog = true := by kernel_rfl

/-- WHAT THE WALK IS TOLD OF A SLICE OF INTEGERS THAT CAME IN: it is nil; or it leads to a row of 'cap' cells, the numbers 'zs' (the first 'len' are its elements, the rest its spare room), each fitting its kind. -/
def IsRow (k : IntKind) (w : World) (a : Option Addr) (len cap : Nat) (zs : List Int) : Prop :=
  (a = none ∧ len = 0 ∧ cap = 0 ∧ zs = []) ∨
  ∃ x, a = some x ∧ len ≤ cap ∧ cap ≤ maxLen ∧ zs.length = cap ∧ (∀ i, i < zs.length → w.cell? (x.add i) = some (.int k (zs.getD i 0))) ∧ ∀ n ∈ zs, (Lit.int k n).wf = true

/-- What the walk wants of the slices that came in. -/
theorem row_facts {k : IntKind} {w : World} {a : Option Addr} {len cap : Nat} {zs : List Int} (h : IsRow k w a len cap zs) :
    len ≤ maxLen ∧ (a = none → len = 0) ∧ (∀ x, a = some x → ∀ i, i < len → w.cell? (x.add i) = some (.int k (zs.getD i 0))) ∧ ∀ n ∈ zs, (Lit.int k n).wf = true := by
  rcases h with ⟨rfl, rfl, rfl, rfl⟩ | ⟨x, rfl, hl, hm, hz, hcell, hwz⟩
  · exact ⟨Nat.zero_le _, fun _ => rfl, fun x e => (by cases e), fun n hn => absurd hn List.not_mem_nil⟩
  · exact ⟨Nat.le_trans hl hm, fun e => (by cases e), fun y e i hi => (by cases e; exact hcell i (by omega)), hwz⟩

theorem u8_at {zs : List Int} (h : ∀ n ∈ zs, (Lit.int .u8 n).wf = true) (i : Nat) : 0 ≤ zs.getD i 0 ∧ zs.getD i 0 ≤ 255 := by
  by_cases hi : i < zs.length
  · have := bounds_u8 (h zs[i] (List.getElem_mem hi))
    simpa [List.getD, hi] using this
  · simp [List.getD, hi]
theorem u16_at {zs : List Int} (h : ∀ n ∈ zs, (Lit.int .u16 n).wf = true) (i : Nat) : 0 ≤ zs.getD i 0 ∧ zs.getD i 0 < 65536 := by
  by_cases hi : i < zs.length
  · have := bounds_u16 (h zs[i] (List.getElem_mem hi))
    have h2 : zs.getD i 0 = zs[i] := by simp [List.getD, hi]
    omega
  · simp [List.getD, hi]

/-! ### STEP 1: THE WALK: the Go text returns true, AND WRITES NOTHING THAT WAS THERE: 'Below w.heap.size w w'' (Derived/Below.lean: '.refl', '.alloc', '.drew', '.setCell' at a new block, '.trans'). Open each 'IsRow' by 'rcases' AHEAD of 'go_enter'; part every test ahead of the walk. -/
theorem walk (a0 : Int) (a1 : Int) (a2 : Int) (a3 : Option Addr) (len3 cap3 : Nat) (z3 : List Int) (a4 : Option Addr) (len4 cap4 : Nat) (z4 : List Int) (a5 : Int) (w : World) (w0 : (Lit.int .u32 a0).wf = true) (w1 : (Lit.int .u32 a1).wf = true) (w2 : (Lit.int .i64 a2).wf = true) (w3 : IsRow .u8 w a3 len3 cap3 z3) (w4 : IsRow .u16 w a4 len4 cap4 z4) (w5 : (Lit.int .u64 a5).wf = true) :
    Calls Try.prog 10 #[.int .u32 a0, .int .u32 a1, .int .i64 a2, .slice a3 len3 cap3, .slice a4 len4 cap4, .int .u64 a5] w fun e w' => e = .returned (.bool true) ∧ Below w.heap.size w w' := by
  obtain ⟨hmax3, hnil3, hcell3, hwf3⟩ := row_facts w3
  obtain ⟨hmax4, hnil4, hcell4, hwf4⟩ := row_facts w4
  unfold maxLen at hmax3 hmax4
  obtain ⟨r0, r1⟩ := bounds_u32 w0
  obtain ⟨c0, c1⟩ := bounds_u32 w1
  obtain ⟨p0, p1⟩ := bounds_i64 w2
  obtain ⟨u0, u1⟩ := bounds_u64 w5
  by_cases hbig : 1048576 < len3 + len4
  · go_enter Try.func10, Try.ntmps10
    go_wp2_with (go_at_call 25; refine (zz25_no a3 a4 len3 cap3 len4 cap4 a0 a1 a2 a5 _ hbig (by omega) (by omega)).mono ?_; rintro e w' ⟨rfl, rfl⟩)
    go_ret
    exact ⟨rfl, Below.refl _ _⟩
  have hn : len3 + len4 ≤ 1048576 := by omega
  by_cases h1 : 65536 < len3
  · have h1' : (65536 : Int) < (len3 : Int) := by omega
    go_enter Try.func10, Try.ntmps10
    go_wp2_with (go_at_call 25; refine (zz25_yes a3 a4 len3 cap3 len4 cap4 a0 a1 a2 a5 _ hn).mono ?_; rintro e w' ⟨rfl, rfl⟩)
    go_ret
    exact ⟨rfl, Below.refl _ _⟩
  have h1' : (len3 : Int) ≤ 65536 := by omega
  by_cases h2 : 65536 < len4
  · have h2' : (65536 : Int) < (len4 : Int) := by omega
    go_enter Try.func10, Try.ntmps10
    go_wp2_with (go_at_call 25; refine (zz25_yes a3 a4 len3 cap3 len4 cap4 a0 a1 a2 a5 _ hn).mono ?_; rintro e w' ⟨rfl, rfl⟩)
    go_ret
    exact ⟨rfl, Below.refl _ _⟩
  have h2' : (len4 : Int) ≤ 65536 := by omega
  by_cases h3 : a5 < 1
  · go_enter Try.func10, Try.ntmps10
    go_wp2_with (go_at_call 25; refine (zz25_yes a3 a4 len3 cap3 len4 cap4 a0 a1 a2 a5 _ hn).mono ?_; rintro e w' ⟨rfl, rfl⟩)
    go_ret
    exact ⟨rfl, Below.refl _ _⟩
  have h3' : 1 ≤ a5 := by omega
  by_cases h4 : 16 < a5
  · go_enter Try.func10, Try.ntmps10
    go_wp2_with (go_at_call 25; refine (zz25_yes a3 a4 len3 cap3 len4 cap4 a0 a1 a2 a5 _ hn).mono ?_; rintro e w' ⟨rfl, rfl⟩)
    go_ret
    exact ⟨rfl, Below.refl _ _⟩
  have h4' : a5 ≤ 16 := by omega
  obtain ⟨n, rfl⟩ := Int.eq_ofNat_of_zero_le u0
  by_cases h5 : len4 = 2 ^ n
  · cases a4 with
    | none =>
      have := hnil4 rfl
      have := Nat.two_pow_pos n
      omega
    | some x =>
      obtain ⟨b, off, spot⟩ := x
      have hc := hcell4 _ rfl 0 (by have := Nat.two_pow_pos n; omega)
      have hspot : spot = none := by simpa [Addr.add] using World.cell?_spot hc
      subst hspot
      exact treeLaw.main a0 a1 a2 a3 len3 cap3 (fun i => z3.getD i 0) b off len4 cap4 n (fun i => z4.getD i 0) w ⟨r0, by omega, c0, by omega⟩ ⟨p0, p1⟩ (by omega) (by omega) h5 (by omega) hnil3 hcell3 (fun j _ => u8_at hwf3 j) (fun i hi => by rw [← Addr.add_lit]; exact hcell4 _ rfl i hi) (fun i => u16_at hwf4 i)
  · obtain ⟨N, hN⟩ : ∃ N : Nat, N = 2 ^ n := ⟨_, rfl⟩
    have hpow : ((2 : Int) ^ n) = (N : Int) := by rw [hN]; simp
    have hN2 : N ≤ 65536 := by
      rw [hN]
      calc 2 ^ n ≤ 2 ^ 16 := Nat.pow_le_pow_right (by omega) (by omega)
        _ = 65536 := rfl
    have hN2' : (N : Int) ≤ 65536 := by omega
    have hne : ((len4 : Int) != (N : Int)) = true := by simp; omega
    clear hN h5
    go_enter Try.func10, Try.ntmps10
    go_wp2_with (go_at_call 25; refine (zz25_yes a3 a4 len3 cap3 len4 cap4 a0 a1 a2 n _ hn).mono ?_; rintro e w' ⟨rfl, rfl⟩)
    go_ret
    exact ⟨rfl, Below.refl _ _⟩

/-! ### THE ROW's STEP: WRITTEN OUT: LEAVE IT -/
set_option maxRecDepth 100000 in
theorem lifted (os : Os) (started : os.Started) (H : Type) (enc : TypeId × Value → H) :
    ReturnsInHanded {} Try.checked os 10 .any (Rows.fnTreeTouchesOnlyItsPathSpec.pre6 enc Try.prog Try.f10 Rows.fnTreeTouchesOnlyItsPathRow.domain false) (Rows.fnTreeTouchesOnlyItsPathSpec.post enc Try.prog Try.f10 false true false false) := by
  refine returnsInHanded_of_change (C := Try.checked) own started (by kernel_rfl) Try.func10
    (ChangeSpec.witness6 (enc := enc) (C := Try.checked) false ⟨#[], #[.int .u32 0, .int .u32 0, .int .i64 0, .slice none 0 0, .slice none 0 0, .int .u64 0], []⟩ 8 (by kernel_rfl) (by kernel_rfl) (by kernel_rfl) (by kernel_rfl)) ?_
  intro W base args ds gs before hval0 hW hcnd _
  have hval : ∀ (j : Nat) t v, Try.f10.params[j]? = some t → args[j]? = some v → Value.okWide Try.prog W .any base t v := hval0
  have hW' := hW
  obtain ⟨p, q, hA0, hV, rfl, hfz, hnd⟩ := hW
  have hA : DataW.TrodAll enc Try.prog W 0 (fun _ => true) true Try.f10.params.toList args.toList ds p := hA0
  rw [Try.params10] at hA hval
  obtain ⟨v0, vs0, d0, ds0, p0, q0, hargs, rfl, rfl, h0, r0⟩ := trodAll_cons hA
  obtain ⟨v1, vs1, d1, ds1, p1, q1, rfl, rfl, rfl, h1, r1⟩ := trodAll_cons r0
  obtain ⟨v2, vs2, d2, ds2, p2, q2, rfl, rfl, rfl, h2, r2⟩ := trodAll_cons r1
  obtain ⟨v3, vs3, d3, ds3, p3, q3, rfl, rfl, rfl, h3, r3⟩ := trodAll_cons r2
  obtain ⟨v4, vs4, d4, ds4, p4, q4, rfl, rfl, rfl, h4, r4⟩ := trodAll_cons r3
  obtain ⟨v5, vs5, d5, ds5, p5, q5, rfl, rfl, rfl, h5, r5⟩ := trodAll_cons r4
  obtain ⟨rfl, rfl, rfl⟩ := trodAll_nil r5
  obtain rfl : args = #[v0, v1, v2, v3, v4, v5] := by cases args; simp_all
  obtain ⟨rfl, rfl⟩ := trodVars_none hV
  obtain ⟨a0, rfl, rfl, rfl, w0⟩ := open_int Try.underlying29 (hval 0 29 v0 rfl rfl) h0
  obtain ⟨a1, rfl, rfl, rfl, w1⟩ := open_int Try.underlying29 (hval 1 29 v1 rfl rfl) h1
  obtain ⟨a2, rfl, rfl, rfl, w2⟩ := open_int Try.underlying3 (hval 2 3 v2 rfl rfl) h2
  obtain ⟨a3, len3, cap3, rfl⟩ := okWide_slice Try.underlying22 (hval 3 22 v3 rfl rfl)
  have k3 := h3
  have lt3 : ∀ x ∈ p3, x.block < W.heap.size := by obtain ⟨m, hm⟩ := k3; exact DataW.trod_lt m _ _ _ hm
  obtain ⟨z3, w3⟩ : ∃ zs, IsRow .u8 W a3 len3 cap3 zs := by
    obtain ⟨fuel, hf⟩ := h3
    rcases open_ints Try.underlying22 Try.underlying5 (by kernel_rfl) hf with ⟨hcs, _⟩ | ⟨x, l, c, zs, hcs, _, hl, hm, hz, _, hcell, hwz⟩
    · simp [Value.cells] at hcs
      obtain ⟨rfl, rfl, rfl⟩ := hcs
      exact ⟨[], .inl ⟨rfl, rfl, rfl, rfl⟩⟩
    · simp [Value.cells] at hcs
      obtain ⟨rfl, rfl, rfl⟩ := hcs
      exact ⟨zs, .inr ⟨_, rfl, hl, hm, by simpa using hz, hcell, hwz⟩⟩
  obtain ⟨a4, len4, cap4, rfl⟩ := okWide_slice Try.underlying37 (hval 4 37 v4 rfl rfl)
  have k4 := h4
  have lt4 : ∀ x ∈ p4, x.block < W.heap.size := by obtain ⟨m, hm⟩ := k4; exact DataW.trod_lt m _ _ _ hm
  obtain ⟨z4, w4⟩ : ∃ zs, IsRow .u16 W a4 len4 cap4 zs := by
    obtain ⟨fuel, hf⟩ := h4
    rcases open_ints Try.underlying37 Try.underlying30 (by kernel_rfl) hf with ⟨hcs, _⟩ | ⟨x, l, c, zs, hcs, _, hl, hm, hz, _, hcell, hwz⟩
    · simp [Value.cells] at hcs
      obtain ⟨rfl, rfl, rfl⟩ := hcs
      exact ⟨[], .inl ⟨rfl, rfl, rfl, rfl⟩⟩
    · simp [Value.cells] at hcs
      obtain ⟨rfl, rfl, rfl⟩ := hcs
      exact ⟨zs, .inr ⟨_, rfl, hl, hm, by simpa using hz, hcell, hwz⟩⟩
  obtain ⟨a5, rfl, rfl, rfl, w5⟩ := open_int Try.underlying35 (hval 5 35 v5 rfl rfl) h5
  clear hA0 hval0
  refine (walk a0 a1 a2 a3 len3 cap3 z3 a4 len4 cap4 z4 a5 W w0 w1 w2 w3 w4 w5).mono fun e W' ⟨he, bel⟩ => ?_
  subst he
  exact ⟨_, rfl, _, _, _, [], _, [], hW', trodAll_mk1 (shut_bool Try.underlying4 _), (trodAll_cons_mk (shut_int Try.underlying29 w0) (trodAll_cons_mk (shut_int Try.underlying29 w1) (trodAll_cons_mk (shut_int Try.underlying3 w2) (trodAll_cons_mk (Below.trod laidOut (by kernel_rfl) (of_decide_eq_true (by kernel_rfl)) k3 bel lt3) (trodAll_cons_mk (Below.trod laidOut (by kernel_rfl) (of_decide_eq_true (by kernel_rfl)) k4 bel lt4) (trodAll_cons_mk (shut_int Try.underlying35 w5) trodAll_mk0)))))), rfl, bel.frame _, fun h => by cases h⟩

theorem over : Rows.fnTreeTouchesOnlyItsPathRow.holds Try.pinned (OpenSpec.ofChange Rows.fnTreeTouchesOnlyItsPathSpec) :=
  OpenClaim.holds_of_wide 10 Try.f10 rfl rfl rfl rfl rfl rfl rfl ⟨rfl, rfl, rfl, rfl, rfl⟩ rfl rfl rfl rfl rfl (by kernel_rfl) Try.func10 (by kernel_rfl)
    (of_decide_eq_true (by kernel_rfl)) (by unfold Func.isWrapper; first | (rw [if_pos (by decide +kernel)]; kernel_rfl) | (rw [if_neg (by decide +kernel)]; exact ⟨rfl, rfl⟩))
    (fun os started H enc _ => lifted os started H enc)

/-- ████ THE STATEMENT ████ -/
theorem proved : Rows.FnTreeTouchesOnlyItsPathSaid := over
end Go.Proofs.Qxb6001347a.fnTreeTouchesOnlyItsPath
