/- The frame of this text was written by the kit (proof-skeleton.mjs) for this function; the walk is typed by the prover. -/
import Derived.Test.Qxb6001347aRows
import Derived.Test.Qxb6001347aBit
import Derived.WalkKit
import Derived.ProofKit
import Derived.OpenShut
import Derived.ShutString
import Derived.ChangeOld
import Derived.Below
namespace Go.Proofs.Qxb6001347a.fnBitOfSplitsRangeMonotonically
open Go.ChangeShapes Go.WideShapes Go.ChangeAt Go.RowKit
open Go.ChangeMaps (open_string shut_string)
set_option linter.unusedVariables false      -- a walk need not use every 'w<i>' (that an integer argument fits its kind)

theorem own : ownKnob Try.prog.godebug = none := by kernel_rfl

set_option maxHeartbeats 400000 in
/-- subrangeOK (function 18). -/
theorem sub_ok (g r c : Int) (w : World) (h0 : 0 ≤ g) (h1 : g / 2048 ≤ r) (h2 : r < g) (h3 : c < r) :
    Calls Try.prog 18 #[.int .u32 g, .int .u32 r, .int .u32 c] w fun e w' => e = .returned (.bool true) ∧ w' = w := by
  go_enter Try.func18, Try.ntmps18
  go_wp2
  go_ret
  exact ⟨rfl, rfl⟩

/-- The bound cuts the range in two: no product wraps. -/
theorem cut_facts (g v : Int) (hg0 : 2048 ≤ g) (hg1 : g ≤ 4294967295) (hv0 : 1 ≤ v) (hv1 : v ≤ 2047) :
    ∃ B, g / 2048 * v = B ∧ g / 2048 ≤ B ∧ B + g / 2048 ≤ g ∧ B < g ∧ 1 ≤ g / 2048 ∧ B % 4294967296 = B := by
  have h1 : 1 ≤ g / 2048 := by omega
  have h2 : g / 2048 * 1 ≤ g / 2048 * v := Int.mul_le_mul_of_nonneg_left hv0 (by omega)
  have h3 : g / 2048 * v ≤ g / 2048 * 2047 := Int.mul_le_mul_of_nonneg_left hv1 (by omega)
  refine ⟨_, rfl, ?_, ?_, ?_, h1, ?_⟩ <;> omega

/-- One step under the law's premises, in plain numbers. -/
theorem step_facts (g c v r' c' b p B : Int) (hB : g / 2048 * v = B) (hB1 : g / 2048 ≤ B) (hB2 : B + g / 2048 ≤ g) (hB3 : B < g) (hg1 : g ≤ 4294967295) (h1 : 1 ≤ g / 2048) (hm : B % 4294967296 = B) (hc0 : 0 ≤ c) (hc1 : c < g) (h : Step g c v r' c' b p) :
    (c < B ∧ r' = B ∧ c' = c ∧ b = 0) ∨ (B ≤ c ∧ r' = g - B ∧ c' = c - B ∧ b = 1) := by
  obtain ⟨-, -, h⟩ := h
  rw [hB, hm] at h
  rcases h with ⟨a, b, c, d, -⟩ | ⟨a, b, c, d, -⟩
  · exact .inl ⟨a, b, c, d⟩
  · refine .inr ⟨a, ?_, ?_, d⟩ <;> omega

/-! ### STEP 1: THE WALK: the Go text returns true. 'Below w.heap.size w w'': nothing that was there has turned. -/
theorem walk (a0 : Int) (a1 : Int) (a2 : Int) (a3 : Int) (a4 : Int) (w0 : (Lit.int .u32 a0).wf = true) (w1 : (Lit.int .u32 a1).wf = true) (w2 : (Lit.int .u32 a2).wf = true) (w3 : (Lit.int .i64 a3).wf = true) (w4 : (Lit.int .u32 a4).wf = true) (w : World) :
    Calls Try.prog 6 #[.int .u32 a0, .int .u32 a1, .int .u32 a2, .int .i64 a3, .int .u32 a4] w fun e w' => e = .returned (.bool true) ∧ Below w.heap.size w w' := by
  obtain ⟨g0, g1⟩ := bounds_u32 w0
  obtain ⟨c0, c1⟩ := bounds_u32 w1
  obtain ⟨d0, d1⟩ := bounds_u32 w2
  obtain ⟨v0, v1⟩ := bounds_u32 w4
  by_cases hv1 : a4 < 1
  · go_enter Try.func6, Try.ntmps6
    go_wp2
    go_ret
    exact ⟨rfl, Below.refl _ _⟩
  have hv3 : 1 ≤ a4 := by omega
  by_cases hv2 : 2047 < a4
  · go_enter Try.func6, Try.ntmps6
    go_wp2
    go_ret
    exact ⟨rfl, Below.refl _ _⟩
  have hv4 : a4 ≤ 2047 := by omega
  by_cases hr1 : a0 < 2048
  · go_enter Try.func6, Try.ntmps6
    go_wp2
    go_ret
    exact ⟨rfl, Below.refl _ _⟩
  have hr2 : 2048 ≤ a0 := by omega
  by_cases hA : a0 ≤ a1
  · go_enter Try.func6, Try.ntmps6
    go_wp2
    go_ret
    exact ⟨rfl, Below.refl _ _⟩
  have hA' : a1 < a0 := by omega
  by_cases hC : a0 ≤ a2
  · go_enter Try.func6, Try.ntmps6
    go_wp2
    go_ret
    exact ⟨rfl, Below.refl _ _⟩
  have hC' : a2 < a0 := by omega
  clear hv1 hv2 hr1 hA hC
  obtain ⟨B, hB, hB1, hB2, hB3, hB4, hB5⟩ := cut_facts a0 a4 hr2 (by omega) hv3 hv4
  have HB : Hid (a0 / 2048 * a4 = B ∧ B % 4294967296 = B) := ⟨hB, hB5⟩
  clear hB hB5
  by_cases ho : a2 < a1
  · go_enter Try.func6, Try.ntmps6
    go_wp2_with fail
    refine (zzBitOf_any a0 a2 a3 a4 0 _ g0 (by omega) d0 (by omega) v0 (by omega)).mono ?_
    rintro e wA ⟨rL, cL, bL, pL, rfl, hsL, hbA⟩
    have fL := step_facts a0 a2 a4 rL cL bL pL B HB.out.1 hB1 hB2 hB3 (by omega) hB4 HB.out.2 d0 (by omega) hsL
    clear hsL
    have SA := hbA.size
    go_wp2_with fail
    refine (zzBitOf_any a0 a1 a3 a4 0 _ g0 (by omega) c0 (by omega) v0 (by omega)).mono ?_
    rintro e wB ⟨rH, cH, bH, pH, rfl, hsH, hbB⟩
    have fH := step_facts a0 a1 a4 rH cH bH pH B HB.out.1 hB1 hB2 hB3 (by omega) hB4 HB.out.2 c0 (by omega) hsH
    clear hsH
    have hbel : Below w.heap.size w wB := hbA.trans (hbB.mono SA)
    clear hbA hbB SA
    rcases fL with ⟨l1, rfl, rfl, rfl⟩ | ⟨l1, rfl, rfl, rfl⟩ <;> rcases fH with ⟨u1, rfl, rfl, rfl⟩ | ⟨u1, rfl, rfl, rfl⟩
    all_goals first | (exfalso; omega) | skip
    all_goals
      go_wp2_with (go_at_call 18; refine (sub_ok _ _ _ _ (by omega) (by omega) (by omega) (by omega)).mono ?_; rintro e w' ⟨rfl, rfl⟩)
      go_ret
      refine ⟨?_, hbel⟩
      first | (simp; done) | (simp; omega)
  · have ho' : a1 ≤ a2 := by omega
    go_enter Try.func6, Try.ntmps6
    go_wp2_with fail
    refine (zzBitOf_any a0 a1 a3 a4 0 _ g0 (by omega) c0 (by omega) v0 (by omega)).mono ?_
    rintro e wA ⟨rL, cL, bL, pL, rfl, hsL, hbA⟩
    have fL := step_facts a0 a1 a4 rL cL bL pL B HB.out.1 hB1 hB2 hB3 (by omega) hB4 HB.out.2 c0 (by omega) hsL
    clear hsL
    have SA := hbA.size
    go_wp2_with fail
    refine (zzBitOf_any a0 a2 a3 a4 0 _ g0 (by omega) d0 (by omega) v0 (by omega)).mono ?_
    rintro e wB ⟨rH, cH, bH, pH, rfl, hsH, hbB⟩
    have fH := step_facts a0 a2 a4 rH cH bH pH B HB.out.1 hB1 hB2 hB3 (by omega) hB4 HB.out.2 d0 (by omega) hsH
    clear hsH
    have hbel : Below w.heap.size w wB := hbA.trans (hbB.mono SA)
    clear hbA hbB SA
    rcases fL with ⟨l1, rfl, rfl, rfl⟩ | ⟨l1, rfl, rfl, rfl⟩ <;> rcases fH with ⟨u1, rfl, rfl, rfl⟩ | ⟨u1, rfl, rfl, rfl⟩
    all_goals first | (exfalso; omega) | skip
    all_goals
      go_wp2_with (go_at_call 18; refine (sub_ok _ _ _ _ (by omega) (by omega) (by omega) (by omega)).mono ?_; rintro e w' ⟨rfl, rfl⟩)
      go_ret
      refine ⟨?_, hbel⟩
      first | (simp; done) | (simp; omega)

/-! ### THE ROW's STEP: WRITTEN OUT: LEAVE IT -/
set_option maxRecDepth 100000 in
theorem lifted (os : Os) (started : os.Started) (H : Type) (enc : TypeId × Value → H) :
    ReturnsInHanded {} Try.checked os 6 .any (Rows.fnBitOfSplitsRangeMonotonicallySpec.pre6 enc Try.prog Try.f6 Rows.fnBitOfSplitsRangeMonotonicallyRow.domain false) (Rows.fnBitOfSplitsRangeMonotonicallySpec.post enc Try.prog Try.f6 false true false false) := by
  refine returnsInHanded_of_change (C := Try.checked) own started (by kernel_rfl) Try.func6
    (ChangeSpec.witness6 (enc := enc) (C := Try.checked) false ⟨#[], #[.int .u32 0, .int .u32 0, .int .u32 0, .int .i64 0, .int .u32 0], []⟩ 8 (by kernel_rfl) (by kernel_rfl) (by kernel_rfl) (by kernel_rfl)) ?_
  intro W base args ds gs before hval0 hW hcnd _
  have hval : ∀ (j : Nat) t v, Try.f6.params[j]? = some t → args[j]? = some v → Value.okWide Try.prog W .any base t v := hval0
  have hW' := hW
  obtain ⟨p, q, hA0, hV, rfl, hfz, hnd⟩ := hW
  have hA : DataW.TrodAll enc Try.prog W 0 (fun _ => true) true Try.f6.params.toList args.toList ds p := hA0
  rw [Try.params6] at hA hval
  obtain ⟨v0, vs0, d0, ds0, p0, q0, hargs, rfl, rfl, h0, r0⟩ := trodAll_cons hA
  obtain ⟨v1, vs1, d1, ds1, p1, q1, rfl, rfl, rfl, h1, r1⟩ := trodAll_cons r0
  obtain ⟨v2, vs2, d2, ds2, p2, q2, rfl, rfl, rfl, h2, r2⟩ := trodAll_cons r1
  obtain ⟨v3, vs3, d3, ds3, p3, q3, rfl, rfl, rfl, h3, r3⟩ := trodAll_cons r2
  obtain ⟨v4, vs4, d4, ds4, p4, q4, rfl, rfl, rfl, h4, r4⟩ := trodAll_cons r3
  obtain ⟨rfl, rfl, rfl⟩ := trodAll_nil r4
  obtain rfl : args = #[v0, v1, v2, v3, v4] := by cases args; simp_all
  obtain ⟨rfl, rfl⟩ := trodVars_none hV
  obtain ⟨a0, rfl, rfl, rfl, w0⟩ := open_int Try.underlying29 (hval 0 29 v0 rfl rfl) h0
  obtain ⟨a1, rfl, rfl, rfl, w1⟩ := open_int Try.underlying29 (hval 1 29 v1 rfl rfl) h1
  obtain ⟨a2, rfl, rfl, rfl, w2⟩ := open_int Try.underlying29 (hval 2 29 v2 rfl rfl) h2
  obtain ⟨a3, rfl, rfl, rfl, w3⟩ := open_int Try.underlying3 (hval 3 3 v3 rfl rfl) h3
  obtain ⟨a4, rfl, rfl, rfl, w4⟩ := open_int Try.underlying29 (hval 4 29 v4 rfl rfl) h4
  clear hA0 hval0
  simp only [List.append_nil] at hW'
  refine (walk a0 a1 a2 a3 a4 w0 w1 w2 w3 w4 W).mono fun e W' ⟨he, hg⟩ => ?_
  subst he
  exact ⟨_, rfl, _, _, _, [], [], [], hW', (trodAll_cons_mk (shut_bool Try.underlying4 _) trodAll_mk0), (trodAll_cons_mk (shut_int Try.underlying29 w0) (trodAll_cons_mk (shut_int Try.underlying29 w1) (trodAll_cons_mk (shut_int Try.underlying29 w2) (trodAll_cons_mk (shut_int Try.underlying3 w3) (trodAll_cons_mk (shut_int Try.underlying29 w4) trodAll_mk0))))), rfl, hg.frame _, fun h => by cases h⟩

theorem over : Rows.fnBitOfSplitsRangeMonotonicallyRow.holds Try.pinned (OpenSpec.ofChange Rows.fnBitOfSplitsRangeMonotonicallySpec) :=
  OpenClaim.holds_of_wide 6 Try.f6 rfl rfl rfl rfl rfl rfl rfl ⟨rfl, rfl, rfl, rfl, rfl⟩ rfl rfl rfl rfl rfl (by kernel_rfl) Try.func6 (by kernel_rfl)
    (of_decide_eq_true (by kernel_rfl)) (by unfold Func.isWrapper; first | (rw [if_pos (by decide +kernel)]; kernel_rfl) | (rw [if_neg (by decide +kernel)]; exact ⟨rfl, rfl⟩))
    (fun os started H enc _ => lifted os started H enc)

/-- ████ THE STATEMENT ████ -/
theorem proved : Rows.FnBitOfSplitsRangeMonotonicallySaid :=
  over
end Go.Proofs.Qxb6001347a.fnBitOfSplitsRangeMonotonically
