/- The frame of this text was written by the kit (proof-skeleton.mjs) for this function; the walk is typed by the prover. -/
import Derived.Test.Qxb6001347aRows
import Derived.Test.Qxb6001347aBit
import Derived.WalkKit
import Derived.ProofKit
import Derived.OpenShut
import Derived.ShutString
import Derived.ChangeOld
import Derived.Below
namespace Go.Proofs.Qxb6001347a.fnBitOfKeepsProbabilityInBand
open Go.ChangeShapes Go.WideShapes Go.ChangeAt Go.RowKit
open Go.ChangeMaps (open_string shut_string)
set_option linter.unusedVariables false      -- a walk need not use every 'w<i>' (that an integer argument fits its kind)

theorem own : ownKnob Try.prog.godebug = none := by kernel_rfl

/-! ### STEP 1: THE WALK: the Go text returns true. 'Below w.heap.size w w'': nothing that was there has turned. -/
theorem walk (a0 : Int) (a1 : Int) (a2 : Int) (a3 : Int) (w0 : (Lit.int .u32 a0).wf = true) (w1 : (Lit.int .u32 a1).wf = true) (w2 : (Lit.int .i64 a2).wf = true) (w3 : (Lit.int .u32 a3).wf = true) (w : World) :
    Calls Try.prog 8 #[.int .u32 a0, .int .u32 a1, .int .i64 a2, .int .u32 a3] w fun e w' => e = .returned (.bool true) ∧ Below w.heap.size w w' := by
  obtain ⟨r0, r1⟩ := bounds_u32 w0
  obtain ⟨c0, c1⟩ := bounds_u32 w1
  obtain ⟨v0, v1⟩ := bounds_u32 w3
  by_cases hv1 : a3 < 31
  · go_enter Try.func8, Try.ntmps8
    go_wp2
    go_ret
    exact ⟨rfl, Below.refl _ _⟩
  by_cases hv2 : 2017 < a3
  · have hv3 : 31 ≤ a3 := by omega
    go_enter Try.func8, Try.ntmps8
    go_wp2
    go_ret
    exact ⟨rfl, Below.refl _ _⟩
  have hv3 : 31 ≤ a3 := by omega
  have hv4 : a3 ≤ 2017 := by omega
  have hv5 : a3 ≤ 2048 := by omega
  clear hv1 hv2
  go_enter Try.func8, Try.ntmps8
  go_wp2_with fail
  refine (zzBitOf_any a0 a1 a2 a3 0 _ r0 (by omega) c0 (by omega) v0 (by omega)).mono ?_
  rintro e w1 ⟨r', c', b, p, rfl, ⟨hp0, hp1, hs⟩, hb⟩
  rcases hs with ⟨-, -, -, rfl, hp⟩ | ⟨-, -, -, rfl, hp⟩
  · have hp := hp hv5
    have g1 : 31 ≤ p := by omega
    have g2 : p ≤ 2017 := by omega
    have g3 : a3 ≤ p := by omega
    by_cases hq : a3 < 2017
    · have g4 : a3 < p := by omega
      clear hp
      go_wp2
      go_ret
      exact ⟨rfl, hb⟩
    · clear hp
      go_wp2
      go_ret
      exact ⟨rfl, hb⟩
  · have hp := hp hv5
    have g1 : 31 ≤ p := by omega
    have g2 : p ≤ 2017 := by omega
    have g3 : p ≤ a3 := by omega
    by_cases hq : 31 < a3
    · have g4 : p < a3 := by omega
      clear hp
      go_wp2
      go_ret
      exact ⟨rfl, hb⟩
    · clear hp
      go_wp2
      go_ret
      exact ⟨rfl, hb⟩

/-! ### THE ROW's STEP: WRITTEN OUT: LEAVE IT -/
set_option maxRecDepth 100000 in
theorem lifted (os : Os) (started : os.Started) (H : Type) (enc : TypeId × Value → H) :
    ReturnsInHanded {} Try.checked os 8 .any (Rows.fnBitOfKeepsProbabilityInBandSpec.pre6 enc Try.prog Try.f8 Rows.fnBitOfKeepsProbabilityInBandRow.domain false) (Rows.fnBitOfKeepsProbabilityInBandSpec.post enc Try.prog Try.f8 false true false false) := by
  refine returnsInHanded_of_change (C := Try.checked) own started (by kernel_rfl) Try.func8
    (ChangeSpec.witness6 (enc := enc) (C := Try.checked) false ⟨#[], #[.int .u32 0, .int .u32 0, .int .i64 0, .int .u32 0], []⟩ 8 (by kernel_rfl) (by kernel_rfl) (by kernel_rfl) (by kernel_rfl)) ?_
  intro W base args ds gs before hval0 hW hcnd _
  have hval : ∀ (j : Nat) t v, Try.f8.params[j]? = some t → args[j]? = some v → Value.okWide Try.prog W .any base t v := hval0
  have hW' := hW
  obtain ⟨p, q, hA0, hV, rfl, hfz, hnd⟩ := hW
  have hA : DataW.TrodAll enc Try.prog W 0 (fun _ => true) true Try.f8.params.toList args.toList ds p := hA0
  rw [Try.params8] at hA hval
  obtain ⟨v0, vs0, d0, ds0, p0, q0, hargs, rfl, rfl, h0, r0⟩ := trodAll_cons hA
  obtain ⟨v1, vs1, d1, ds1, p1, q1, rfl, rfl, rfl, h1, r1⟩ := trodAll_cons r0
  obtain ⟨v2, vs2, d2, ds2, p2, q2, rfl, rfl, rfl, h2, r2⟩ := trodAll_cons r1
  obtain ⟨v3, vs3, d3, ds3, p3, q3, rfl, rfl, rfl, h3, r3⟩ := trodAll_cons r2
  obtain ⟨rfl, rfl, rfl⟩ := trodAll_nil r3
  obtain rfl : args = #[v0, v1, v2, v3] := by cases args; simp_all
  obtain ⟨rfl, rfl⟩ := trodVars_none hV
  obtain ⟨a0, rfl, rfl, rfl, w0⟩ := open_int Try.underlying29 (hval 0 29 v0 rfl rfl) h0
  obtain ⟨a1, rfl, rfl, rfl, w1⟩ := open_int Try.underlying29 (hval 1 29 v1 rfl rfl) h1
  obtain ⟨a2, rfl, rfl, rfl, w2⟩ := open_int Try.underlying3 (hval 2 3 v2 rfl rfl) h2
  obtain ⟨a3, rfl, rfl, rfl, w3⟩ := open_int Try.underlying29 (hval 3 29 v3 rfl rfl) h3
  clear hA0 hval0
  simp only [List.append_nil] at hW'
  refine (walk a0 a1 a2 a3 w0 w1 w2 w3 W).mono fun e W' ⟨he, hg⟩ => ?_
  subst he
  exact ⟨_, rfl, _, _, _, [], [], [], hW', (trodAll_cons_mk (shut_bool Try.underlying4 _) trodAll_mk0), (trodAll_cons_mk (shut_int Try.underlying29 w0) (trodAll_cons_mk (shut_int Try.underlying29 w1) (trodAll_cons_mk (shut_int Try.underlying3 w2) (trodAll_cons_mk (shut_int Try.underlying29 w3) trodAll_mk0)))), rfl, hg.frame _, fun h => by cases h⟩

theorem over : Rows.fnBitOfKeepsProbabilityInBandRow.holds Try.pinned (OpenSpec.ofChange Rows.fnBitOfKeepsProbabilityInBandSpec) :=
  OpenClaim.holds_of_wide 8 Try.f8 rfl rfl rfl rfl rfl rfl rfl ⟨rfl, rfl, rfl, rfl, rfl⟩ rfl rfl rfl rfl rfl (by kernel_rfl) Try.func8 (by kernel_rfl)
    (of_decide_eq_true (by kernel_rfl)) (by unfold Func.isWrapper; first | (rw [if_pos (by decide +kernel)]; kernel_rfl) | (rw [if_neg (by decide +kernel)]; exact ⟨rfl, rfl⟩))
    (fun os started H enc _ => lifted os started H enc)

/-- ████ THE STATEMENT ████ -/
theorem proved : Rows.FnBitOfKeepsProbabilityInBandSaid :=
  over
end Go.Proofs.Qxb6001347a.fnBitOfKeepsProbabilityInBand
