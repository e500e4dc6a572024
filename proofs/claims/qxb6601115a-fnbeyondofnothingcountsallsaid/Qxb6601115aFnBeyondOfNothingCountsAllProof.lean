/- The row's proof: the frame is the guide's own way (as proof-skeleton.mjs lays it for slices of integers), turned to a slice of structs of three integers. -/
import Derived.Test.Qxb6601115aRows
import Derived.Test.Qxb6601115aLaw
import Derived.WalkKit
import Derived.ProofKit
import Derived.OpenShut
import Derived.ShutString
import Derived.ChangeOld
import Derived.Below
import Derived.Deep.Slices
namespace Go.Proofs.Qxb6601115a.fnBeyondOfNothingCountsAll
open Go.ChangeShapes Go.WideShapes Go.ChangeAt Go.RowKit
open Go.Deep
set_option linter.unusedVariables false

theorem own : ownKnob Try.prog.godebug = none := by kernel_rfl
theorem laidOut : laidOutB Try.prog = true := by kernel_rfl
theorem cells47 : Try.prog.cellsOf 47 = 3 := by kernel_rfl
theorem cells30 : Try.prog.cellsOf 30 = 1 := by kernel_rfl
theorem cells31 : Try.prog.cellsOf 31 = 1 := by kernel_rfl

/-- WHAT THE WALK IS TOLD OF THE SLICE THAT CAME IN: it is nil; or each of its 'len' elements lies there as three numbers. -/
def IsPos (w : World) (a : Option Addr) (len : Nat) (D S Q : Nat → Int) : Prop :=
  len ≤ maxLen ∧ (a = none → len = 0) ∧ (∀ x, a = some x → ∀ i, i < len → w.cell? (x.add (i * 3)) = some (.int .u32 (D i)) ∧ w.cell? (x.add (i * 3 + 1)) = some (.int .u32 (S i)) ∧ w.cell? (x.add (i * 3 + 2)) = some (.int .u64 (Q i))) ∧
  ∀ i, i < len → 0 ≤ Q i ∧ Q i ≤ 18446744073709551615

/-- One element, from its three cells. -/
theorem one_gtid {H : Type} {enc : TypeId × Value → H} {w : World} {base : Nat} {spare : Nat → Bool} {held : Bool} {n : Nat} {a : Addr} {cs : List Value} {x : DataW H × List MemPlace}
    (h1 : w.cells? base a 3 = some cs) (h2 : DataW.trod enc Try.prog w base spare held n 47 cs = some x) :
    ∃ q : Int × Int × Int, w.cell? (a.add 0) = some (.int .u32 q.1) ∧ w.cell? (a.add 1) = some (.int .u32 q.2.1) ∧ w.cell? (a.add 2) = some (.int .u64 q.2.2) ∧ 0 ≤ q.2.2 ∧ q.2.2 ≤ 18446744073709551615 := by
  obtain ⟨_, hlen, hcell⟩ := World.cells?_some h1
  obtain ⟨xs, k, hk, hxy, _, hxl, hf⟩ := DataW.trod_struct Try.underlying47 h2
  match xs, hxl, cs, hlen with
  | [y0, y1, y2], _, [v0, v1, v2], _ =>
    have g0 := hf 0 _ rfl
    have g1 := hf 1 _ rfl
    have g2 := hf 2 _ rfl
    simp [cells30, cells31] at g0 g1 g2
    obtain ⟨d, e0, -, -⟩ := DataW.trod_int Try.underlying30 g0
    obtain ⟨s, e1, -, -⟩ := DataW.trod_int Try.underlying30 g1
    obtain ⟨q, e2, -, hq⟩ := DataW.trod_int Try.underlying31 g2
    simp at e0 e1 e2
    subst e0 e1 e2
    have c0 := hcell 0 (by omega)
    have c1 := hcell 1 (by omega)
    have c2 := hcell 2 (by omega)
    have hb := bounds_u64 hq
    exact ⟨(d, s, q), by simpa using c0, by simpa using c1, by simpa using c2, hb.1, hb.2⟩

/-! ### STEP 1: THE WALK: the Go text returns true; 'Below w.heap.size w w'': nothing that was there has turned. -/
set_option maxHeartbeats 400000 in
theorem walk (a0 : Option Addr) (len0 cap0 : Nat) (D S Q : Nat → Int) (w : World) (w0 : IsPos w a0 len0 D S Q) :
    Calls Try.prog 6 #[.slice a0 len0 cap0] w fun e w' => e = .returned (.bool true) ∧ Below w.heap.size w w' := by
  obtain ⟨hmax, hnil, hcell, hQ⟩ := w0
  unfold maxLen at hmax
  by_cases hbig : 1048576 < len0
  · clear hQ hcell hnil
    go_enter Try.func6, Try.ntmps6
    go_wp2_with (go_at_call 16; refine (zz_no a0 len0 cap0 _ hbig (by omega)).mono ?_; rintro e w' ⟨rfl, rfl⟩)
    go_ret
    exact ⟨rfl, Below.refl _ _⟩
  by_cases h1 : 4096 < len0
  · have h1' : (4096 : Int) < (len0 : Int) := by omega
    clear hQ hcell hnil
    go_enter Try.func6, Try.ntmps6
    go_wp2_with (go_at_call 16; refine (zz_yes a0 len0 cap0 _ (by omega)).mono ?_; rintro e w' ⟨rfl, rfl⟩)
    go_ret
    exact ⟨rfl, Below.refl _ _⟩
  · exact main a0 len0 cap0 D S Q w (by omega) hnil hcell hQ

/-! ### THE ROW's STEP -/
set_option maxRecDepth 100000 in
theorem lifted (os : Os) (started : os.Started) (H : Type) (enc : TypeId × Value → H) :
    ReturnsInHanded {} Try.checked os 6 .any (Rows.fnBeyondOfNothingCountsAllSpec.pre6 enc Try.prog Try.f6 Rows.fnBeyondOfNothingCountsAllRow.domain false) (Rows.fnBeyondOfNothingCountsAllSpec.post enc Try.prog Try.f6 false true false false) := by
  refine returnsInHanded_of_change (C := Try.checked) own started (by kernel_rfl) Try.func6
    (ChangeSpec.witness6 (enc := enc) (C := Try.checked) false ⟨#[], #[.slice none 0 0], []⟩ 8 (by kernel_rfl) (by kernel_rfl) (by kernel_rfl) (by kernel_rfl)) ?_
  intro W base args ds gs before hval0 hW hcnd _
  have hval : ∀ (j : Nat) t v, Try.f6.params[j]? = some t → args[j]? = some v → Value.okWide Try.prog W .any base t v := hval0
  have hW' := hW
  obtain ⟨p, q, hA0, hV, rfl, hfz, hnd⟩ := hW
  have hA : DataW.TrodAll enc Try.prog W 0 (fun _ => true) true Try.f6.params.toList args.toList ds p := hA0
  rw [Try.params6] at hA hval
  obtain ⟨v0, vs0, d0, ds0, p0, q0, hargs, rfl, rfl, h0, r0⟩ := trodAll_cons hA
  obtain ⟨rfl, rfl, rfl⟩ := trodAll_nil r0
  obtain rfl : args = #[v0] := by cases args; simp_all
  obtain ⟨rfl, rfl⟩ := trodVars_none hV
  obtain ⟨a0, len0, cap0, rfl⟩ := okWide_slice Try.underlying22 (hval 0 22 v0 rfl rfl)
  have k0 := h0
  have lt0 : ∀ x ∈ p0, x.block < W.heap.size := by obtain ⟨m, hm⟩ := k0; exact DataW.trod_lt m _ _ _ hm
  obtain ⟨D, S, Q, w0⟩ : ∃ D S Q, IsPos W a0 len0 D S Q := by
    obtain ⟨fuel, hf⟩ := h0
    rcases open_slice Try.underlying22 hf with ⟨hcs, _⟩ | ⟨x, l, c, m, n, Dd, Pl, hcs, _, hl, hm, hmm, _, hel⟩
    · simp [Value.cells] at hcs
      obtain ⟨rfl, rfl, rfl⟩ := hcs
      exact ⟨fun _ => 0, fun _ => 0, fun _ => 0, Nat.zero_le _, fun _ => rfl, fun x e => (by cases e), fun i hi => absurd hi (Nat.not_lt_zero i)⟩
    · simp [Value.cells] at hcs
      obtain ⟨rfl, rfl, rfl⟩ := hcs
      have hlm : len0 ≤ m := by rw [hmm]; split <;> omega
      rw [cells47] at hel
      obtain ⟨q, hq⟩ := choose_lt (n := len0) (α := Int × Int × Int) (p := fun i q => W.cell? ((x.add (i * 3)).add 0) = some (.int .u32 q.1) ∧ W.cell? ((x.add (i * 3)).add 1) = some (.int .u32 q.2.1) ∧ W.cell? ((x.add (i * 3)).add 2) = some (.int .u64 q.2.2) ∧ 0 ≤ q.2.2 ∧ q.2.2 ≤ 18446744073709551615) (fun i hi => by
        obtain ⟨cs', h1, h2⟩ := hel i (by omega)
        exact one_gtid h1 h2)
      refine ⟨fun i => (q i).1, fun i => (q i).2.1, fun i => (q i).2.2, Nat.le_trans hl hm, fun e => (by cases e), fun y e i hi => ?_, fun i hi => ⟨(hq i hi).2.2.2.1, (hq i hi).2.2.2.2⟩⟩
      cases e
      have := hq i hi
      rw [add_add, add_add, add_add, Nat.add_zero] at this
      exact ⟨this.1, this.2.1, this.2.2.1⟩
  clear hA0 hval0
  refine (walk a0 len0 cap0 D S Q W w0).mono fun e W' ⟨he, bel⟩ => ?_
  subst he
  exact ⟨_, rfl, _, _, _, [], _, [], hW', trodAll_mk1 (shut_bool Try.underlying4 _), (trodAll_cons_mk (Below.trod laidOut (by kernel_rfl) (of_decide_eq_true (by kernel_rfl)) k0 bel lt0) trodAll_mk0), rfl, bel.frame _, fun h => by cases h⟩

theorem over : Rows.fnBeyondOfNothingCountsAllRow.holds Try.pinned (OpenSpec.ofChange Rows.fnBeyondOfNothingCountsAllSpec) :=
  OpenClaim.holds_of_wide 6 Try.f6 rfl rfl rfl rfl rfl rfl rfl ⟨rfl, rfl, rfl, rfl, rfl⟩ rfl rfl rfl rfl rfl (by kernel_rfl) Try.func6 (by kernel_rfl)
    (of_decide_eq_true (by kernel_rfl)) (by unfold Func.isWrapper; first | (rw [if_pos (by decide +kernel)]; kernel_rfl) | (rw [if_neg (by decide +kernel)]; exact ⟨rfl, rfl⟩))
    (fun os started H enc _ => lifted os started H enc)

/-- ████ THE STATEMENT ████ -/
theorem proved : Rows.FnBeyondOfNothingCountsAllSaid := over
end Go.Proofs.Qxb6601115a.fnBeyondOfNothingCountsAll
