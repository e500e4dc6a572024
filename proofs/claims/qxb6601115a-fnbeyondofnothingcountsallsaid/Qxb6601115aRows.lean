/-
  No cell of these rows narrows 'for every input' (looked for: loops, veiled, ifaces, maps, wideKeys, modest, calm, conditions, laid).
  DERIVED. THE GIVEN ROWS OF THIS SEAT. 6 by the template 'for every input the law returns true; each argument reads behind the call as it read before'; 0 by the template 'total and deterministic' (their statements: Qxb6601115aTotals.lean).
  GIVEN WITH THE SEED: the statements are not yours to turn. If you find one false, say at which input.
  Laid BY PROGRAM, IN A SANDBOX (cutbox-rows.mjs): the forced cells as the released guide's own fill.sh prints them over the translation 5a12dc1df65de790… (all of the seat's roots in one cut). By AI agents, Wed Nov 11 2026. No macro, syntax, notation, axiom, sorry.
-/
import Derived.Test.Qxb6601115aChecked
import GoSem.Claim
import GoSem.ClaimJoined
import GoSem.ClaimMapViews
import Derived.JoinedTies
import Derived.KernelRfl
namespace Go.Proofs.Qxb6601115a
/- THE CELL 'sum', in the pinned program and in every row, IS THE sha256 OF THE DUMP (.gsa) THAT Qxb6601115aProg.lean LOADS. Nothing in Lean hashes anything: it is a label: what it is worth is what the hold of that sum in a sandbox is worth. -/
noncomputable def Try.pinned : Pinned := { name := "qxb6601115a", sum := "5a12dc1df65de7908904a2c0e3f691f897c8e6229dc7e6051bee39ebd02e827a", checked := Try.checked }
namespace Rows
def none {H : Type} : Left H := { results := [], args := [] }

/-- 'zzlaws_pkg_gtid_b1.FnBeyondSplitsOverP': WHATEVER THE INPUT: true; the input reads as it did. -/
def fnBeyondSplitsOverPSpec : ChangeSpec := { name := "fnBeyondSplitsOverP", fn := fun _ => fun
  | [d1, d2, d3] => { results := [.lit (.bool true)], args := [d1, d2, d3] }
  | _ => none }
def fnBeyondSplitsOverPRow : OpenClaim := { program := "qxb6601115a", sum := "5a12dc1df65de7908904a2c0e3f691f897c8e6229dc7e6051bee39ebd02e827a", func := "example.com/starwarden/starwarden/zzlaws_pkg_gtid_b1.FnBeyondSplitsOverP", spec := "fnBeyondSplitsOverP", apart := false }
def FnBeyondSplitsOverPSaid : Prop := fnBeyondSplitsOverPRow.holds Try.pinned (OpenSpec.ofChange fnBeyondSplitsOverPSpec)

/-- ITS FALSE NEIGHBOUR: 'it returns false'. Refute it at one input. -/
def fnBeyondSplitsOverPWrong : ChangeSpec := { name := "fnBeyondSplitsOverP", fn := fun _ => fun
  | [d1, d2, d3] => { results := [.lit (.bool false)], args := [d1, d2, d3] }
  | _ => none }
def FnBeyondSplitsOverPWrongFalsely : Prop := fnBeyondSplitsOverPRow.holds Try.pinned (OpenSpec.ofChange fnBeyondSplitsOverPWrong)

/-- 'zzlaws_pkg_gtid_b1.FnBeyondRunsFollowP': WHATEVER THE INPUT: true; the input reads as it did. -/
def fnBeyondRunsFollowPSpec : ChangeSpec := { name := "fnBeyondRunsFollowP", fn := fun _ => fun
  | [d1, d2] => { results := [.lit (.bool true)], args := [d1, d2] }
  | _ => none }
def fnBeyondRunsFollowPRow : OpenClaim := { program := "qxb6601115a", sum := "5a12dc1df65de7908904a2c0e3f691f897c8e6229dc7e6051bee39ebd02e827a", func := "example.com/starwarden/starwarden/zzlaws_pkg_gtid_b1.FnBeyondRunsFollowP", spec := "fnBeyondRunsFollowP", apart := false }
def FnBeyondRunsFollowPSaid : Prop := fnBeyondRunsFollowPRow.holds Try.pinned (OpenSpec.ofChange fnBeyondRunsFollowPSpec)

/-- ITS FALSE NEIGHBOUR: 'it returns false'. Refute it at one input. -/
def fnBeyondRunsFollowPWrong : ChangeSpec := { name := "fnBeyondRunsFollowP", fn := fun _ => fun
  | [d1, d2] => { results := [.lit (.bool false)], args := [d1, d2] }
  | _ => none }
def FnBeyondRunsFollowPWrongFalsely : Prop := fnBeyondRunsFollowPRow.holds Try.pinned (OpenSpec.ofChange fnBeyondRunsFollowPWrong)

/-- 'zzlaws_pkg_gtid_b1.FnBeyondIgnoresLaterAndForeignEntriesOfQ': WHATEVER THE INPUT: true; the input reads as it did. -/
def fnBeyondIgnoresLaterAndForeignEntriesOfQSpec : ChangeSpec := { name := "fnBeyondIgnoresLaterAndForeignEntriesOfQ", fn := fun _ => fun
  | [d1, d2, d3] => { results := [.lit (.bool true)], args := [d1, d2, d3] }
  | _ => none }
def fnBeyondIgnoresLaterAndForeignEntriesOfQRow : OpenClaim := { program := "qxb6601115a", sum := "5a12dc1df65de7908904a2c0e3f691f897c8e6229dc7e6051bee39ebd02e827a", func := "example.com/starwarden/starwarden/zzlaws_pkg_gtid_b1.FnBeyondIgnoresLaterAndForeignEntriesOfQ", spec := "fnBeyondIgnoresLaterAndForeignEntriesOfQ", apart := false }
def FnBeyondIgnoresLaterAndForeignEntriesOfQSaid : Prop := fnBeyondIgnoresLaterAndForeignEntriesOfQRow.holds Try.pinned (OpenSpec.ofChange fnBeyondIgnoresLaterAndForeignEntriesOfQSpec)

/-- ITS FALSE NEIGHBOUR: 'it returns false'. Refute it at one input. -/
def fnBeyondIgnoresLaterAndForeignEntriesOfQWrong : ChangeSpec := { name := "fnBeyondIgnoresLaterAndForeignEntriesOfQ", fn := fun _ => fun
  | [d1, d2, d3] => { results := [.lit (.bool false)], args := [d1, d2, d3] }
  | _ => none }
def FnBeyondIgnoresLaterAndForeignEntriesOfQWrongFalsely : Prop := fnBeyondIgnoresLaterAndForeignEntriesOfQRow.holds Try.pinned (OpenSpec.ofChange fnBeyondIgnoresLaterAndForeignEntriesOfQWrong)

/-- 'zzlaws_pkg_gtid_b1.FnBeyondOfNothingCountsAll': WHATEVER THE INPUT: true; the input reads as it did. -/
def fnBeyondOfNothingCountsAllSpec : ChangeSpec := { name := "fnBeyondOfNothingCountsAll", fn := fun _ => fun
  | [d] => { results := [.lit (.bool true)], args := [d] }
  | _ => none }
def fnBeyondOfNothingCountsAllRow : OpenClaim := { program := "qxb6601115a", sum := "5a12dc1df65de7908904a2c0e3f691f897c8e6229dc7e6051bee39ebd02e827a", func := "example.com/starwarden/starwarden/zzlaws_pkg_gtid_b1.FnBeyondOfNothingCountsAll", spec := "fnBeyondOfNothingCountsAll", apart := false }
def FnBeyondOfNothingCountsAllSaid : Prop := fnBeyondOfNothingCountsAllRow.holds Try.pinned (OpenSpec.ofChange fnBeyondOfNothingCountsAllSpec)

/-- ITS FALSE NEIGHBOUR: 'it returns false'. Refute it at one input. -/
def fnBeyondOfNothingCountsAllWrong : ChangeSpec := { name := "fnBeyondOfNothingCountsAll", fn := fun _ => fun
  | [d] => { results := [.lit (.bool false)], args := [d] }
  | _ => none }
def FnBeyondOfNothingCountsAllWrongFalsely : Prop := fnBeyondOfNothingCountsAllRow.holds Try.pinned (OpenSpec.ofChange fnBeyondOfNothingCountsAllWrong)

/-- 'zzlaws_pkg_gtid_b1.FnBeyondSelfIsEmpty': WHATEVER THE INPUT: true; the input reads as it did. -/
def fnBeyondSelfIsEmptySpec : ChangeSpec := { name := "fnBeyondSelfIsEmpty", fn := fun _ => fun
  | [d] => { results := [.lit (.bool true)], args := [d] }
  | _ => none }
def fnBeyondSelfIsEmptyRow : OpenClaim := { program := "qxb6601115a", sum := "5a12dc1df65de7908904a2c0e3f691f897c8e6229dc7e6051bee39ebd02e827a", func := "example.com/starwarden/starwarden/zzlaws_pkg_gtid_b1.FnBeyondSelfIsEmpty", spec := "fnBeyondSelfIsEmpty", apart := false }
def FnBeyondSelfIsEmptySaid : Prop := fnBeyondSelfIsEmptyRow.holds Try.pinned (OpenSpec.ofChange fnBeyondSelfIsEmptySpec)

/-- ITS FALSE NEIGHBOUR: 'it returns false'. Refute it at one input. -/
def fnBeyondSelfIsEmptyWrong : ChangeSpec := { name := "fnBeyondSelfIsEmpty", fn := fun _ => fun
  | [d] => { results := [.lit (.bool false)], args := [d] }
  | _ => none }
def FnBeyondSelfIsEmptyWrongFalsely : Prop := fnBeyondSelfIsEmptyRow.holds Try.pinned (OpenSpec.ofChange fnBeyondSelfIsEmptyWrong)

/-- 'zzlaws_pkg_gtid_b1.FnRangesCountSplitAdds': WHATEVER THE INPUT: true; the input reads as it did. -/
def fnRangesCountSplitAddsSpec : ChangeSpec := { name := "fnRangesCountSplitAdds", fn := fun _ => fun
  | [d1, d2] => { results := [.lit (.bool true)], args := [d1, d2] }
  | _ => none }
def fnRangesCountSplitAddsRow : OpenClaim := { program := "qxb6601115a", sum := "5a12dc1df65de7908904a2c0e3f691f897c8e6229dc7e6051bee39ebd02e827a", func := "example.com/starwarden/starwarden/zzlaws_pkg_gtid_b1.FnRangesCountSplitAdds", spec := "fnRangesCountSplitAdds", apart := false }
def FnRangesCountSplitAddsSaid : Prop := fnRangesCountSplitAddsRow.holds Try.pinned (OpenSpec.ofChange fnRangesCountSplitAddsSpec)

/-- ITS FALSE NEIGHBOUR: 'it returns false'. Refute it at one input. -/
def fnRangesCountSplitAddsWrong : ChangeSpec := { name := "fnRangesCountSplitAdds", fn := fun _ => fun
  | [d1, d2] => { results := [.lit (.bool false)], args := [d1, d2] }
  | _ => none }
def FnRangesCountSplitAddsWrongFalsely : Prop := fnRangesCountSplitAddsRow.holds Try.pinned (OpenSpec.ofChange fnRangesCountSplitAddsWrong)

end Rows
end Go.Proofs.Qxb6601115a
