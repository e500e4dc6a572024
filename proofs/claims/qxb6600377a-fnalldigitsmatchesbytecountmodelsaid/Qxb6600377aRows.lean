/-
  No cell of these rows narrows 'for every input' (looked for: loops, veiled, ifaces, maps, wideKeys, modest, calm, conditions, laid).
  DERIVED. THE GIVEN ROWS OF THIS SEAT. 3 by the template 'for every input the law returns true; each argument reads behind the call as it read before'; 0 by the template 'total and deterministic' (their statements: Qxb6600377aTotals.lean).
  GIVEN WITH THE SEED: the statements are not yours to turn. If you find one false, say at which input.
  Laid BY PROGRAM, IN A SANDBOX (cutbox-rows.mjs): the forced cells as the released guide's own fill.sh prints them over the translation 0724247d78a8af12… (all of the seat's roots in one cut). By AI agents, Wed Nov 11 2026. No macro, syntax, notation, axiom, sorry.
-/
import Derived.Test.Qxb6600377aChecked
import GoSem.Claim
import GoSem.ClaimJoined
import GoSem.ClaimMapViews
import Derived.JoinedTies
import Derived.KernelRfl
namespace Go.Proofs.Qxb6600377a
/- THE CELL 'sum', in the pinned program and in every row, IS THE sha256 OF THE DUMP (.gsa) THAT Qxb6600377aProg.lean LOADS. Nothing in Lean hashes anything: it is a label: what it is worth is what the hold of that sum in a sandbox is worth. -/
noncomputable def Try.pinned : Pinned := { name := "qxb6600377a", sum := "0724247d78a8af12d664a28b80335b6f8257fcbff6ea1ae15dbadd58448e2213", checked := Try.checked }
namespace Rows
def none {H : Type} : Left H := { results := [], args := [] }

/-- 'zzlaws_root_b1.FnAllDigitsMatchesByteCountModel': WHATEVER THE INPUT: true; the input reads as it did. -/
def fnAllDigitsMatchesByteCountModelSpec : ChangeSpec := { name := "fnAllDigitsMatchesByteCountModel", fn := fun _ => fun
  | [d] => { results := [.lit (.bool true)], args := [d] }
  | _ => none }
def fnAllDigitsMatchesByteCountModelRow : OpenClaim := { program := "qxb6600377a", sum := "0724247d78a8af12d664a28b80335b6f8257fcbff6ea1ae15dbadd58448e2213", func := "example.com/makegood/makegood/zzlaws_root_b1.FnAllDigitsMatchesByteCountModel", spec := "fnAllDigitsMatchesByteCountModel", apart := false }
def FnAllDigitsMatchesByteCountModelSaid : Prop := fnAllDigitsMatchesByteCountModelRow.holds Try.pinned (OpenSpec.ofChange fnAllDigitsMatchesByteCountModelSpec)

/-- ITS FALSE NEIGHBOUR: 'it returns false'. Refute it at one input. -/
def fnAllDigitsMatchesByteCountModelWrong : ChangeSpec := { name := "fnAllDigitsMatchesByteCountModel", fn := fun _ => fun
  | [d] => { results := [.lit (.bool false)], args := [d] }
  | _ => none }
def FnAllDigitsMatchesByteCountModelWrongFalsely : Prop := fnAllDigitsMatchesByteCountModelRow.holds Try.pinned (OpenSpec.ofChange fnAllDigitsMatchesByteCountModelWrong)

/-- 'zzlaws_root_b1.FnAllDigitsOfConcatenation': WHATEVER THE INPUT: true; the input reads as it did. -/
def fnAllDigitsOfConcatenationSpec : ChangeSpec := { name := "fnAllDigitsOfConcatenation", fn := fun _ => fun
  | [d1, d2] => { results := [.lit (.bool true)], args := [d1, d2] }
  | _ => none }
def fnAllDigitsOfConcatenationRow : OpenClaim := { program := "qxb6600377a", sum := "0724247d78a8af12d664a28b80335b6f8257fcbff6ea1ae15dbadd58448e2213", func := "example.com/makegood/makegood/zzlaws_root_b1.FnAllDigitsOfConcatenation", spec := "fnAllDigitsOfConcatenation", apart := false }
def FnAllDigitsOfConcatenationSaid : Prop := fnAllDigitsOfConcatenationRow.holds Try.pinned (OpenSpec.ofChange fnAllDigitsOfConcatenationSpec)

/-- ITS FALSE NEIGHBOUR: 'it returns false'. Refute it at one input. -/
def fnAllDigitsOfConcatenationWrong : ChangeSpec := { name := "fnAllDigitsOfConcatenation", fn := fun _ => fun
  | [d1, d2] => { results := [.lit (.bool false)], args := [d1, d2] }
  | _ => none }
def FnAllDigitsOfConcatenationWrongFalsely : Prop := fnAllDigitsOfConcatenationRow.holds Try.pinned (OpenSpec.ofChange fnAllDigitsOfConcatenationWrong)

/-- 'zzlaws_root_b1.FnAllDigitsRefusesAnyInsertedNonDigit': WHATEVER THE INPUT: true; the input reads as it did. -/
def fnAllDigitsRefusesAnyInsertedNonDigitSpec : ChangeSpec := { name := "fnAllDigitsRefusesAnyInsertedNonDigit", fn := fun _ => fun
  | [d1, d2, d3] => { results := [.lit (.bool true)], args := [d1, d2, d3] }
  | _ => none }
def fnAllDigitsRefusesAnyInsertedNonDigitRow : OpenClaim := { program := "qxb6600377a", sum := "0724247d78a8af12d664a28b80335b6f8257fcbff6ea1ae15dbadd58448e2213", func := "example.com/makegood/makegood/zzlaws_root_b1.FnAllDigitsRefusesAnyInsertedNonDigit", spec := "fnAllDigitsRefusesAnyInsertedNonDigit", apart := false }
def FnAllDigitsRefusesAnyInsertedNonDigitSaid : Prop := fnAllDigitsRefusesAnyInsertedNonDigitRow.holds Try.pinned (OpenSpec.ofChange fnAllDigitsRefusesAnyInsertedNonDigitSpec)

/-- ITS FALSE NEIGHBOUR: 'it returns false'. Refute it at one input. -/
def fnAllDigitsRefusesAnyInsertedNonDigitWrong : ChangeSpec := { name := "fnAllDigitsRefusesAnyInsertedNonDigit", fn := fun _ => fun
  | [d1, d2, d3] => { results := [.lit (.bool false)], args := [d1, d2, d3] }
  | _ => none }
def FnAllDigitsRefusesAnyInsertedNonDigitWrongFalsely : Prop := fnAllDigitsRefusesAnyInsertedNonDigitRow.holds Try.pinned (OpenSpec.ofChange fnAllDigitsRefusesAnyInsertedNonDigitWrong)

end Rows
end Go.Proofs.Qxb6600377a
