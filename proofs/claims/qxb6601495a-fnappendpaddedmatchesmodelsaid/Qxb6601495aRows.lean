/-
  No cell of these rows narrows 'for every input' (looked for: loops, veiled, ifaces, maps, wideKeys, modest, calm, conditions, laid).
  DERIVED. THE GIVEN ROWS OF THIS SEAT. 4 by the template 'for every input the law returns true; each argument reads behind the call as it read before'; 0 by the template 'total and deterministic' (their statements: Qxb6601495aTotals.lean).
  GIVEN WITH THE SEED: the statements are not yours to turn. If you find one false, say at which input.
  Laid BY PROGRAM, IN A SANDBOX (cutbox-rows.mjs): the forced cells as the released guide's own fill.sh prints them over the translation f48695e9f3d13059… (all of the seat's roots in one cut). By AI agents, Wed Nov 11 2026. No macro, syntax, notation, axiom, sorry.
-/
import Derived.Test.Qxb6601495aChecked
import GoSem.Claim
import GoSem.ClaimJoined
import GoSem.ClaimMapViews
import Derived.JoinedTies
import Derived.KernelRfl
namespace Go.Proofs.Qxb6601495a
/- THE CELL 'sum', in the pinned program and in every row, IS THE sha256 OF THE DUMP (.gsa) THAT Qxb6601495aProg.lean LOADS. Nothing in Lean hashes anything: it is a label: what it is worth is what the hold of that sum in a sandbox is worth. -/
noncomputable def Try.pinned : Pinned := { name := "qxb6601495a", sum := "f48695e9f3d13059f2a98ecdbb7ceaf8315bbb61b351e89341dd2e80745de07f", checked := Try.checked }
namespace Rows
def none {H : Type} : Left H := { results := [], args := [] }

/-- 'zzlaws_amount_b1.FnDigitsOnlyMatchesByteModel': WHATEVER THE INPUT: true; the input reads as it did. -/
def fnDigitsOnlyMatchesByteModelSpec : ChangeSpec := { name := "fnDigitsOnlyMatchesByteModel", fn := fun _ => fun
  | [d] => { results := [.lit (.bool true)], args := [d] }
  | _ => none }
def fnDigitsOnlyMatchesByteModelRow : OpenClaim := { program := "qxb6601495a", sum := "f48695e9f3d13059f2a98ecdbb7ceaf8315bbb61b351e89341dd2e80745de07f", func := "example.com/tuoguan/tuoguan/zzlaws_amount_b1.FnDigitsOnlyMatchesByteModel", spec := "fnDigitsOnlyMatchesByteModel", apart := false }
def FnDigitsOnlyMatchesByteModelSaid : Prop := fnDigitsOnlyMatchesByteModelRow.holds Try.pinned (OpenSpec.ofChange fnDigitsOnlyMatchesByteModelSpec)

/-- ITS FALSE NEIGHBOUR: 'it returns false'. Refute it at one input. -/
def fnDigitsOnlyMatchesByteModelWrong : ChangeSpec := { name := "fnDigitsOnlyMatchesByteModel", fn := fun _ => fun
  | [d] => { results := [.lit (.bool false)], args := [d] }
  | _ => none }
def FnDigitsOnlyMatchesByteModelWrongFalsely : Prop := fnDigitsOnlyMatchesByteModelRow.holds Try.pinned (OpenSpec.ofChange fnDigitsOnlyMatchesByteModelWrong)

/-- 'zzlaws_amount_b1.FnDigitsOnlyConcat': WHATEVER THE INPUT: true; the input reads as it did. -/
def fnDigitsOnlyConcatSpec : ChangeSpec := { name := "fnDigitsOnlyConcat", fn := fun _ => fun
  | [d1, d2] => { results := [.lit (.bool true)], args := [d1, d2] }
  | _ => none }
def fnDigitsOnlyConcatRow : OpenClaim := { program := "qxb6601495a", sum := "f48695e9f3d13059f2a98ecdbb7ceaf8315bbb61b351e89341dd2e80745de07f", func := "example.com/tuoguan/tuoguan/zzlaws_amount_b1.FnDigitsOnlyConcat", spec := "fnDigitsOnlyConcat", apart := false }
def FnDigitsOnlyConcatSaid : Prop := fnDigitsOnlyConcatRow.holds Try.pinned (OpenSpec.ofChange fnDigitsOnlyConcatSpec)

/-- ITS FALSE NEIGHBOUR: 'it returns false'. Refute it at one input. -/
def fnDigitsOnlyConcatWrong : ChangeSpec := { name := "fnDigitsOnlyConcat", fn := fun _ => fun
  | [d1, d2] => { results := [.lit (.bool false)], args := [d1, d2] }
  | _ => none }
def FnDigitsOnlyConcatWrongFalsely : Prop := fnDigitsOnlyConcatRow.holds Try.pinned (OpenSpec.ofChange fnDigitsOnlyConcatWrong)

/-- 'zzlaws_amount_b1.FnAppendPaddedMatchesModel': WHATEVER THE INPUT: true; the input reads as it did. -/
def fnAppendPaddedMatchesModelSpec : ChangeSpec := { name := "fnAppendPaddedMatchesModel", fn := fun _ => fun
  | [d1, d2, d3] => { results := [.lit (.bool true)], args := [d1, d2, d3] }
  | _ => none }
def fnAppendPaddedMatchesModelRow : OpenClaim := { program := "qxb6601495a", sum := "f48695e9f3d13059f2a98ecdbb7ceaf8315bbb61b351e89341dd2e80745de07f", func := "example.com/tuoguan/tuoguan/zzlaws_amount_b1.FnAppendPaddedMatchesModel", spec := "fnAppendPaddedMatchesModel", apart := false }
def FnAppendPaddedMatchesModelSaid : Prop := fnAppendPaddedMatchesModelRow.holds Try.pinned (OpenSpec.ofChange fnAppendPaddedMatchesModelSpec)

/-- ITS FALSE NEIGHBOUR: 'it returns false'. Refute it at one input. -/
def fnAppendPaddedMatchesModelWrong : ChangeSpec := { name := "fnAppendPaddedMatchesModel", fn := fun _ => fun
  | [d1, d2, d3] => { results := [.lit (.bool false)], args := [d1, d2, d3] }
  | _ => none }
def FnAppendPaddedMatchesModelWrongFalsely : Prop := fnAppendPaddedMatchesModelRow.holds Try.pinned (OpenSpec.ofChange fnAppendPaddedMatchesModelWrong)

/-- 'zzlaws_amount_b1.FnAppendPaddedOrder': WHATEVER THE INPUT: true; the input reads as it did. -/
def fnAppendPaddedOrderSpec : ChangeSpec := { name := "fnAppendPaddedOrder", fn := fun _ => fun
  | [d1, d2, d3] => { results := [.lit (.bool true)], args := [d1, d2, d3] }
  | _ => none }
def fnAppendPaddedOrderRow : OpenClaim := { program := "qxb6601495a", sum := "f48695e9f3d13059f2a98ecdbb7ceaf8315bbb61b351e89341dd2e80745de07f", func := "example.com/tuoguan/tuoguan/zzlaws_amount_b1.FnAppendPaddedOrder", spec := "fnAppendPaddedOrder", apart := false }
def FnAppendPaddedOrderSaid : Prop := fnAppendPaddedOrderRow.holds Try.pinned (OpenSpec.ofChange fnAppendPaddedOrderSpec)

/-- ITS FALSE NEIGHBOUR: 'it returns false'. Refute it at one input. -/
def fnAppendPaddedOrderWrong : ChangeSpec := { name := "fnAppendPaddedOrder", fn := fun _ => fun
  | [d1, d2, d3] => { results := [.lit (.bool false)], args := [d1, d2, d3] }
  | _ => none }
def FnAppendPaddedOrderWrongFalsely : Prop := fnAppendPaddedOrderRow.holds Try.pinned (OpenSpec.ofChange fnAppendPaddedOrderWrong)

end Rows
end Go.Proofs.Qxb6601495a
