/-
  No cell of these rows narrows 'for every input' (looked for: loops, veiled, ifaces, maps, wideKeys, modest, calm, conditions, laid).
  DERIVED. THE GIVEN ROWS OF THIS SEAT. 3 by the template 'for every input the law returns true; each argument reads behind the call as it read before'; 0 by the template 'total and deterministic' (their statements: Qxb6600725aTotals.lean).
  GIVEN WITH THE SEED: the statements are not yours to turn. If you find one false, say at which input.
  Laid BY PROGRAM, IN A SANDBOX (cutbox-rows.mjs): the forced cells as the released guide's own fill.sh prints them over the translation 6d45ffca0021ddd8… (all of the seat's roots in one cut). By AI agents, Wed Nov 11 2026. No macro, syntax, notation, axiom, sorry.
-/
import Derived.Test.Qxb6600725aChecked
import GoSem.Claim
import GoSem.ClaimJoined
import GoSem.ClaimMapViews
import Derived.JoinedTies
import Derived.KernelRfl
namespace Go.Proofs.Qxb6600725a
/- THE CELL 'sum', in the pinned program and in every row, IS THE sha256 OF THE DUMP (.gsa) THAT Qxb6600725aProg.lean LOADS. Nothing in Lean hashes anything: it is a label: what it is worth is what the hold of that sum in a sandbox is worth. -/
noncomputable def Try.pinned : Pinned := { name := "qxb6600725a", sum := "6d45ffca0021ddd83ede236279e6c66b221f2a533a9163ae8e63ccd5d1a81c0d", checked := Try.checked }
namespace Rows
def none {H : Type} : Left H := { results := [], args := [] }

/-- 'zzlaws_internal_peerwire_b1.FnFieldsLengthClosedForm': WHATEVER THE INPUT: true; the input reads as it did. -/
def fnFieldsLengthClosedFormSpec : ChangeSpec := { name := "fnFieldsLengthClosedForm", fn := fun _ => fun
  | [d1, d2, d3] => { results := [.lit (.bool true)], args := [d1, d2, d3] }
  | _ => none }
def fnFieldsLengthClosedFormRow : OpenClaim := { program := "qxb6600725a", sum := "6d45ffca0021ddd83ede236279e6c66b221f2a533a9163ae8e63ccd5d1a81c0d", func := "example.com/peerloom/peerloom/zzlaws_internal_peerwire_b1.FnFieldsLengthClosedForm", spec := "fnFieldsLengthClosedForm", apart := false }
def FnFieldsLengthClosedFormSaid : Prop := fnFieldsLengthClosedFormRow.holds Try.pinned (OpenSpec.ofChange fnFieldsLengthClosedFormSpec)

/-- ITS FALSE NEIGHBOUR: 'it returns false'. Refute it at one input. -/
def fnFieldsLengthClosedFormWrong : ChangeSpec := { name := "fnFieldsLengthClosedForm", fn := fun _ => fun
  | [d1, d2, d3] => { results := [.lit (.bool false)], args := [d1, d2, d3] }
  | _ => none }
def FnFieldsLengthClosedFormWrongFalsely : Prop := fnFieldsLengthClosedFormRow.holds Try.pinned (OpenSpec.ofChange fnFieldsLengthClosedFormWrong)

/-- 'zzlaws_internal_peerwire_b1.FnFieldsLengthAdditive': WHATEVER THE INPUT: true; the input reads as it did. -/
def fnFieldsLengthAdditiveSpec : ChangeSpec := { name := "fnFieldsLengthAdditive", fn := fun _ => fun
  | [d1, d2] => { results := [.lit (.bool true)], args := [d1, d2] }
  | _ => none }
def fnFieldsLengthAdditiveRow : OpenClaim := { program := "qxb6600725a", sum := "6d45ffca0021ddd83ede236279e6c66b221f2a533a9163ae8e63ccd5d1a81c0d", func := "example.com/peerloom/peerloom/zzlaws_internal_peerwire_b1.FnFieldsLengthAdditive", spec := "fnFieldsLengthAdditive", apart := false }
def FnFieldsLengthAdditiveSaid : Prop := fnFieldsLengthAdditiveRow.holds Try.pinned (OpenSpec.ofChange fnFieldsLengthAdditiveSpec)

/-- ITS FALSE NEIGHBOUR: 'it returns false'. Refute it at one input. -/
def fnFieldsLengthAdditiveWrong : ChangeSpec := { name := "fnFieldsLengthAdditive", fn := fun _ => fun
  | [d1, d2] => { results := [.lit (.bool false)], args := [d1, d2] }
  | _ => none }
def FnFieldsLengthAdditiveWrongFalsely : Prop := fnFieldsLengthAdditiveRow.holds Try.pinned (OpenSpec.ofChange fnFieldsLengthAdditiveWrong)

/-- 'zzlaws_internal_peerwire_b1.FnFieldsLengthWireSizes': WHATEVER THE INPUT: true; the input reads as it did. -/
def fnFieldsLengthWireSizesSpec : ChangeSpec := { name := "fnFieldsLengthWireSizes", fn := fun _ => fun
  | [d1, d2] => { results := [.lit (.bool true)], args := [d1, d2] }
  | _ => none }
def fnFieldsLengthWireSizesRow : OpenClaim := { program := "qxb6600725a", sum := "6d45ffca0021ddd83ede236279e6c66b221f2a533a9163ae8e63ccd5d1a81c0d", func := "example.com/peerloom/peerloom/zzlaws_internal_peerwire_b1.FnFieldsLengthWireSizes", spec := "fnFieldsLengthWireSizes", apart := false }
def FnFieldsLengthWireSizesSaid : Prop := fnFieldsLengthWireSizesRow.holds Try.pinned (OpenSpec.ofChange fnFieldsLengthWireSizesSpec)

/-- ITS FALSE NEIGHBOUR: 'it returns false'. Refute it at one input. -/
def fnFieldsLengthWireSizesWrong : ChangeSpec := { name := "fnFieldsLengthWireSizes", fn := fun _ => fun
  | [d1, d2] => { results := [.lit (.bool false)], args := [d1, d2] }
  | _ => none }
def FnFieldsLengthWireSizesWrongFalsely : Prop := fnFieldsLengthWireSizesRow.holds Try.pinned (OpenSpec.ofChange fnFieldsLengthWireSizesWrong)

end Rows
end Go.Proofs.Qxb6600725a
