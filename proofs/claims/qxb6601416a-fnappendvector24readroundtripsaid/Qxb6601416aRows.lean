/-
  No cell of these rows narrows 'for every input' (looked for: loops, veiled, ifaces, maps, wideKeys, modest, calm, conditions, laid).
  DERIVED. THE GIVEN ROWS OF THIS SEAT. 2 by the template 'for every input the law returns true; each argument reads behind the call as it read before'; 0 by the template 'total and deterministic' (their statements: Qxb6601416aTotals.lean).
  GIVEN WITH THE SEED: the statements are not yours to turn. If you find one false, say at which input.
  Laid BY PROGRAM, IN A SANDBOX (cutbox-rows.mjs): the forced cells as the released guide's own fill.sh prints them over the translation c11e4e6262f39a0d… (all of the seat's roots in one cut). By AI agents, Wed Nov 11 2026. No macro, syntax, notation, axiom, sorry.
-/
import Derived.Test.Qxb6601416aChecked
import GoSem.Claim
import GoSem.ClaimJoined
import GoSem.ClaimMapViews
import Derived.JoinedTies
import Derived.KernelRfl
namespace Go.Proofs.Qxb6601416a
/- THE CELL 'sum', in the pinned program and in every row, IS THE sha256 OF THE DUMP (.gsa) THAT Qxb6601416aProg.lean LOADS. Nothing in Lean hashes anything: it is a label: what it is worth is what the hold of that sum in a sandbox is worth. -/
noncomputable def Try.pinned : Pinned := { name := "qxb6601416a", sum := "c11e4e6262f39a0dc34ee70d86848321e19dcf19daf77c91d784e076c8414714", checked := Try.checked }
namespace Rows
def none {H : Type} : Left H := { results := [], args := [] }

/-- 'zzlaws_pkg_ctlog_b1.FnReadVector24Reencode': WHATEVER THE INPUT: true; the input reads as it did. -/
def fnReadVector24ReencodeSpec : ChangeSpec := { name := "fnReadVector24Reencode", fn := fun _ => fun
  | [d] => { results := [.lit (.bool true)], args := [d] }
  | _ => none }
def fnReadVector24ReencodeRow : OpenClaim := { program := "qxb6601416a", sum := "c11e4e6262f39a0dc34ee70d86848321e19dcf19daf77c91d784e076c8414714", func := "example.com/clearleaf/clearleaf/zzlaws_pkg_ctlog_b1.FnReadVector24Reencode", spec := "fnReadVector24Reencode", apart := false }
def FnReadVector24ReencodeSaid : Prop := fnReadVector24ReencodeRow.holds Try.pinned (OpenSpec.ofChange fnReadVector24ReencodeSpec)

/-- ITS FALSE NEIGHBOUR: 'it returns false'. Refute it at one input. -/
def fnReadVector24ReencodeWrong : ChangeSpec := { name := "fnReadVector24Reencode", fn := fun _ => fun
  | [d] => { results := [.lit (.bool false)], args := [d] }
  | _ => none }
def FnReadVector24ReencodeWrongFalsely : Prop := fnReadVector24ReencodeRow.holds Try.pinned (OpenSpec.ofChange fnReadVector24ReencodeWrong)

/-- 'zzlaws_pkg_ctlog_b1.FnAppendVector24ReadRoundTrip': WHATEVER THE INPUT: true; the input reads as it did. -/
def fnAppendVector24ReadRoundTripSpec : ChangeSpec := { name := "fnAppendVector24ReadRoundTrip", fn := fun _ => fun
  | [d1, d2] => { results := [.lit (.bool true)], args := [d1, d2] }
  | _ => none }
def fnAppendVector24ReadRoundTripRow : OpenClaim := { program := "qxb6601416a", sum := "c11e4e6262f39a0dc34ee70d86848321e19dcf19daf77c91d784e076c8414714", func := "example.com/clearleaf/clearleaf/zzlaws_pkg_ctlog_b1.FnAppendVector24ReadRoundTrip", spec := "fnAppendVector24ReadRoundTrip", apart := false }
def FnAppendVector24ReadRoundTripSaid : Prop := fnAppendVector24ReadRoundTripRow.holds Try.pinned (OpenSpec.ofChange fnAppendVector24ReadRoundTripSpec)

/-- ITS FALSE NEIGHBOUR: 'it returns false'. Refute it at one input. -/
def fnAppendVector24ReadRoundTripWrong : ChangeSpec := { name := "fnAppendVector24ReadRoundTrip", fn := fun _ => fun
  | [d1, d2] => { results := [.lit (.bool false)], args := [d1, d2] }
  | _ => none }
def FnAppendVector24ReadRoundTripWrongFalsely : Prop := fnAppendVector24ReadRoundTripRow.holds Try.pinned (OpenSpec.ofChange fnAppendVector24ReadRoundTripWrong)

end Rows
end Go.Proofs.Qxb6601416a
