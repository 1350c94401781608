/-
  No cell of these rows narrows 'for every input' (looked for: loops, veiled, ifaces, maps, wideKeys, modest, calm, conditions, laid).
  DERIVED. THE GIVEN ROWS OF THIS SEAT. 1 by the template 'for every input the law returns true; each argument reads behind the call as it read before'; 0 by the template 'total and deterministic' (their statements: Qxb6601412aTotals.lean).
  GIVEN WITH THE SEED: the statements are not yours to turn. If you find one false, say at which input.
  Laid BY PROGRAM, IN A SANDBOX (cutbox-rows.mjs): the forced cells as the released guide's own fill.sh prints them over the translation 1c4a22cc9ec91daf… (all of the seat's roots in one cut). By AI agents, Wed Nov 11 2026. No macro, syntax, notation, axiom, sorry.
-/
import Derived.Test.Qxb6601412aChecked
import GoSem.Claim
import GoSem.ClaimJoined
import GoSem.ClaimMapViews
import Derived.JoinedTies
import Derived.KernelRfl
namespace Go.Proofs.Qxb6601412a
/- THE CELL 'sum', in the pinned program and in every row, IS THE sha256 OF THE DUMP (.gsa) THAT Qxb6601412aProg.lean LOADS. Nothing in Lean hashes anything: it is a label: what it is worth is what the hold of that sum in a sandbox is worth. -/
noncomputable def Try.pinned : Pinned := { name := "qxb6601412a", sum := "1c4a22cc9ec91dafa9d1168095eca55d06aac4e99198cb74314cd8e3f401101a", checked := Try.checked }
namespace Rows
def none {H : Type} : Left H := { results := [], args := [] }

/-- 'zzlaws_internal_api_b1.FnStringAndUserAgentSeparateBuilds': WHATEVER THE INPUT: true; the input reads as it did. -/
def fnStringAndUserAgentSeparateBuildsSpec : ChangeSpec := { name := "fnStringAndUserAgentSeparateBuilds", fn := fun _ => fun
  | [d1, d2, d3, d4] => { results := [.lit (.bool true)], args := [d1, d2, d3, d4] }
  | _ => none }
def fnStringAndUserAgentSeparateBuildsRow : OpenClaim := { program := "qxb6601412a", sum := "1c4a22cc9ec91dafa9d1168095eca55d06aac4e99198cb74314cd8e3f401101a", func := "example.com/lease/lease/zzlaws_internal_api_b1.FnStringAndUserAgentSeparateBuilds", spec := "fnStringAndUserAgentSeparateBuilds", apart := false }
def FnStringAndUserAgentSeparateBuildsSaid : Prop := fnStringAndUserAgentSeparateBuildsRow.holds Try.pinned (OpenSpec.ofChange fnStringAndUserAgentSeparateBuildsSpec)

/-- ITS FALSE NEIGHBOUR: 'it returns false'. Refute it at one input. -/
def fnStringAndUserAgentSeparateBuildsWrong : ChangeSpec := { name := "fnStringAndUserAgentSeparateBuilds", fn := fun _ => fun
  | [d1, d2, d3, d4] => { results := [.lit (.bool false)], args := [d1, d2, d3, d4] }
  | _ => none }
def FnStringAndUserAgentSeparateBuildsWrongFalsely : Prop := fnStringAndUserAgentSeparateBuildsRow.holds Try.pinned (OpenSpec.ofChange fnStringAndUserAgentSeparateBuildsWrong)

end Rows
end Go.Proofs.Qxb6601412a
