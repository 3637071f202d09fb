/-
  No cell of these rows narrows 'for every input' (looked for: loops, veiled, ifaces, maps, wideKeys, modest, calm, conditions, laid).
  DERIVED. THE GIVEN ROWS OF THIS SEAT. 1 by the template 'for every input the law returns true; each argument reads behind the call as it read before'; 0 by the template 'total and deterministic' (their statements: Qxb6616717aTotals.lean).
  GIVEN WITH THE SEED: the statements are not yours to turn. If you find one false, say at which input.
  Laid BY PROGRAM, IN A SANDBOX (cutbox-rows.mjs): the forced cells as the released guide's own fill.sh prints them over the translation 644a202dd2b3b3ca… (all of the seat's roots in one cut). By AI agents, Wed Nov 11 2026. No macro, syntax, notation, axiom, sorry.
-/
import Derived.Test.Qxb6616717aChecked
import GoSem.Claim
import GoSem.ClaimJoined
import GoSem.ClaimMapViews
import Derived.JoinedTies
import Derived.KernelRfl
namespace Go.Proofs.Qxb6616717a
/- THE CELL 'sum', in the pinned program and in every row, IS THE sha256 OF THE DUMP (.gsa) THAT Qxb6616717aProg.lean LOADS. Nothing in Lean hashes anything: it is a label: what it is worth is what the hold of that sum in a sandbox is worth. -/
noncomputable def Try.pinned : Pinned := { name := "qxb6616717a", sum := "644a202dd2b3b3caae6e6195bea5015c4c20e266b24987a279a3523b6b295d12", checked := Try.checked }
namespace Rows
def none {H : Type} : Left H := { results := [], args := [] }

/-- 'zzlaws_internal_screen_b1.FnNextParamCountsToMaxParams': WHATEVER THE INPUT: true; the input reads as it did. -/
def fnNextParamCountsToMaxParamsSpec : ChangeSpec := { name := "fnNextParamCountsToMaxParams", fn := fun _ => fun
  | [d1, d2, d3] => { results := [.lit (.bool true)], args := [d1, d2, d3] }
  | _ => none }
def fnNextParamCountsToMaxParamsRow : OpenClaim := { program := "qxb6616717a", sum := "644a202dd2b3b3caae6e6195bea5015c4c20e266b24987a279a3523b6b295d12", func := "example.com/halyard/halyard/zzlaws_internal_screen_b1.FnNextParamCountsToMaxParams", spec := "fnNextParamCountsToMaxParams", apart := false }
def FnNextParamCountsToMaxParamsSaid : Prop := fnNextParamCountsToMaxParamsRow.holds Try.pinned (OpenSpec.ofChange fnNextParamCountsToMaxParamsSpec)

/-- ITS FALSE NEIGHBOUR: 'it returns false'. Refute it at one input. -/
def fnNextParamCountsToMaxParamsWrong : ChangeSpec := { name := "fnNextParamCountsToMaxParams", fn := fun _ => fun
  | [d1, d2, d3] => { results := [.lit (.bool false)], args := [d1, d2, d3] }
  | _ => none }
def FnNextParamCountsToMaxParamsWrongFalsely : Prop := fnNextParamCountsToMaxParamsRow.holds Try.pinned (OpenSpec.ofChange fnNextParamCountsToMaxParamsWrong)

end Rows
end Go.Proofs.Qxb6616717a
