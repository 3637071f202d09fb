/-
  No cell of these rows narrows 'for every input' (looked for: loops, veiled, ifaces, maps, wideKeys, modest, calm, conditions, laid).
  DERIVED. THE GIVEN ROWS OF THIS SEAT. 5 by the template 'for every input the law returns true; each argument reads behind the call as it read before'; 0 by the template 'total and deterministic' (their statements: Qxb6618878aTotals.lean).
  GIVEN WITH THE SEED: the statements are not yours to turn. If you find one false, say at which input.
  Laid BY PROGRAM, IN A SANDBOX (cutbox-rows.mjs): the forced cells as the released guide's own fill.sh prints them over the translation 05e72594258a264f… (all of the seat's roots in one cut). By AI agents, Wed Nov 11 2026. No macro, syntax, notation, axiom, sorry.
-/
import Derived.Test.Qxb6618878aChecked
import GoSem.Claim
import GoSem.ClaimJoined
import GoSem.ClaimMapViews
import Derived.JoinedTies
import Derived.KernelRfl
namespace Go.Proofs.Qxb6618878a
/- THE CELL 'sum', in the pinned program and in every row, IS THE sha256 OF THE DUMP (.gsa) THAT Qxb6618878aProg.lean LOADS. Nothing in Lean hashes anything: it is a label: what it is worth is what the hold of that sum in a sandbox is worth. -/
noncomputable def Try.pinned : Pinned := { name := "qxb6618878a", sum := "05e72594258a264fef9214251b2e7a1f7b105149c7b9ebb88b5772e8b8ef655e", checked := Try.checked }
namespace Rows
def none {H : Type} : Left H := { results := [], args := [] }

/-- 'zzlaws_debounce_b1.FnEdgeApplyLastWins': WHATEVER THE INPUT: true; the input reads as it did. -/
def fnEdgeApplyLastWinsSpec : ChangeSpec := { name := "fnEdgeApplyLastWins", fn := fun _ => fun
  | [d1, d2, d3, d4, d5, d6] => { results := [.lit (.bool true)], args := [d1, d2, d3, d4, d5, d6] }
  | _ => none }
def fnEdgeApplyLastWinsRow : OpenClaim := { program := "qxb6618878a", sum := "05e72594258a264fef9214251b2e7a1f7b105149c7b9ebb88b5772e8b8ef655e", func := "example.com/spillway/spillway/zzlaws_debounce_b1.FnEdgeApplyLastWins", spec := "fnEdgeApplyLastWins", apart := false }
def FnEdgeApplyLastWinsSaid : Prop := fnEdgeApplyLastWinsRow.holds Try.pinned (OpenSpec.ofChange fnEdgeApplyLastWinsSpec)

/-- ITS FALSE NEIGHBOUR: 'it returns false'. Refute it at one input. -/
def fnEdgeApplyLastWinsWrong : ChangeSpec := { name := "fnEdgeApplyLastWins", fn := fun _ => fun
  | [d1, d2, d3, d4, d5, d6] => { results := [.lit (.bool false)], args := [d1, d2, d3, d4, d5, d6] }
  | _ => none }
def FnEdgeApplyLastWinsWrongFalsely : Prop := fnEdgeApplyLastWinsRow.holds Try.pinned (OpenSpec.ofChange fnEdgeApplyLastWinsWrong)

/-- 'zzlaws_debounce_b1.FnEdgeAndMaxWaitCommute': WHATEVER THE INPUT: true; the input reads as it did. -/
def fnEdgeAndMaxWaitCommuteSpec : ChangeSpec := { name := "fnEdgeAndMaxWaitCommute", fn := fun _ => fun
  | [d1, d2, d3, d4, d5, d6] => { results := [.lit (.bool true)], args := [d1, d2, d3, d4, d5, d6] }
  | _ => none }
def fnEdgeAndMaxWaitCommuteRow : OpenClaim := { program := "qxb6618878a", sum := "05e72594258a264fef9214251b2e7a1f7b105149c7b9ebb88b5772e8b8ef655e", func := "example.com/spillway/spillway/zzlaws_debounce_b1.FnEdgeAndMaxWaitCommute", spec := "fnEdgeAndMaxWaitCommute", apart := false }
def FnEdgeAndMaxWaitCommuteSaid : Prop := fnEdgeAndMaxWaitCommuteRow.holds Try.pinned (OpenSpec.ofChange fnEdgeAndMaxWaitCommuteSpec)

/-- ITS FALSE NEIGHBOUR: 'it returns false'. Refute it at one input. -/
def fnEdgeAndMaxWaitCommuteWrong : ChangeSpec := { name := "fnEdgeAndMaxWaitCommute", fn := fun _ => fun
  | [d1, d2, d3, d4, d5, d6] => { results := [.lit (.bool false)], args := [d1, d2, d3, d4, d5, d6] }
  | _ => none }
def FnEdgeAndMaxWaitCommuteWrongFalsely : Prop := fnEdgeAndMaxWaitCommuteRow.holds Try.pinned (OpenSpec.ofChange fnEdgeAndMaxWaitCommuteWrong)

/-- 'zzlaws_debounce_b1.FnMaxWaitApplyLastWins': WHATEVER THE INPUT: true; the input reads as it did. -/
def fnMaxWaitApplyLastWinsSpec : ChangeSpec := { name := "fnMaxWaitApplyLastWins", fn := fun _ => fun
  | [d1, d2, d3, d4, d5, d6] => { results := [.lit (.bool true)], args := [d1, d2, d3, d4, d5, d6] }
  | _ => none }
def fnMaxWaitApplyLastWinsRow : OpenClaim := { program := "qxb6618878a", sum := "05e72594258a264fef9214251b2e7a1f7b105149c7b9ebb88b5772e8b8ef655e", func := "example.com/spillway/spillway/zzlaws_debounce_b1.FnMaxWaitApplyLastWins", spec := "fnMaxWaitApplyLastWins", apart := false }
def FnMaxWaitApplyLastWinsSaid : Prop := fnMaxWaitApplyLastWinsRow.holds Try.pinned (OpenSpec.ofChange fnMaxWaitApplyLastWinsSpec)

/-- ITS FALSE NEIGHBOUR: 'it returns false'. Refute it at one input. -/
def fnMaxWaitApplyLastWinsWrong : ChangeSpec := { name := "fnMaxWaitApplyLastWins", fn := fun _ => fun
  | [d1, d2, d3, d4, d5, d6] => { results := [.lit (.bool false)], args := [d1, d2, d3, d4, d5, d6] }
  | _ => none }
def FnMaxWaitApplyLastWinsWrongFalsely : Prop := fnMaxWaitApplyLastWinsRow.holds Try.pinned (OpenSpec.ofChange fnMaxWaitApplyLastWinsWrong)

/-- 'zzlaws_debounce_b1.FnPanicAndEdgeCommute': WHATEVER THE INPUT: true; the input reads as it did. -/
def fnPanicAndEdgeCommuteSpec : ChangeSpec := { name := "fnPanicAndEdgeCommute", fn := fun _ => fun
  | [d1, d2, d3, d4, d5] => { results := [.lit (.bool true)], args := [d1, d2, d3, d4, d5] }
  | _ => none }
def fnPanicAndEdgeCommuteRow : OpenClaim := { program := "qxb6618878a", sum := "05e72594258a264fef9214251b2e7a1f7b105149c7b9ebb88b5772e8b8ef655e", func := "example.com/spillway/spillway/zzlaws_debounce_b1.FnPanicAndEdgeCommute", spec := "fnPanicAndEdgeCommute", apart := false }
def FnPanicAndEdgeCommuteSaid : Prop := fnPanicAndEdgeCommuteRow.holds Try.pinned (OpenSpec.ofChange fnPanicAndEdgeCommuteSpec)

/-- ITS FALSE NEIGHBOUR: 'it returns false'. Refute it at one input. -/
def fnPanicAndEdgeCommuteWrong : ChangeSpec := { name := "fnPanicAndEdgeCommute", fn := fun _ => fun
  | [d1, d2, d3, d4, d5] => { results := [.lit (.bool false)], args := [d1, d2, d3, d4, d5] }
  | _ => none }
def FnPanicAndEdgeCommuteWrongFalsely : Prop := fnPanicAndEdgeCommuteRow.holds Try.pinned (OpenSpec.ofChange fnPanicAndEdgeCommuteWrong)

/-- 'zzlaws_debounce_b1.FnWithPanicHandlerAgreesWithPanicOption': WHATEVER THE INPUT: true; the input reads as it did. -/
def fnWithPanicHandlerAgreesWithPanicOptionSpec : ChangeSpec := { name := "fnWithPanicHandlerAgreesWithPanicOption", fn := fun _ => fun
  | [d1, d2, d3, d4] => { results := [.lit (.bool true)], args := [d1, d2, d3, d4] }
  | _ => none }
def fnWithPanicHandlerAgreesWithPanicOptionRow : OpenClaim := { program := "qxb6618878a", sum := "05e72594258a264fef9214251b2e7a1f7b105149c7b9ebb88b5772e8b8ef655e", func := "example.com/spillway/spillway/zzlaws_debounce_b1.FnWithPanicHandlerAgreesWithPanicOption", spec := "fnWithPanicHandlerAgreesWithPanicOption", unfollowed := true, recurses := true, apart := false }
def FnWithPanicHandlerAgreesWithPanicOptionSaid : Prop := fnWithPanicHandlerAgreesWithPanicOptionRow.holds Try.pinned (OpenSpec.ofChange fnWithPanicHandlerAgreesWithPanicOptionSpec)

/-- ITS FALSE NEIGHBOUR: 'it returns false'. Refute it at one input. -/
def fnWithPanicHandlerAgreesWithPanicOptionWrong : ChangeSpec := { name := "fnWithPanicHandlerAgreesWithPanicOption", fn := fun _ => fun
  | [d1, d2, d3, d4] => { results := [.lit (.bool false)], args := [d1, d2, d3, d4] }
  | _ => none }
def FnWithPanicHandlerAgreesWithPanicOptionWrongFalsely : Prop := fnWithPanicHandlerAgreesWithPanicOptionRow.holds Try.pinned (OpenSpec.ofChange fnWithPanicHandlerAgreesWithPanicOptionWrong)

end Rows
end Go.Proofs.Qxb6618878a
