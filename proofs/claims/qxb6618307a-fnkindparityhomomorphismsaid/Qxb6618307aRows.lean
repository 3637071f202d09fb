/-
  No cell of these rows narrows 'for every input' (looked for: loops, veiled, ifaces, maps, wideKeys, modest, calm, conditions, laid).
  DERIVED. THE GIVEN ROWS OF THIS SEAT. 1 by the template 'for every input the law returns true; each argument reads behind the call as it read before'; 0 by the template 'total and deterministic' (their statements: Qxb6618307aTotals.lean).
  GIVEN WITH THE SEED: the statements are not yours to turn. If you find one false, say at which input.
  Laid BY PROGRAM, IN A SANDBOX (cutbox-rows.mjs): the forced cells as the released guide's own fill.sh prints them over the translation 61b196130088f0c9… (all of the seat's roots in one cut). By AI agents, Wed Nov 11 2026. No macro, syntax, notation, axiom, sorry.
-/
import Derived.Test.Qxb6618307aChecked
import GoSem.Claim
import GoSem.ClaimJoined
import GoSem.ClaimMapViews
import Derived.JoinedTies
import Derived.KernelRfl
namespace Go.Proofs.Qxb6618307a
/- THE CELL 'sum', in the pinned program and in every row, IS THE sha256 OF THE DUMP (.gsa) THAT Qxb6618307aProg.lean LOADS. Nothing in Lean hashes anything: it is a label: what it is worth is what the hold of that sum in a sandbox is worth. -/
noncomputable def Try.pinned : Pinned := { name := "qxb6618307a", sum := "61b196130088f0c92febf4e4c085b44e3c7337786b7075a33246e367521fe687", checked := Try.checked }
namespace Rows
def none {H : Type} : Left H := { results := [], args := [] }

/-- 'zzlaws_internal_bench_b1.FnKindParityHomomorphism': WHATEVER THE INPUT: true; the input reads as it did. -/
def fnKindParityHomomorphismSpec : ChangeSpec := { name := "fnKindParityHomomorphism", fn := fun _ => fun
  | [d1, d2] => { results := [.lit (.bool true)], args := [d1, d2] }
  | _ => none }
def fnKindParityHomomorphismRow : OpenClaim := { program := "qxb6618307a", sum := "61b196130088f0c92febf4e4c085b44e3c7337786b7075a33246e367521fe687", func := "example.com/waymark/waymark/zzlaws_internal_bench_b1.FnKindParityHomomorphism", spec := "fnKindParityHomomorphism", apart := false }
def FnKindParityHomomorphismSaid : Prop := fnKindParityHomomorphismRow.holds Try.pinned (OpenSpec.ofChange fnKindParityHomomorphismSpec)

/-- ITS FALSE NEIGHBOUR: 'it returns false'. Refute it at one input. -/
def fnKindParityHomomorphismWrong : ChangeSpec := { name := "fnKindParityHomomorphism", fn := fun _ => fun
  | [d1, d2] => { results := [.lit (.bool false)], args := [d1, d2] }
  | _ => none }
def FnKindParityHomomorphismWrongFalsely : Prop := fnKindParityHomomorphismRow.holds Try.pinned (OpenSpec.ofChange fnKindParityHomomorphismWrong)

end Rows
end Go.Proofs.Qxb6618307a
