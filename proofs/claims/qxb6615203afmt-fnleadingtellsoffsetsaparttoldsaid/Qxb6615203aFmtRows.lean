/-
  No cell of these rows narrows 'for every input' (looked for: loops, veiled, ifaces, maps, wideKeys, modest, calm, conditions, laid).
  DERIVED. THE GIVEN ROWS OF THIS SEAT. 1 by the template 'for every input the law returns true; each argument reads behind the call as it read before'; 0 by the template 'total and deterministic' (their statements: Qxb6615203aFmtTotals.lean).
  GIVEN WITH THE SEED: the statements are not yours to turn. If you find one false, say at which input.
  Laid BY PROGRAM, IN A SANDBOX (cutbox-rows.mjs): the forced cells as the released guide's own fill.sh prints them over the translation 650a511b5e7ab2d3… (all of the seat's roots in one cut). By AI agents, Wed Nov 11 2026. No macro, syntax, notation, axiom, sorry.
-/
import Derived.Test.Qxb6615203aFmtChecked
import GoSem.Claim
import GoSem.ClaimJoined
import GoSem.ClaimMapViews
import Derived.JoinedTies
import Derived.KernelRfl
namespace Go.Proofs.Qxb6615203aFmt
/- THE CELL 'sum', in the pinned program and in every row, IS THE sha256 OF THE DUMP (.gsa) THAT Qxb6615203aFmtProg.lean LOADS. Nothing in Lean hashes anything: it is a label: what it is worth is what the hold of that sum in a sandbox is worth. -/
noncomputable def Tryf.pinned : Pinned := { name := "qxb6615203afmt", sum := "650a511b5e7ab2d3a8d0cab79c63a9b2cb63f17d7c378455814e7c0642a001bf", checked := Tryf.checked }
namespace Rows
def none {H : Type} : Left H := { results := [], args := [] }

/-- 'zzlaws_internal_store_b1.FnLeadingTellsOffsetsApart': WHATEVER THE INPUT: true; the input reads as it did. -/
def fnLeadingTellsOffsetsApartSpec : ChangeSpec := { name := "fnLeadingTellsOffsetsApart", fn := fun _ => fun
  | [d1, d2, d3] => { results := [.lit (.bool true)], args := [d1, d2, d3] }
  | _ => none }
def fnLeadingTellsOffsetsApartRow : OpenClaim := { program := "qxb6615203afmt", sum := "650a511b5e7ab2d3a8d0cab79c63a9b2cb63f17d7c378455814e7c0642a001bf", func := "example.com/halfway/halfway/zzlaws_internal_store_b1.FnLeadingTellsOffsetsApart", spec := "fnLeadingTellsOffsetsApart", stops := ["fmt.Sprintf"], inPlace := ["fmt.Sprintf"], plainKeys := false, apart := false }
/-- NO THEOREM (fmt's text is open here; it may be false): for the released tool's asking of the row's closed facts alone. THE STATEMENT IS 'FnLeadingTellsOffsetsApartToldSaid' (Qxb6615203aFmtCards.lean). -/
def FnLeadingTellsOffsetsApartFormAsk : Prop := fnLeadingTellsOffsetsApartRow.holds Tryf.pinned (OpenSpec.ofChange fnLeadingTellsOffsetsApartSpec)

/-- ITS FALSE NEIGHBOUR: 'it returns false'. Refute it at one input. -/
def fnLeadingTellsOffsetsApartWrong : ChangeSpec := { name := "fnLeadingTellsOffsetsApart", fn := fun _ => fun
  | [d1, d2, d3] => { results := [.lit (.bool false)], args := [d1, d2, d3] }
  | _ => none }
def FnLeadingTellsOffsetsApartWrongFormAsk : Prop := fnLeadingTellsOffsetsApartRow.holds Tryf.pinned (OpenSpec.ofChange fnLeadingTellsOffsetsApartWrong)

end Rows
end Go.Proofs.Qxb6615203aFmt
