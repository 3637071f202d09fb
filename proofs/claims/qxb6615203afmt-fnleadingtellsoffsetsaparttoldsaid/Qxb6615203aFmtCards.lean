/-
  DERIVED. GIVEN WITH THE SEED: THE CARDS: each row of Qxb6615203aFmtRows.lean that lists a variable, with what it lists TIED to the program's text (the seventh form; the later family's looks); each row that meets fmt, with fmt's text TOLD by the authors' own Lean function (tested against real Go, not proved from fmt's source: count such statements apart). THE CARD IS WHAT COUNTS. Prove the row's statement (the work); the ties are given (Qxb6615203aFmtTie.lean); close each card by the builder's one call (the guide's Derived/Test/ToyasCard.lean, 'card_holds'). Laid BY PROGRAM, IN A SANDBOX (cutbox-door.mjs). By AI agents, Wed Nov 11 2026. No macro, syntax, notation, axiom, sorry.
-/
import Derived.Test.Qxb6615203aFmtRows
import GoSem.ClaimSeven
namespace Go.Proofs.Qxb6615203aFmt
namespace Rows

/-- THE TOLD CARD OF 'zzlaws_internal_store_b1.FnLeadingTellsOffsetsApart'. -/
def fnLeadingTellsOffsetsApartCard : Claim7 := { stood := { row := fnLeadingTellsOffsetsApartRow, standIns := [], harness := (true, "38289ec14a3096af05773bdfe4c92d5aee96b93aef91b046c4a879f7d5a21575"), looks := false }, told := true, goes := false }
def FnLeadingTellsOffsetsApartToldSaid : Prop := Claim7.holds Tryf.pinned (.plain (OpenSpec.ofChange fnLeadingTellsOffsetsApartSpec)) fnLeadingTellsOffsetsApartCard
/-- ITS FALSE NEIGHBOUR. Refute it at one input. -/
def FnLeadingTellsOffsetsApartToldWrongFalsely : Prop := Claim7.holds Tryf.pinned (.plain (OpenSpec.ofChange fnLeadingTellsOffsetsApartWrong)) fnLeadingTellsOffsetsApartCard
end Rows
end Go.Proofs.Qxb6615203aFmt
