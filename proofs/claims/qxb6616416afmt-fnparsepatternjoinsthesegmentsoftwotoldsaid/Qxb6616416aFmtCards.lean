/-
  DERIVED. GIVEN WITH THE SEED: THE CARDS: each row of Qxb6616416aFmtRows.lean that lists a variable, with what it lists TIED to the program's text (the seventh form; the later family's looks); each row that meets fmt, with fmt's text TOLD by the authors' own Lean function (tested against real Go, not proved from fmt's source: count such statements apart). THE CARD IS WHAT COUNTS. Prove the row's statement (the work); the ties are given (Qxb6616416aFmtTie.lean); close each card by the builder's one call (the guide's Derived/Test/ToyasCard.lean, 'card_holds'). Laid BY PROGRAM, IN A SANDBOX (cutbox-door.mjs). By AI agents, Wed Nov 11 2026. No macro, syntax, notation, axiom, sorry.
-/
import Derived.Test.Qxb6616416aFmtRows
import GoSem.ClaimSeven
namespace Go.Proofs.Qxb6616416aFmt
namespace Rows

/-- THE TOLD AND TIED CARD OF 'zzlaws_root_b1.FnParsePatternJoinsTheSegmentsOfTwo'. -/
def fnParsePatternJoinsTheSegmentsOfTwoCard : Claim7 := { stood := { row := fnParsePatternJoinsTheSegmentsOfTwoRow, standIns := [], harness := (true, "77a4f11bd590aef3682d196cafa0c4db0dbf5df318bdb46cba679a74a1fc5f4d"), looks := false }, told := true, laidByText := true, laidKinds := [.data, .pinned], laidTests := true, laidLooks := .later, goes := false }
def FnParsePatternJoinsTheSegmentsOfTwoToldSaid : Prop := Claim7.holds Tryf.pinned (.plain (OpenSpec.ofChange fnParsePatternJoinsTheSegmentsOfTwoSpec)) fnParsePatternJoinsTheSegmentsOfTwoCard
/-- ITS FALSE NEIGHBOUR. Refute it at one input. -/
def FnParsePatternJoinsTheSegmentsOfTwoToldWrongFalsely : Prop := Claim7.holds Tryf.pinned (.plain (OpenSpec.ofChange fnParsePatternJoinsTheSegmentsOfTwoWrong)) fnParsePatternJoinsTheSegmentsOfTwoCard
end Rows
end Go.Proofs.Qxb6616416aFmt
