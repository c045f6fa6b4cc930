/-
  DERIVED. GIVEN WITH THE SEED: THE CARDS: each row of Qxb6616414aDoorRows.lean that lists a variable, with what it lists TIED to the program's text (the seventh form; the later family's looks); each row that meets fmt, with fmt's text TOLD by the authors' own Lean function (tested against real Go, not proved from fmt's source: count such statements apart). THE CARD IS WHAT COUNTS. Prove the row's statement (the work); the ties are given (Qxb6616414aDoorTie.lean); close each card by the builder's one call (the guide's Derived/Test/ToyasCard.lean, 'card_holds'). Laid BY PROGRAM, IN A SANDBOX (cutbox-door.mjs). By AI agents, Wed Nov 11 2026. No macro, syntax, notation, axiom, sorry.
-/
import Derived.Test.Qxb6616414aDoorRows
import GoSem.ClaimSeven
namespace Go.Proofs.Qxb6616414aDoor
namespace Rows

/-- THE TIED CARD OF 'zzlaws_sbi_b1.FnInOtherCaseConcat'. -/
def fnInOtherCaseConcatCard : Claim7 := { stood := { row := fnInOtherCaseConcatRow, standIns := [], harness := (true, "48c36b79f0c9800ce1976136d055dc7c823d552251f6c8e2d50846aea501b7d2"), looks := false }, kinds := [], alts := [], laidByText := true, laidKinds := [.data, .data, .data, .pinned, .pinned], laidTests := true, laidLooks := .later }
def FnInOtherCaseConcatCardSaid : Prop := Claim7.holds Tryd.pinned (.plain (OpenSpec.ofChange fnInOtherCaseConcatSpec)) fnInOtherCaseConcatCard

/-- THE TIED CARD OF 'zzlaws_sbi_b1.FnInOtherCaseInsert'. -/
def fnInOtherCaseInsertCard : Claim7 := { stood := { row := fnInOtherCaseInsertRow, standIns := [], harness := (true, "48c36b79f0c9800ce1976136d055dc7c823d552251f6c8e2d50846aea501b7d2"), looks := false }, kinds := [], alts := [], laidByText := true, laidKinds := [.data, .data, .data, .pinned, .pinned], laidTests := true, laidLooks := .later }
def FnInOtherCaseInsertCardSaid : Prop := Claim7.holds Tryd.pinned (.plain (OpenSpec.ofChange fnInOtherCaseInsertSpec)) fnInOtherCaseInsertCard
end Rows
end Go.Proofs.Qxb6616414aDoor
