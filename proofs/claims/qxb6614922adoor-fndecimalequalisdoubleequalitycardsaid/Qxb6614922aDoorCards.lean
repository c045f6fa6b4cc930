/-
  DERIVED. GIVEN WITH THE SEED: THE CARDS: each row of Qxb6614922aDoorRows.lean that lists a variable, with what it lists TIED to the program's text (the seventh form; the later family's looks); each row that meets fmt, with fmt's text TOLD by the authors' own Lean function (tested against real Go, not proved from fmt's source: count such statements apart). THE CARD IS WHAT COUNTS. Prove the row's statement (the work); the ties are given (Qxb6614922aDoorTie.lean); close each card by the builder's one call (the guide's Derived/Test/ToyasCard.lean, 'card_holds'). Laid BY PROGRAM, IN A SANDBOX (cutbox-door.mjs). By AI agents, Wed Nov 11 2026. No macro, syntax, notation, axiom, sorry.
-/
import Derived.Test.Qxb6614922aDoorRows
import GoSem.ClaimSeven
namespace Go.Proofs.Qxb6614922aDoor
namespace Rows

/-- THE TIED CARD OF 'zzlaws_root_b1.FnDecimalEqualIsDoubleEquality'. -/
def fnDecimalEqualIsDoubleEqualityCard : Claim7 := { stood := { row := fnDecimalEqualIsDoubleEqualityRow, standIns := [], harness := (true, "390ea42f71deb45d2a2eed31eaeb64f62056e1812627ddd5c772083f0af198da"), looks := true }, kinds := [], alts := [], laidByText := true, laidKinds := [.data, .data, .data, .data, .sentinel, .sentinel, .pinned, .pinned], laidTests := true, laidLooks := .later }
def FnDecimalEqualIsDoubleEqualityCardSaid : Prop := Claim7.holds Tryd.pinned (.plain (OpenSpec.ofChange fnDecimalEqualIsDoubleEqualitySpec)) fnDecimalEqualIsDoubleEqualityCard

/-- THE TIED CARD OF 'zzlaws_root_b1.FnRecorderWriteRecordsAll'. -/
def fnRecorderWriteRecordsAllCard : Claim7 := { stood := { row := fnRecorderWriteRecordsAllRow, standIns := [], harness := (true, "390ea42f71deb45d2a2eed31eaeb64f62056e1812627ddd5c772083f0af198da"), looks := true }, kinds := [], alts := [], laidByText := true, laidKinds := [.sentinel], laidTests := true, laidLooks := .later }
def FnRecorderWriteRecordsAllCardSaid : Prop := Claim7.holds Tryd.pinned (.plain (OpenSpec.ofChange fnRecorderWriteRecordsAllSpec)) fnRecorderWriteRecordsAllCard

/-- THE TIED CARD OF 'zzlaws_root_b1.FnRecorderWriteAnyCut'. -/
def fnRecorderWriteAnyCutCard : Claim7 := { stood := { row := fnRecorderWriteAnyCutRow, standIns := [], harness := (true, "390ea42f71deb45d2a2eed31eaeb64f62056e1812627ddd5c772083f0af198da"), looks := true }, kinds := [], alts := [], laidByText := true, laidKinds := [.sentinel], laidTests := true, laidLooks := .later }
def FnRecorderWriteAnyCutCardSaid : Prop := Claim7.holds Tryd.pinned (.plain (OpenSpec.ofChange fnRecorderWriteAnyCutSpec)) fnRecorderWriteAnyCutCard
end Rows
end Go.Proofs.Qxb6614922aDoor
