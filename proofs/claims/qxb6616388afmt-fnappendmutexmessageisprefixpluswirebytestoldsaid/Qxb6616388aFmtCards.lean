/-
  DERIVED. GIVEN WITH THE SEED: THE CARDS: each row of Qxb6616388aFmtRows.lean that lists a variable, with what it lists TIED to the program's text (the seventh form; the later family's looks); each row that meets fmt, with fmt's text TOLD by the authors' own Lean function (tested against real Go, not proved from fmt's source: count such statements apart). THE CARD IS WHAT COUNTS. Prove the row's statement (the work); the ties are given (Qxb6616388aFmtTie.lean); close each card by the builder's one call (the guide's Derived/Test/ToyasCard.lean, 'card_holds'). Laid BY PROGRAM, IN A SANDBOX (cutbox-door.mjs). By AI agents, Wed Nov 11 2026. No macro, syntax, notation, axiom, sorry.
-/
import Derived.Test.Qxb6616388aFmtRows
import GoSem.ClaimSeven
namespace Go.Proofs.Qxb6616388aFmt
namespace Rows

/-- THE TOLD AND TIED CARD OF 'zzlaws_root_b1.FnAppendMutexMessageIsPrefixPlusWireBytes'. -/
def fnAppendMutexMessageIsPrefixPlusWireBytesCard : Claim7 := { stood := { row := fnAppendMutexMessageIsPrefixPlusWireBytesRow, standIns := [], harness := (true, "9ab749519a7f600375a50629f3d83a1739e51e79fd3368eeb62d215f49751344"), looks := true }, told := true, laidByText := true, laidKinds := [.data, .pinned, .pinned, .pinned, .pinned, .pinned, .pinned], laidTests := true, laidLooks := .later, goes := false }
def FnAppendMutexMessageIsPrefixPlusWireBytesToldSaid : Prop := Claim7.holds Tryf.pinned (.plain (OpenSpec.ofChange fnAppendMutexMessageIsPrefixPlusWireBytesSpec)) fnAppendMutexMessageIsPrefixPlusWireBytesCard
/-- ITS FALSE NEIGHBOUR. Refute it at one input. -/
def FnAppendMutexMessageIsPrefixPlusWireBytesToldWrongFalsely : Prop := Claim7.holds Tryf.pinned (.plain (OpenSpec.ofChange fnAppendMutexMessageIsPrefixPlusWireBytesWrong)) fnAppendMutexMessageIsPrefixPlusWireBytesCard

/-- THE TOLD AND TIED CARD OF 'zzlaws_root_b1.FnAppendMutexMessageTellsMessagesApart'. -/
def fnAppendMutexMessageTellsMessagesApartCard : Claim7 := { stood := { row := fnAppendMutexMessageTellsMessagesApartRow, standIns := [], harness := (true, "9ab749519a7f600375a50629f3d83a1739e51e79fd3368eeb62d215f49751344"), looks := true }, told := true, laidByText := true, laidKinds := [.data, .pinned, .pinned, .pinned, .pinned, .pinned, .pinned], laidTests := true, laidLooks := .later, goes := false }
def FnAppendMutexMessageTellsMessagesApartToldSaid : Prop := Claim7.holds Tryf.pinned (.plain (OpenSpec.ofChange fnAppendMutexMessageTellsMessagesApartSpec)) fnAppendMutexMessageTellsMessagesApartCard
/-- ITS FALSE NEIGHBOUR. Refute it at one input. -/
def FnAppendMutexMessageTellsMessagesApartToldWrongFalsely : Prop := Claim7.holds Tryf.pinned (.plain (OpenSpec.ofChange fnAppendMutexMessageTellsMessagesApartWrong)) fnAppendMutexMessageTellsMessagesApartCard
end Rows
end Go.Proofs.Qxb6616388aFmt
