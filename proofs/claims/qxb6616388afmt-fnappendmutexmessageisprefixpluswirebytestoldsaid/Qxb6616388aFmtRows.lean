/-
  NARROWER THAN 'FOR EVERY INPUT', by the rows' own cells (each row's printed sentence says how): FnAppendMutexMessageIsPrefixPlusWireBytes: laid · FnAppendMutexMessageTellsMessagesApart: laid.
  DERIVED. THE GIVEN ROWS OF THIS SEAT. 2 by the template 'for every input the law returns true; each argument reads behind the call as it read before'; 0 by the template 'total and deterministic' (their statements: Qxb6616388aFmtTotals.lean).
  GIVEN WITH THE SEED: the statements are not yours to turn. If you find one false, say at which input.
  Laid BY PROGRAM, IN A SANDBOX (cutbox-rows.mjs): the forced cells as the released guide's own fill.sh prints them over the translation dccf263a2160ea11… (all of the seat's roots in one cut). By AI agents, Wed Nov 11 2026. No macro, syntax, notation, axiom, sorry.
-/
import Derived.Test.Qxb6616388aFmtChecked
import GoSem.PinnedTables
import GoSem.Claim
import GoSem.ClaimJoined
import GoSem.ClaimMapViews
import Derived.JoinedTies
import Derived.KernelRfl
namespace Go.Proofs.Qxb6616388aFmt
/- THE CELL 'sum', in the pinned program and in every row, IS THE sha256 OF THE DUMP (.gsa) THAT Qxb6616388aFmtProg.lean LOADS. Nothing in Lean hashes anything: it is a label: what it is worth is what the hold of that sum in a sandbox is worth. -/
noncomputable def Tryf.pinned : Pinned := { name := "qxb6616388afmt", sum := "dccf263a2160ea113169aa2d8dbda4767d93fb885f3516eab0e8c56796424fa0", checked := Tryf.checked }
namespace Rows
def none {H : Type} : Left H := { results := [], args := [] }

/- WHAT THE LISTED PACKAGE-LEVEL VARIABLES READ AS WHEN THE CALL BEGINS. Each datum BY PROGRAM (the guide's laid-datum.mjs) off the statement by which the dump's own 'gosem.cut.vars' lays the variable. In a bare row this is a premise. The card (Qxb6616388aFmtCards.lean) ties it to the program's text. -/
def laid_unicode_utf8_acceptRanges {H : Type} : DataW H := .agg [.agg [.lit (.int .u8 128), .lit (.int .u8 191)], .agg [.lit (.int .u8 160), .lit (.int .u8 191)], .agg [.lit (.int .u8 128), .lit (.int .u8 159)], .agg [.lit (.int .u8 144), .lit (.int .u8 191)], .agg [.lit (.int .u8 128), .lit (.int .u8 143)], .agg [.lit (.int .u8 0), .lit (.int .u8 0)], .agg [.lit (.int .u8 0), .lit (.int .u8 0)], .agg [.lit (.int .u8 0), .lit (.int .u8 0)], .agg [.lit (.int .u8 0), .lit (.int .u8 0)], .agg [.lit (.int .u8 0), .lit (.int .u8 0)], .agg [.lit (.int .u8 0), .lit (.int .u8 0)], .agg [.lit (.int .u8 0), .lit (.int .u8 0)], .agg [.lit (.int .u8 0), .lit (.int .u8 0)], .agg [.lit (.int .u8 0), .lit (.int .u8 0)], .agg [.lit (.int .u8 0), .lit (.int .u8 0)], .agg [.lit (.int .u8 0), .lit (.int .u8 0)]]
/-- One of Go's own tables, pinned by name: the form's constant. -/
def laid_strconv_isGraphic : DataW Unit := Go.Pinned.isGraphic
/-- One of Go's own tables, pinned by name: the form's constant. -/
def laid_strconv_isNotPrint16 : DataW Unit := Go.Pinned.isNotPrint16
/-- One of Go's own tables, pinned by name: the form's constant. -/
def laid_strconv_isNotPrint32 : DataW Unit := Go.Pinned.isNotPrint32
/-- One of Go's own tables, pinned by name: the form's constant. -/
def laid_strconv_isPrint16 : DataW Unit := Go.Pinned.isPrint16
/-- One of Go's own tables, pinned by name: the form's constant. -/
def laid_strconv_isPrint32 : DataW Unit := Go.Pinned.isPrint32
/-- One of Go's own tables, pinned by name: the form's constant. -/
def laid_unicode_utf8_first : DataW Unit := Go.Pinned.utf8First

/-- 'zzlaws_root_b1.FnAppendMutexMessageIsPrefixPlusWireBytes': WHATEVER THE INPUT: true; the input reads as it did. -/
def fnAppendMutexMessageIsPrefixPlusWireBytesSpec : ChangeSpec := { name := "fnAppendMutexMessageIsPrefixPlusWireBytes", fn := fun _ => fun
  | [d1, d2, d3, d4, d5] => { results := [.lit (.bool true)], args := [d1, d2, d3, d4, d5] }
  | _ => none }
def fnAppendMutexMessageIsPrefixPlusWireBytesRow : OpenClaim := { program := "qxb6616388afmt", sum := "dccf263a2160ea113169aa2d8dbda4767d93fb885f3516eab0e8c56796424fa0", func := "example.com/antecedent/antecedent/zzlaws_root_b1.FnAppendMutexMessageIsPrefixPlusWireBytes", spec := "fnAppendMutexMessageIsPrefixPlusWireBytes", stops := ["fmt.errorf"], inPlace := ["fmt.errorf"], unfollowed := true, recurses := true, named := ["unicode/utf8.first", "unicode/utf8.acceptRanges", "strconv.isPrint16", "strconv.isNotPrint16", "strconv.isPrint32", "strconv.isNotPrint32", "strconv.isGraphic"], apart := false, laid := [("unicode/utf8.acceptRanges", laid_unicode_utf8_acceptRanges), ("strconv.isGraphic", laid_strconv_isGraphic), ("strconv.isNotPrint16", laid_strconv_isNotPrint16), ("strconv.isNotPrint32", laid_strconv_isNotPrint32), ("strconv.isPrint16", laid_strconv_isPrint16), ("strconv.isPrint32", laid_strconv_isPrint32), ("unicode/utf8.first", laid_unicode_utf8_first)] }
/-- NO THEOREM (fmt's text is open here; it may be false): for the released tool's asking of the row's closed facts alone. THE STATEMENT IS 'FnAppendMutexMessageIsPrefixPlusWireBytesToldSaid' (Qxb6616388aFmtCards.lean). -/
def FnAppendMutexMessageIsPrefixPlusWireBytesFormAsk : Prop := fnAppendMutexMessageIsPrefixPlusWireBytesRow.holds Tryf.pinned (OpenSpec.ofChange fnAppendMutexMessageIsPrefixPlusWireBytesSpec)

/-- ITS FALSE NEIGHBOUR: 'it returns false'. Refute it at one input. -/
def fnAppendMutexMessageIsPrefixPlusWireBytesWrong : ChangeSpec := { name := "fnAppendMutexMessageIsPrefixPlusWireBytes", fn := fun _ => fun
  | [d1, d2, d3, d4, d5] => { results := [.lit (.bool false)], args := [d1, d2, d3, d4, d5] }
  | _ => none }
def FnAppendMutexMessageIsPrefixPlusWireBytesWrongFormAsk : Prop := fnAppendMutexMessageIsPrefixPlusWireBytesRow.holds Tryf.pinned (OpenSpec.ofChange fnAppendMutexMessageIsPrefixPlusWireBytesWrong)

/-- 'zzlaws_root_b1.FnAppendMutexMessageTellsMessagesApart': WHATEVER THE INPUT: true; the input reads as it did. -/
def fnAppendMutexMessageTellsMessagesApartSpec : ChangeSpec := { name := "fnAppendMutexMessageTellsMessagesApart", fn := fun _ => fun
  | [d1, d2, d3, d4, d5, d6, d7, d8] => { results := [.lit (.bool true)], args := [d1, d2, d3, d4, d5, d6, d7, d8] }
  | _ => none }
def fnAppendMutexMessageTellsMessagesApartRow : OpenClaim := { program := "qxb6616388afmt", sum := "dccf263a2160ea113169aa2d8dbda4767d93fb885f3516eab0e8c56796424fa0", func := "example.com/antecedent/antecedent/zzlaws_root_b1.FnAppendMutexMessageTellsMessagesApart", spec := "fnAppendMutexMessageTellsMessagesApart", stops := ["fmt.errorf"], inPlace := ["fmt.errorf"], unfollowed := true, recurses := true, named := ["unicode/utf8.first", "unicode/utf8.acceptRanges", "strconv.isPrint16", "strconv.isNotPrint16", "strconv.isPrint32", "strconv.isNotPrint32", "strconv.isGraphic"], apart := false, laid := [("unicode/utf8.acceptRanges", laid_unicode_utf8_acceptRanges), ("strconv.isGraphic", laid_strconv_isGraphic), ("strconv.isNotPrint16", laid_strconv_isNotPrint16), ("strconv.isNotPrint32", laid_strconv_isNotPrint32), ("strconv.isPrint16", laid_strconv_isPrint16), ("strconv.isPrint32", laid_strconv_isPrint32), ("unicode/utf8.first", laid_unicode_utf8_first)] }
/-- NO THEOREM (fmt's text is open here; it may be false): for the released tool's asking of the row's closed facts alone. THE STATEMENT IS 'FnAppendMutexMessageTellsMessagesApartToldSaid' (Qxb6616388aFmtCards.lean). -/
def FnAppendMutexMessageTellsMessagesApartFormAsk : Prop := fnAppendMutexMessageTellsMessagesApartRow.holds Tryf.pinned (OpenSpec.ofChange fnAppendMutexMessageTellsMessagesApartSpec)

/-- ITS FALSE NEIGHBOUR: 'it returns false'. Refute it at one input. -/
def fnAppendMutexMessageTellsMessagesApartWrong : ChangeSpec := { name := "fnAppendMutexMessageTellsMessagesApart", fn := fun _ => fun
  | [d1, d2, d3, d4, d5, d6, d7, d8] => { results := [.lit (.bool false)], args := [d1, d2, d3, d4, d5, d6, d7, d8] }
  | _ => none }
def FnAppendMutexMessageTellsMessagesApartWrongFormAsk : Prop := fnAppendMutexMessageTellsMessagesApartRow.holds Tryf.pinned (OpenSpec.ofChange fnAppendMutexMessageTellsMessagesApartWrong)

end Rows
end Go.Proofs.Qxb6616388aFmt
