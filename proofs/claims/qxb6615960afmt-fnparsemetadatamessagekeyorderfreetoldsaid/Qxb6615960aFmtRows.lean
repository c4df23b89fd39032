/-
  NARROWER THAN 'FOR EVERY INPUT', by the rows' own cells (each row's printed sentence says how): FnReadHandshakeReadsExactlyItsOwnBytes: laid · FnReadHandshakeRefusesAnyOtherHeader: laid.
  DERIVED. THE GIVEN ROWS OF THIS SEAT. 4 by the template 'for every input the law returns true; each argument reads behind the call as it read before'; 0 by the template 'total and deterministic' (their statements: Qxb6615960aFmtTotals.lean).
  GIVEN WITH THE SEED: the statements are not yours to turn. If you find one false, say at which input.
  Laid BY PROGRAM, IN A SANDBOX (cutbox-rows.mjs): the forced cells as the released guide's own fill.sh prints them over the translation 6da7fb6547a7345c… (all of the seat's roots in one cut). By AI agents, Wed Nov 11 2026. No macro, syntax, notation, axiom, sorry.
-/
import Derived.Test.Qxb6615960aFmtChecked
import GoSem.Claim
import GoSem.ClaimJoined
import GoSem.ClaimMapViews
import Derived.JoinedTies
import Derived.KernelRfl
namespace Go.Proofs.Qxb6615960aFmt
/- THE CELL 'sum', in the pinned program and in every row, IS THE sha256 OF THE DUMP (.gsa) THAT Qxb6615960aFmtProg.lean LOADS. Nothing in Lean hashes anything: it is a label: what it is worth is what the hold of that sum in a sandbox is worth. -/
noncomputable def Tryf.pinned : Pinned := { name := "qxb6615960afmt", sum := "6da7fb6547a7345c04483cb314b74ecca5826d0eca954a2a970d8cd4f35895e3", checked := Tryf.checked }
namespace Rows
def none {H : Type} : Left H := { results := [], args := [] }

/- WHAT THE LISTED PACKAGE-LEVEL VARIABLES READ AS WHEN THE CALL BEGINS. Each datum BY PROGRAM (the guide's laid-datum.mjs) off the statement by which the dump's own 'gosem.cut.vars' lays the variable. In a bare row this is a premise. The card (Qxb6615960aFmtCards.lean) ties it to the program's text. -/
def laid_io_ErrShortBuffer {H : Type} : DataW H := .iface "*errors.errorString" (.ptr (.agg [.lit (.string [115, 104, 111, 114, 116, 32, 98, 117, 102, 102, 101, 114])]))
def laid_io_EOF {H : Type} : DataW H := .iface "*errors.errorString" (.ptr (.agg [.lit (.string [69, 79, 70])]))
def laid_io_ErrUnexpectedEOF {H : Type} : DataW H := .iface "*errors.errorString" (.ptr (.agg [.lit (.string [117, 110, 101, 120, 112, 101, 99, 116, 101, 100, 32, 69, 79, 70])]))

/-- 'zzlaws_internal_peerwire_b1.FnParseMetadataMessageMatchesGrammar': WHATEVER THE INPUT: true; the input reads as it did. -/
def fnParseMetadataMessageMatchesGrammarSpec : ChangeSpec := { name := "fnParseMetadataMessageMatchesGrammar", fn := fun _ => fun
  | [d] => { results := [.lit (.bool true)], args := [d] }
  | _ => none }
def fnParseMetadataMessageMatchesGrammarRow : OpenClaim := { program := "qxb6615960afmt", sum := "6da7fb6547a7345c04483cb314b74ecca5826d0eca954a2a970d8cd4f35895e3", func := "example.com/swarmwright/swarmwright/zzlaws_internal_peerwire_b1.FnParseMetadataMessageMatchesGrammar", spec := "fnParseMetadataMessageMatchesGrammar", stops := ["fmt.errorf"], inPlace := ["fmt.errorf"], recurses := true, apart := false }
/-- NO THEOREM (fmt's text is open here; it may be false): for the released tool's asking of the row's closed facts alone. THE STATEMENT IS 'FnParseMetadataMessageMatchesGrammarToldSaid' (Qxb6615960aFmtCards.lean). -/
def FnParseMetadataMessageMatchesGrammarFormAsk : Prop := fnParseMetadataMessageMatchesGrammarRow.holds Tryf.pinned (OpenSpec.ofChange fnParseMetadataMessageMatchesGrammarSpec)

/-- ITS FALSE NEIGHBOUR: 'it returns false'. Refute it at one input. -/
def fnParseMetadataMessageMatchesGrammarWrong : ChangeSpec := { name := "fnParseMetadataMessageMatchesGrammar", fn := fun _ => fun
  | [d] => { results := [.lit (.bool false)], args := [d] }
  | _ => none }
def FnParseMetadataMessageMatchesGrammarWrongFormAsk : Prop := fnParseMetadataMessageMatchesGrammarRow.holds Tryf.pinned (OpenSpec.ofChange fnParseMetadataMessageMatchesGrammarWrong)

/-- 'zzlaws_internal_peerwire_b1.FnParseMetadataMessageKeyOrderFree': WHATEVER THE INPUT: true; the input reads as it did. -/
def fnParseMetadataMessageKeyOrderFreeSpec : ChangeSpec := { name := "fnParseMetadataMessageKeyOrderFree", fn := fun _ => fun
  | [d1, d2, d3, d4, d5, d6] => { results := [.lit (.bool true)], args := [d1, d2, d3, d4, d5, d6] }
  | _ => none }
def fnParseMetadataMessageKeyOrderFreeRow : OpenClaim := { program := "qxb6615960afmt", sum := "6da7fb6547a7345c04483cb314b74ecca5826d0eca954a2a970d8cd4f35895e3", func := "example.com/swarmwright/swarmwright/zzlaws_internal_peerwire_b1.FnParseMetadataMessageKeyOrderFree", spec := "fnParseMetadataMessageKeyOrderFree", stops := ["fmt.errorf"], inPlace := ["fmt.errorf"], recurses := true, apart := false }
/-- NO THEOREM (fmt's text is open here; it may be false): for the released tool's asking of the row's closed facts alone. THE STATEMENT IS 'FnParseMetadataMessageKeyOrderFreeToldSaid' (Qxb6615960aFmtCards.lean). -/
def FnParseMetadataMessageKeyOrderFreeFormAsk : Prop := fnParseMetadataMessageKeyOrderFreeRow.holds Tryf.pinned (OpenSpec.ofChange fnParseMetadataMessageKeyOrderFreeSpec)

/-- ITS FALSE NEIGHBOUR: 'it returns false'. Refute it at one input. -/
def fnParseMetadataMessageKeyOrderFreeWrong : ChangeSpec := { name := "fnParseMetadataMessageKeyOrderFree", fn := fun _ => fun
  | [d1, d2, d3, d4, d5, d6] => { results := [.lit (.bool false)], args := [d1, d2, d3, d4, d5, d6] }
  | _ => none }
def FnParseMetadataMessageKeyOrderFreeWrongFormAsk : Prop := fnParseMetadataMessageKeyOrderFreeRow.holds Tryf.pinned (OpenSpec.ofChange fnParseMetadataMessageKeyOrderFreeWrong)

/-- 'zzlaws_internal_peerwire_b1.FnReadHandshakeReadsExactlyItsOwnBytes': WHATEVER THE INPUT: true; the input reads as it did. -/
def fnReadHandshakeReadsExactlyItsOwnBytesSpec : ChangeSpec := { name := "fnReadHandshakeReadsExactlyItsOwnBytes", fn := fun _ => fun
  | [d1, d2] => { results := [.lit (.bool true)], args := [d1, d2] }
  | _ => none }
def fnReadHandshakeReadsExactlyItsOwnBytesRow : OpenClaim := { program := "qxb6615960afmt", sum := "6da7fb6547a7345c04483cb314b74ecca5826d0eca954a2a970d8cd4f35895e3", func := "example.com/swarmwright/swarmwright/zzlaws_internal_peerwire_b1.FnReadHandshakeReadsExactlyItsOwnBytes", spec := "fnReadHandshakeReadsExactlyItsOwnBytes", stops := ["fmt.errorf"], inPlace := ["fmt.errorf"], unfollowed := true, recurses := true, named := ["io.ErrShortBuffer", "io.EOF", "io.ErrUnexpectedEOF"], apart := false, laid := [("io.ErrShortBuffer", laid_io_ErrShortBuffer), ("io.EOF", laid_io_EOF), ("io.ErrUnexpectedEOF", laid_io_ErrUnexpectedEOF)] }
/-- NO THEOREM (fmt's text is open here; it may be false): for the released tool's asking of the row's closed facts alone. THE STATEMENT IS 'FnReadHandshakeReadsExactlyItsOwnBytesToldSaid' (Qxb6615960aFmtCards.lean). -/
def FnReadHandshakeReadsExactlyItsOwnBytesFormAsk : Prop := fnReadHandshakeReadsExactlyItsOwnBytesRow.holds Tryf.pinned (OpenSpec.ofChange fnReadHandshakeReadsExactlyItsOwnBytesSpec)

/-- ITS FALSE NEIGHBOUR: 'it returns false'. Refute it at one input. -/
def fnReadHandshakeReadsExactlyItsOwnBytesWrong : ChangeSpec := { name := "fnReadHandshakeReadsExactlyItsOwnBytes", fn := fun _ => fun
  | [d1, d2] => { results := [.lit (.bool false)], args := [d1, d2] }
  | _ => none }
def FnReadHandshakeReadsExactlyItsOwnBytesWrongFormAsk : Prop := fnReadHandshakeReadsExactlyItsOwnBytesRow.holds Tryf.pinned (OpenSpec.ofChange fnReadHandshakeReadsExactlyItsOwnBytesWrong)

/-- 'zzlaws_internal_peerwire_b1.FnReadHandshakeRefusesAnyOtherHeader': WHATEVER THE INPUT: true; the input reads as it did. -/
def fnReadHandshakeRefusesAnyOtherHeaderSpec : ChangeSpec := { name := "fnReadHandshakeRefusesAnyOtherHeader", fn := fun _ => fun
  | [d1, d2, d3, d4, d5, d6] => { results := [.lit (.bool true)], args := [d1, d2, d3, d4, d5, d6] }
  | _ => none }
def fnReadHandshakeRefusesAnyOtherHeaderRow : OpenClaim := { program := "qxb6615960afmt", sum := "6da7fb6547a7345c04483cb314b74ecca5826d0eca954a2a970d8cd4f35895e3", func := "example.com/swarmwright/swarmwright/zzlaws_internal_peerwire_b1.FnReadHandshakeRefusesAnyOtherHeader", spec := "fnReadHandshakeRefusesAnyOtherHeader", stops := ["fmt.errorf"], inPlace := ["fmt.errorf"], unfollowed := true, recurses := true, named := ["io.ErrShortBuffer", "io.EOF", "io.ErrUnexpectedEOF"], apart := false, laid := [("io.ErrShortBuffer", laid_io_ErrShortBuffer), ("io.EOF", laid_io_EOF), ("io.ErrUnexpectedEOF", laid_io_ErrUnexpectedEOF)] }
/-- NO THEOREM (fmt's text is open here; it may be false): for the released tool's asking of the row's closed facts alone. THE STATEMENT IS 'FnReadHandshakeRefusesAnyOtherHeaderToldSaid' (Qxb6615960aFmtCards.lean). -/
def FnReadHandshakeRefusesAnyOtherHeaderFormAsk : Prop := fnReadHandshakeRefusesAnyOtherHeaderRow.holds Tryf.pinned (OpenSpec.ofChange fnReadHandshakeRefusesAnyOtherHeaderSpec)

/-- ITS FALSE NEIGHBOUR: 'it returns false'. Refute it at one input. -/
def fnReadHandshakeRefusesAnyOtherHeaderWrong : ChangeSpec := { name := "fnReadHandshakeRefusesAnyOtherHeader", fn := fun _ => fun
  | [d1, d2, d3, d4, d5, d6] => { results := [.lit (.bool false)], args := [d1, d2, d3, d4, d5, d6] }
  | _ => none }
def FnReadHandshakeRefusesAnyOtherHeaderWrongFormAsk : Prop := fnReadHandshakeRefusesAnyOtherHeaderRow.holds Tryf.pinned (OpenSpec.ofChange fnReadHandshakeRefusesAnyOtherHeaderWrong)

end Rows
end Go.Proofs.Qxb6615960aFmt
