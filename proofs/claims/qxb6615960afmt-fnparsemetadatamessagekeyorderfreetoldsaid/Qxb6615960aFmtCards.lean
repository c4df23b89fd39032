/-
  DERIVED. GIVEN WITH THE SEED: THE CARDS: each row of Qxb6615960aFmtRows.lean that lists a variable, with what it lists TIED to the program's text (the seventh form; the later family's looks); each row that meets fmt, with fmt's text TOLD by the authors' own Lean function (tested against real Go, not proved from fmt's source: count such statements apart). THE CARD IS WHAT COUNTS. Prove the row's statement (the work); the ties are given (Qxb6615960aFmtTie.lean); close each card by the builder's one call (the guide's Derived/Test/ToyasCard.lean, 'card_holds'). Laid BY PROGRAM, IN A SANDBOX (cutbox-door.mjs). By AI agents, Wed Nov 11 2026. No macro, syntax, notation, axiom, sorry.
-/
import Derived.Test.Qxb6615960aFmtRows
import GoSem.ClaimSeven
namespace Go.Proofs.Qxb6615960aFmt
namespace Rows

/-- THE TOLD CARD OF 'zzlaws_internal_peerwire_b1.FnParseMetadataMessageMatchesGrammar'. -/
def fnParseMetadataMessageMatchesGrammarCard : Claim7 := { stood := { row := fnParseMetadataMessageMatchesGrammarRow, standIns := [], harness := (true, "67ad0983b2f89a775938b2551795591c87534a04180d2726260b0a0f25f1ca66"), looks := true }, told := true, goes := false }
def FnParseMetadataMessageMatchesGrammarToldSaid : Prop := Claim7.holds Tryf.pinned (.plain (OpenSpec.ofChange fnParseMetadataMessageMatchesGrammarSpec)) fnParseMetadataMessageMatchesGrammarCard
/-- ITS FALSE NEIGHBOUR. Refute it at one input. -/
def FnParseMetadataMessageMatchesGrammarToldWrongFalsely : Prop := Claim7.holds Tryf.pinned (.plain (OpenSpec.ofChange fnParseMetadataMessageMatchesGrammarWrong)) fnParseMetadataMessageMatchesGrammarCard

/-- THE TOLD CARD OF 'zzlaws_internal_peerwire_b1.FnParseMetadataMessageKeyOrderFree'. -/
def fnParseMetadataMessageKeyOrderFreeCard : Claim7 := { stood := { row := fnParseMetadataMessageKeyOrderFreeRow, standIns := [], harness := (true, "67ad0983b2f89a775938b2551795591c87534a04180d2726260b0a0f25f1ca66"), looks := true }, told := true, goes := false }
def FnParseMetadataMessageKeyOrderFreeToldSaid : Prop := Claim7.holds Tryf.pinned (.plain (OpenSpec.ofChange fnParseMetadataMessageKeyOrderFreeSpec)) fnParseMetadataMessageKeyOrderFreeCard
/-- ITS FALSE NEIGHBOUR. Refute it at one input. -/
def FnParseMetadataMessageKeyOrderFreeToldWrongFalsely : Prop := Claim7.holds Tryf.pinned (.plain (OpenSpec.ofChange fnParseMetadataMessageKeyOrderFreeWrong)) fnParseMetadataMessageKeyOrderFreeCard

/-- THE TOLD AND TIED CARD OF 'zzlaws_internal_peerwire_b1.FnReadHandshakeReadsExactlyItsOwnBytes'. -/
def fnReadHandshakeReadsExactlyItsOwnBytesCard : Claim7 := { stood := { row := fnReadHandshakeReadsExactlyItsOwnBytesRow, standIns := [], harness := (true, "67ad0983b2f89a775938b2551795591c87534a04180d2726260b0a0f25f1ca66"), looks := true }, told := true, laidByText := true, laidKinds := [.sentinel, .sentinel, .sentinel], laidTests := true, laidLooks := .later, goes := false }
def FnReadHandshakeReadsExactlyItsOwnBytesToldSaid : Prop := Claim7.holds Tryf.pinned (.plain (OpenSpec.ofChange fnReadHandshakeReadsExactlyItsOwnBytesSpec)) fnReadHandshakeReadsExactlyItsOwnBytesCard
/-- ITS FALSE NEIGHBOUR. Refute it at one input. -/
def FnReadHandshakeReadsExactlyItsOwnBytesToldWrongFalsely : Prop := Claim7.holds Tryf.pinned (.plain (OpenSpec.ofChange fnReadHandshakeReadsExactlyItsOwnBytesWrong)) fnReadHandshakeReadsExactlyItsOwnBytesCard

/-- THE TOLD AND TIED CARD OF 'zzlaws_internal_peerwire_b1.FnReadHandshakeRefusesAnyOtherHeader'. -/
def fnReadHandshakeRefusesAnyOtherHeaderCard : Claim7 := { stood := { row := fnReadHandshakeRefusesAnyOtherHeaderRow, standIns := [], harness := (true, "67ad0983b2f89a775938b2551795591c87534a04180d2726260b0a0f25f1ca66"), looks := true }, told := true, laidByText := true, laidKinds := [.sentinel, .sentinel, .sentinel], laidTests := true, laidLooks := .later, goes := false }
def FnReadHandshakeRefusesAnyOtherHeaderToldSaid : Prop := Claim7.holds Tryf.pinned (.plain (OpenSpec.ofChange fnReadHandshakeRefusesAnyOtherHeaderSpec)) fnReadHandshakeRefusesAnyOtherHeaderCard
/-- ITS FALSE NEIGHBOUR. Refute it at one input. -/
def FnReadHandshakeRefusesAnyOtherHeaderToldWrongFalsely : Prop := Claim7.holds Tryf.pinned (.plain (OpenSpec.ofChange fnReadHandshakeRefusesAnyOtherHeaderWrong)) fnReadHandshakeRefusesAnyOtherHeaderCard
end Rows
end Go.Proofs.Qxb6615960aFmt
