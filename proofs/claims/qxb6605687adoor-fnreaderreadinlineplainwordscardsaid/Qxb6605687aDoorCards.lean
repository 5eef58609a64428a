/-
  DERIVED. GIVEN WITH THE SEED: THE CARDS: each row of Qxb6605687aDoorRows.lean that lists a variable, with what it lists TIED to the program's text (the seventh form; the later family's looks); each row that meets fmt, with fmt's text TOLD by the authors' own Lean function (tested against real Go, not proved from fmt's source: count such statements apart). THE CARD IS WHAT COUNTS. Prove the row's statement (the work); the ties are given (Qxb6605687aDoorTie.lean); close each card by the builder's one call (the guide's Derived/Test/ToyasCard.lean, 'card_holds'). Laid BY PROGRAM, IN A SANDBOX (cutbox-door.mjs). By AI agents, Wed Nov 11 2026. No macro, syntax, notation, axiom, sorry.
-/
import Derived.Test.Qxb6605687aDoorRows
import GoSem.ClaimSeven
namespace Go.Proofs.Qxb6605687aDoor
namespace Rows

/-- THE TIED CARD OF 'zzlaws_pkg_resp_b1.FnWriterResetEmptiesAndCounts'. -/
def fnWriterResetEmptiesAndCountsCard : Claim7 := { stood := { row := fnWriterResetEmptiesAndCountsRow, standIns := [], harness := (true, "c0f85b9cb035df9a89d606028140660756414f550cae8dfd4adea2319ca90405"), looks := true }, kinds := [], alts := [], laidByText := true, laidKinds := [.data, .data, .data], laidTests := true, laidLooks := .later }
def FnWriterResetEmptiesAndCountsCardSaid : Prop := Claim7.holds Tryd.pinned (.plain (OpenSpec.ofChange fnWriterResetEmptiesAndCountsSpec)) fnWriterResetEmptiesAndCountsCard

/-- THE TIED CARD OF 'zzlaws_pkg_resp_b1.FnWriterWriteFloatExactReply'. -/
def fnWriterWriteFloatExactReplyCard : Claim7 := { stood := { row := fnWriterWriteFloatExactReplyRow, standIns := [], harness := (true, "c0f85b9cb035df9a89d606028140660756414f550cae8dfd4adea2319ca90405"), looks := true }, kinds := [], alts := [], laidByText := true, laidKinds := [.data, .data, .data, .data, .pinned, .pinned], laidTests := true, laidLooks := .later }
def FnWriterWriteFloatExactReplyCardSaid : Prop := Claim7.holds Tryd.pinned (.plain (OpenSpec.ofChange fnWriterWriteFloatExactReplySpec)) fnWriterWriteFloatExactReplyCard

/-- THE TIED CARD OF 'zzlaws_pkg_resp_b1.FnWriterWriteFloatProtocolsAgree'. -/
def fnWriterWriteFloatProtocolsAgreeCard : Claim7 := { stood := { row := fnWriterWriteFloatProtocolsAgreeRow, standIns := [], harness := (true, "c0f85b9cb035df9a89d606028140660756414f550cae8dfd4adea2319ca90405"), looks := true }, kinds := [], alts := [], laidByText := true, laidKinds := [.data, .data, .data, .data, .pinned, .pinned], laidTests := true, laidLooks := .later }
def FnWriterWriteFloatProtocolsAgreeCardSaid : Prop := Claim7.holds Tryd.pinned (.plain (OpenSpec.ofChange fnWriterWriteFloatProtocolsAgreeSpec)) fnWriterWriteFloatProtocolsAgreeCard

/-- THE TIED CARD OF 'zzlaws_pkg_resp_b1.FnReaderOffsetAfterOneLine'. -/
def fnReaderOffsetAfterOneLineCard : Claim7 := { stood := { row := fnReaderOffsetAfterOneLineRow, standIns := [], harness := (true, "c0f85b9cb035df9a89d606028140660756414f550cae8dfd4adea2319ca90405"), looks := true }, kinds := [], alts := [], laidByText := true, laidKinds := [.sentinel, .sentinel, .sentinel, .sentinel, .sentinel], laidTests := true, laidLooks := .later }
def FnReaderOffsetAfterOneLineCardSaid : Prop := Claim7.holds Tryd.pinned (.plain (OpenSpec.ofChange fnReaderOffsetAfterOneLineSpec)) fnReaderOffsetAfterOneLineCard

/-- THE TIED CARD OF 'zzlaws_pkg_resp_b1.FnReaderOffsetScript'. -/
def fnReaderOffsetScriptCard : Claim7 := { stood := { row := fnReaderOffsetScriptRow, standIns := [], harness := (true, "c0f85b9cb035df9a89d606028140660756414f550cae8dfd4adea2319ca90405"), looks := true }, kinds := [], alts := [], laidByText := true, laidKinds := [.sentinel, .sentinel, .sentinel, .sentinel, .sentinel], laidTests := true, laidLooks := .later }
def FnReaderOffsetScriptCardSaid : Prop := Claim7.holds Tryd.pinned (.plain (OpenSpec.ofChange fnReaderOffsetScriptSpec)) fnReaderOffsetScriptCard

/-- THE TIED CARD OF 'zzlaws_pkg_resp_b1.FnReaderReadInlineQuotedRoundTrip'. -/
def fnReaderReadInlineQuotedRoundTripCard : Claim7 := { stood := { row := fnReaderReadInlineQuotedRoundTripRow, standIns := [], harness := (true, "c0f85b9cb035df9a89d606028140660756414f550cae8dfd4adea2319ca90405"), looks := true }, kinds := [], alts := [], laidByText := true, laidKinds := [.sentinel, .sentinel, .sentinel, .sentinel, .sentinel], laidTests := true, laidLooks := .later }
def FnReaderReadInlineQuotedRoundTripCardSaid : Prop := Claim7.holds Tryd.pinned (.plain (OpenSpec.ofChange fnReaderReadInlineQuotedRoundTripSpec)) fnReaderReadInlineQuotedRoundTripCard

/-- THE TIED CARD OF 'zzlaws_pkg_resp_b1.FnReaderReadInlinePlainWords'. -/
def fnReaderReadInlinePlainWordsCard : Claim7 := { stood := { row := fnReaderReadInlinePlainWordsRow, standIns := [], harness := (true, "c0f85b9cb035df9a89d606028140660756414f550cae8dfd4adea2319ca90405"), looks := true }, kinds := [], alts := [], laidByText := true, laidKinds := [.sentinel, .sentinel, .sentinel, .sentinel, .sentinel], laidTests := true, laidLooks := .later }
def FnReaderReadInlinePlainWordsCardSaid : Prop := Claim7.holds Tryd.pinned (.plain (OpenSpec.ofChange fnReaderReadInlinePlainWordsSpec)) fnReaderReadInlinePlainWordsCard
end Rows
end Go.Proofs.Qxb6605687aDoor
