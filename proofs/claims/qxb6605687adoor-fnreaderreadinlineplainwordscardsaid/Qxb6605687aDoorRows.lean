/-
  NARROWER THAN 'FOR EVERY INPUT', by the rows' own cells (each row's printed sentence says how): FnWriterResetEmptiesAndCounts: laid · FnWriterWriteFloatExactReply: laid · FnWriterWriteFloatProtocolsAgree: laid · FnReaderOffsetAfterOneLine: laid · FnReaderOffsetScript: laid · FnReaderReadInlineQuotedRoundTrip: laid · FnReaderReadInlinePlainWords: laid.
  DERIVED. THE GIVEN ROWS OF THIS SEAT. 7 by the template 'for every input the law returns true; each argument reads behind the call as it read before'; 0 by the template 'total and deterministic' (their statements: Qxb6605687aDoorTotals.lean).
  GIVEN WITH THE SEED: the statements are not yours to turn. If you find one false, say at which input.
  Laid BY PROGRAM, IN A SANDBOX (cutbox-rows.mjs): the forced cells as the released guide's own fill.sh prints them over the translation 6d82579f23bfba8f… (all of the seat's roots in one cut). By AI agents, Wed Nov 11 2026. No macro, syntax, notation, axiom, sorry.
-/
import Derived.Test.Qxb6605687aDoorChecked
import GoSem.PinnedTables
import GoSem.Claim
import GoSem.ClaimJoined
import GoSem.ClaimMapViews
import Derived.JoinedTies
import Derived.KernelRfl
namespace Go.Proofs.Qxb6605687aDoor
/- THE CELL 'sum', in the pinned program and in every row, IS THE sha256 OF THE DUMP (.gsa) THAT Qxb6605687aDoorProg.lean LOADS. Nothing in Lean hashes anything: it is a label: what it is worth is what the hold of that sum in a sandbox is worth. -/
noncomputable def Tryd.pinned : Pinned := { name := "qxb6605687adoor", sum := "6d82579f23bfba8f01ca4ddd8eaf144eb9afbc2f804bc5b2d93e704634c71295", checked := Tryd.checked }
namespace Rows
def none {H : Type} : Left H := { results := [], args := [] }

/- WHAT THE LISTED PACKAGE-LEVEL VARIABLES READ AS WHEN THE CALL BEGINS. Each datum BY PROGRAM (the guide's laid-datum.mjs) off the statement by which the dump's own 'gosem.cut.vars' lays the variable. In a bare row this is a premise. The card (Qxb6605687aDoorCards.lean) ties it to the program's text. -/
def laid_math_bits_deBruijn32tab {H : Type} : DataW H := .agg [.lit (.int .u8 0), .lit (.int .u8 1), .lit (.int .u8 28), .lit (.int .u8 2), .lit (.int .u8 29), .lit (.int .u8 14), .lit (.int .u8 24), .lit (.int .u8 3), .lit (.int .u8 30), .lit (.int .u8 22), .lit (.int .u8 20), .lit (.int .u8 15), .lit (.int .u8 25), .lit (.int .u8 17), .lit (.int .u8 4), .lit (.int .u8 8), .lit (.int .u8 31), .lit (.int .u8 27), .lit (.int .u8 13), .lit (.int .u8 23), .lit (.int .u8 21), .lit (.int .u8 19), .lit (.int .u8 16), .lit (.int .u8 7), .lit (.int .u8 26), .lit (.int .u8 12), .lit (.int .u8 18), .lit (.int .u8 6), .lit (.int .u8 11), .lit (.int .u8 5), .lit (.int .u8 10), .lit (.int .u8 9)]
def laid_math_bits_deBruijn64tab {H : Type} : DataW H := .agg [.lit (.int .u8 0), .lit (.int .u8 1), .lit (.int .u8 56), .lit (.int .u8 2), .lit (.int .u8 57), .lit (.int .u8 49), .lit (.int .u8 28), .lit (.int .u8 3), .lit (.int .u8 61), .lit (.int .u8 58), .lit (.int .u8 42), .lit (.int .u8 50), .lit (.int .u8 38), .lit (.int .u8 29), .lit (.int .u8 17), .lit (.int .u8 4), .lit (.int .u8 62), .lit (.int .u8 47), .lit (.int .u8 59), .lit (.int .u8 36), .lit (.int .u8 45), .lit (.int .u8 43), .lit (.int .u8 51), .lit (.int .u8 22), .lit (.int .u8 53), .lit (.int .u8 39), .lit (.int .u8 33), .lit (.int .u8 30), .lit (.int .u8 24), .lit (.int .u8 18), .lit (.int .u8 12), .lit (.int .u8 5), .lit (.int .u8 63), .lit (.int .u8 55), .lit (.int .u8 48), .lit (.int .u8 27), .lit (.int .u8 60), .lit (.int .u8 41), .lit (.int .u8 37), .lit (.int .u8 16), .lit (.int .u8 46), .lit (.int .u8 35), .lit (.int .u8 44), .lit (.int .u8 21), .lit (.int .u8 52), .lit (.int .u8 32), .lit (.int .u8 23), .lit (.int .u8 11), .lit (.int .u8 54), .lit (.int .u8 26), .lit (.int .u8 40), .lit (.int .u8 15), .lit (.int .u8 34), .lit (.int .u8 20), .lit (.int .u8 31), .lit (.int .u8 10), .lit (.int .u8 25), .lit (.int .u8 14), .lit (.int .u8 19), .lit (.int .u8 9), .lit (.int .u8 13), .lit (.int .u8 8), .lit (.int .u8 7), .lit (.int .u8 6)]
def laid_internal_strconv_uint64pow10 {H : Type} : DataW H := .agg [.lit (.int .u64 1), .lit (.int .u64 10), .lit (.int .u64 100), .lit (.int .u64 1000), .lit (.int .u64 10000), .lit (.int .u64 100000), .lit (.int .u64 1000000), .lit (.int .u64 10000000), .lit (.int .u64 100000000), .lit (.int .u64 1000000000), .lit (.int .u64 10000000000), .lit (.int .u64 100000000000), .lit (.int .u64 1000000000000), .lit (.int .u64 10000000000000), .lit (.int .u64 100000000000000), .lit (.int .u64 1000000000000000), .lit (.int .u64 10000000000000000), .lit (.int .u64 100000000000000000), .lit (.int .u64 1000000000000000000), .lit (.int .u64 10000000000000000000)]
def laid_internal_strconv_optimize {H : Type} : DataW H := .lit (.bool true)
/-- One of Go's own tables, pinned by name: the form's constant. -/
def laid_internal_strconv_leftcheats : DataW Unit := Go.Pinned.leftcheats
/-- One of Go's own tables, pinned by name: the form's constant. -/
def laid_internal_strconv_pow10Tab : DataW Unit := Go.Pinned.pow10Tab
def laid_io_EOF {H : Type} : DataW H := .iface "*errors.errorString" (.ptr (.agg [.lit (.string [69, 79, 70])]))
def laid_io_ErrUnexpectedEOF {H : Type} : DataW H := .iface "*errors.errorString" (.ptr (.agg [.lit (.string [117, 110, 101, 120, 112, 101, 99, 116, 101, 100, 32, 69, 79, 70])]))
def laid_io_ErrNoProgress {H : Type} : DataW H := .iface "*errors.errorString" (.ptr (.agg [.lit (.string [109, 117, 108, 116, 105, 112, 108, 101, 32, 82, 101, 97, 100, 32, 99, 97, 108, 108, 115, 32, 114, 101, 116, 117, 114, 110, 32, 110, 111, 32, 100, 97, 116, 97, 32, 111, 114, 32, 101, 114, 114, 111, 114])]))
def laid_bufio_ErrBufferFull {H : Type} : DataW H := .iface "*errors.errorString" (.ptr (.agg [.lit (.string [98, 117, 102, 105, 111, 58, 32, 98, 117, 102, 102, 101, 114, 32, 102, 117, 108, 108])]))
def laid_bufio_errNegativeRead {H : Type} : DataW H := .iface "*errors.errorString" (.ptr (.agg [.lit (.string [98, 117, 102, 105, 111, 58, 32, 114, 101, 97, 100, 101, 114, 32, 114, 101, 116, 117, 114, 110, 101, 100, 32, 110, 101, 103, 97, 116, 105, 118, 101, 32, 99, 111, 117, 110, 116, 32, 102, 114, 111, 109, 32, 82, 101, 97, 100])]))

/-- 'zzlaws_pkg_resp_b1.FnWriterResetEmptiesAndCounts': WHATEVER THE INPUT: true; the input reads as it did. -/
def fnWriterResetEmptiesAndCountsSpec : ChangeSpec := { name := "fnWriterResetEmptiesAndCounts", fn := fun _ => fun
  | [d1, d2, d3] => { results := [.lit (.bool true)], args := [d1, d2, d3] }
  | _ => none }
def fnWriterResetEmptiesAndCountsRow : OpenClaim := { program := "qxb6605687adoor", sum := "6d82579f23bfba8f01ca4ddd8eaf144eb9afbc2f804bc5b2d93e704634c71295", func := "example.com/hopscore/hopscore/zzlaws_pkg_resp_b1.FnWriterResetEmptiesAndCounts", spec := "fnWriterResetEmptiesAndCounts", unfollowed := true, recurses := true, named := ["internal/strconv.uint64pow10", "math/bits.deBruijn32tab", "math/bits.deBruijn64tab"], apart := false, laid := [("math/bits.deBruijn32tab", laid_math_bits_deBruijn32tab), ("math/bits.deBruijn64tab", laid_math_bits_deBruijn64tab), ("internal/strconv.uint64pow10", laid_internal_strconv_uint64pow10)] }
def FnWriterResetEmptiesAndCountsSaid : Prop := fnWriterResetEmptiesAndCountsRow.holds Tryd.pinned (OpenSpec.ofChange fnWriterResetEmptiesAndCountsSpec)

/-- ITS FALSE NEIGHBOUR: 'it returns false'. Refute it at one input. -/
def fnWriterResetEmptiesAndCountsWrong : ChangeSpec := { name := "fnWriterResetEmptiesAndCounts", fn := fun _ => fun
  | [d1, d2, d3] => { results := [.lit (.bool false)], args := [d1, d2, d3] }
  | _ => none }
def FnWriterResetEmptiesAndCountsWrongFalsely : Prop := fnWriterResetEmptiesAndCountsRow.holds Tryd.pinned (OpenSpec.ofChange fnWriterResetEmptiesAndCountsWrong)

/-- 'zzlaws_pkg_resp_b1.FnWriterWriteFloatExactReply': WHATEVER THE INPUT: true; the input reads as it did. -/
def fnWriterWriteFloatExactReplySpec : ChangeSpec := { name := "fnWriterWriteFloatExactReply", fn := fun _ => fun
  | [d1, d2, d3] => { results := [.lit (.bool true)], args := [d1, d2, d3] }
  | _ => none }
def fnWriterWriteFloatExactReplyRow : OpenClaim := { program := "qxb6605687adoor", sum := "6d82579f23bfba8f01ca4ddd8eaf144eb9afbc2f804bc5b2d93e704634c71295", func := "example.com/hopscore/hopscore/zzlaws_pkg_resp_b1.FnWriterWriteFloatExactReply", spec := "fnWriterWriteFloatExactReply", inPlace := ["math.Float64bits", "math.Float64frombits", "internal/strconv.float32bits", "internal/strconv.float64bits"], unfollowed := true, recurses := true, named := ["internal/strconv.optimize", "internal/strconv.uint64pow10", "math/bits.deBruijn32tab", "math/bits.deBruijn64tab", "internal/strconv.pow10Tab", "internal/strconv.leftcheats"], apart := false, laid := [("math/bits.deBruijn32tab", laid_math_bits_deBruijn32tab), ("math/bits.deBruijn64tab", laid_math_bits_deBruijn64tab), ("internal/strconv.optimize", laid_internal_strconv_optimize), ("internal/strconv.uint64pow10", laid_internal_strconv_uint64pow10), ("internal/strconv.leftcheats", laid_internal_strconv_leftcheats), ("internal/strconv.pow10Tab", laid_internal_strconv_pow10Tab)] }
def FnWriterWriteFloatExactReplySaid : Prop := fnWriterWriteFloatExactReplyRow.holds Tryd.pinned (OpenSpec.ofChange fnWriterWriteFloatExactReplySpec)

/-- ITS FALSE NEIGHBOUR: 'it returns false'. Refute it at one input. -/
def fnWriterWriteFloatExactReplyWrong : ChangeSpec := { name := "fnWriterWriteFloatExactReply", fn := fun _ => fun
  | [d1, d2, d3] => { results := [.lit (.bool false)], args := [d1, d2, d3] }
  | _ => none }
def FnWriterWriteFloatExactReplyWrongFalsely : Prop := fnWriterWriteFloatExactReplyRow.holds Tryd.pinned (OpenSpec.ofChange fnWriterWriteFloatExactReplyWrong)

/-- 'zzlaws_pkg_resp_b1.FnWriterWriteFloatProtocolsAgree': WHATEVER THE INPUT: true; the input reads as it did. -/
def fnWriterWriteFloatProtocolsAgreeSpec : ChangeSpec := { name := "fnWriterWriteFloatProtocolsAgree", fn := fun _ => fun
  | [d] => { results := [.lit (.bool true)], args := [d] }
  | _ => none }
def fnWriterWriteFloatProtocolsAgreeRow : OpenClaim := { program := "qxb6605687adoor", sum := "6d82579f23bfba8f01ca4ddd8eaf144eb9afbc2f804bc5b2d93e704634c71295", func := "example.com/hopscore/hopscore/zzlaws_pkg_resp_b1.FnWriterWriteFloatProtocolsAgree", spec := "fnWriterWriteFloatProtocolsAgree", inPlace := ["math.Float64bits", "math.Float64frombits", "internal/strconv.float32bits", "internal/strconv.float64bits"], unfollowed := true, recurses := true, named := ["internal/strconv.optimize", "internal/strconv.uint64pow10", "math/bits.deBruijn32tab", "math/bits.deBruijn64tab", "internal/strconv.pow10Tab", "internal/strconv.leftcheats"], apart := false, laid := [("math/bits.deBruijn32tab", laid_math_bits_deBruijn32tab), ("math/bits.deBruijn64tab", laid_math_bits_deBruijn64tab), ("internal/strconv.optimize", laid_internal_strconv_optimize), ("internal/strconv.uint64pow10", laid_internal_strconv_uint64pow10), ("internal/strconv.leftcheats", laid_internal_strconv_leftcheats), ("internal/strconv.pow10Tab", laid_internal_strconv_pow10Tab)] }
def FnWriterWriteFloatProtocolsAgreeSaid : Prop := fnWriterWriteFloatProtocolsAgreeRow.holds Tryd.pinned (OpenSpec.ofChange fnWriterWriteFloatProtocolsAgreeSpec)

/-- ITS FALSE NEIGHBOUR: 'it returns false'. Refute it at one input. -/
def fnWriterWriteFloatProtocolsAgreeWrong : ChangeSpec := { name := "fnWriterWriteFloatProtocolsAgree", fn := fun _ => fun
  | [d] => { results := [.lit (.bool false)], args := [d] }
  | _ => none }
def FnWriterWriteFloatProtocolsAgreeWrongFalsely : Prop := fnWriterWriteFloatProtocolsAgreeRow.holds Tryd.pinned (OpenSpec.ofChange fnWriterWriteFloatProtocolsAgreeWrong)

/-- 'zzlaws_pkg_resp_b1.FnReaderOffsetAfterOneLine': WHATEVER THE INPUT: true; the input reads as it did. -/
def fnReaderOffsetAfterOneLineSpec : ChangeSpec := { name := "fnReaderOffsetAfterOneLine", fn := fun _ => fun
  | [d1, d2] => { results := [.lit (.bool true)], args := [d1, d2] }
  | _ => none }
def fnReaderOffsetAfterOneLineRow : OpenClaim := { program := "qxb6605687adoor", sum := "6d82579f23bfba8f01ca4ddd8eaf144eb9afbc2f804bc5b2d93e704634c71295", func := "example.com/hopscore/hopscore/zzlaws_pkg_resp_b1.FnReaderOffsetAfterOneLine", spec := "fnReaderOffsetAfterOneLine", inPlace := ["internal/bytealg.IndexByte"], unfollowed := true, recurses := true, named := ["bufio.ErrBufferFull", "bufio.errNegativeRead", "io.ErrNoProgress", "io.EOF", "io.ErrUnexpectedEOF"], apart := false, laid := [("io.EOF", laid_io_EOF), ("io.ErrUnexpectedEOF", laid_io_ErrUnexpectedEOF), ("io.ErrNoProgress", laid_io_ErrNoProgress), ("bufio.ErrBufferFull", laid_bufio_ErrBufferFull), ("bufio.errNegativeRead", laid_bufio_errNegativeRead)] }
def FnReaderOffsetAfterOneLineSaid : Prop := fnReaderOffsetAfterOneLineRow.holds Tryd.pinned (OpenSpec.ofChange fnReaderOffsetAfterOneLineSpec)

/-- ITS FALSE NEIGHBOUR: 'it returns false'. Refute it at one input. -/
def fnReaderOffsetAfterOneLineWrong : ChangeSpec := { name := "fnReaderOffsetAfterOneLine", fn := fun _ => fun
  | [d1, d2] => { results := [.lit (.bool false)], args := [d1, d2] }
  | _ => none }
def FnReaderOffsetAfterOneLineWrongFalsely : Prop := fnReaderOffsetAfterOneLineRow.holds Tryd.pinned (OpenSpec.ofChange fnReaderOffsetAfterOneLineWrong)

/-- 'zzlaws_pkg_resp_b1.FnReaderOffsetScript': WHATEVER THE INPUT: true; the input reads as it did. -/
def fnReaderOffsetScriptSpec : ChangeSpec := { name := "fnReaderOffsetScript", fn := fun _ => fun
  | [d1, d2] => { results := [.lit (.bool true)], args := [d1, d2] }
  | _ => none }
def fnReaderOffsetScriptRow : OpenClaim := { program := "qxb6605687adoor", sum := "6d82579f23bfba8f01ca4ddd8eaf144eb9afbc2f804bc5b2d93e704634c71295", func := "example.com/hopscore/hopscore/zzlaws_pkg_resp_b1.FnReaderOffsetScript", spec := "fnReaderOffsetScript", inPlace := ["internal/bytealg.IndexByte"], unfollowed := true, recurses := true, named := ["bufio.ErrBufferFull", "bufio.errNegativeRead", "io.ErrNoProgress", "io.EOF", "io.ErrUnexpectedEOF"], apart := false, laid := [("io.EOF", laid_io_EOF), ("io.ErrUnexpectedEOF", laid_io_ErrUnexpectedEOF), ("io.ErrNoProgress", laid_io_ErrNoProgress), ("bufio.ErrBufferFull", laid_bufio_ErrBufferFull), ("bufio.errNegativeRead", laid_bufio_errNegativeRead)] }
def FnReaderOffsetScriptSaid : Prop := fnReaderOffsetScriptRow.holds Tryd.pinned (OpenSpec.ofChange fnReaderOffsetScriptSpec)

/-- ITS FALSE NEIGHBOUR: 'it returns false'. Refute it at one input. -/
def fnReaderOffsetScriptWrong : ChangeSpec := { name := "fnReaderOffsetScript", fn := fun _ => fun
  | [d1, d2] => { results := [.lit (.bool false)], args := [d1, d2] }
  | _ => none }
def FnReaderOffsetScriptWrongFalsely : Prop := fnReaderOffsetScriptRow.holds Tryd.pinned (OpenSpec.ofChange fnReaderOffsetScriptWrong)

/-- 'zzlaws_pkg_resp_b1.FnReaderReadInlineQuotedRoundTrip': WHATEVER THE INPUT: true; the input reads as it did. -/
def fnReaderReadInlineQuotedRoundTripSpec : ChangeSpec := { name := "fnReaderReadInlineQuotedRoundTrip", fn := fun _ => fun
  | [d] => { results := [.lit (.bool true)], args := [d] }
  | _ => none }
def fnReaderReadInlineQuotedRoundTripRow : OpenClaim := { program := "qxb6605687adoor", sum := "6d82579f23bfba8f01ca4ddd8eaf144eb9afbc2f804bc5b2d93e704634c71295", func := "example.com/hopscore/hopscore/zzlaws_pkg_resp_b1.FnReaderReadInlineQuotedRoundTrip", spec := "fnReaderReadInlineQuotedRoundTrip", inPlace := ["internal/bytealg.IndexByte"], unfollowed := true, recurses := true, named := ["bufio.ErrBufferFull", "bufio.errNegativeRead", "io.ErrNoProgress", "io.EOF", "io.ErrUnexpectedEOF"], apart := false, laid := [("io.EOF", laid_io_EOF), ("io.ErrUnexpectedEOF", laid_io_ErrUnexpectedEOF), ("io.ErrNoProgress", laid_io_ErrNoProgress), ("bufio.ErrBufferFull", laid_bufio_ErrBufferFull), ("bufio.errNegativeRead", laid_bufio_errNegativeRead)] }
def FnReaderReadInlineQuotedRoundTripSaid : Prop := fnReaderReadInlineQuotedRoundTripRow.holds Tryd.pinned (OpenSpec.ofChange fnReaderReadInlineQuotedRoundTripSpec)

/-- ITS FALSE NEIGHBOUR: 'it returns false'. Refute it at one input. -/
def fnReaderReadInlineQuotedRoundTripWrong : ChangeSpec := { name := "fnReaderReadInlineQuotedRoundTrip", fn := fun _ => fun
  | [d] => { results := [.lit (.bool false)], args := [d] }
  | _ => none }
def FnReaderReadInlineQuotedRoundTripWrongFalsely : Prop := fnReaderReadInlineQuotedRoundTripRow.holds Tryd.pinned (OpenSpec.ofChange fnReaderReadInlineQuotedRoundTripWrong)

/-- 'zzlaws_pkg_resp_b1.FnReaderReadInlinePlainWords': WHATEVER THE INPUT: true; the input reads as it did. -/
def fnReaderReadInlinePlainWordsSpec : ChangeSpec := { name := "fnReaderReadInlinePlainWords", fn := fun _ => fun
  | [d1, d2, d3] => { results := [.lit (.bool true)], args := [d1, d2, d3] }
  | _ => none }
def fnReaderReadInlinePlainWordsRow : OpenClaim := { program := "qxb6605687adoor", sum := "6d82579f23bfba8f01ca4ddd8eaf144eb9afbc2f804bc5b2d93e704634c71295", func := "example.com/hopscore/hopscore/zzlaws_pkg_resp_b1.FnReaderReadInlinePlainWords", spec := "fnReaderReadInlinePlainWords", inPlace := ["internal/bytealg.IndexByte"], unfollowed := true, recurses := true, named := ["bufio.ErrBufferFull", "bufio.errNegativeRead", "io.ErrNoProgress", "io.EOF", "io.ErrUnexpectedEOF"], apart := false, laid := [("io.EOF", laid_io_EOF), ("io.ErrUnexpectedEOF", laid_io_ErrUnexpectedEOF), ("io.ErrNoProgress", laid_io_ErrNoProgress), ("bufio.ErrBufferFull", laid_bufio_ErrBufferFull), ("bufio.errNegativeRead", laid_bufio_errNegativeRead)] }
def FnReaderReadInlinePlainWordsSaid : Prop := fnReaderReadInlinePlainWordsRow.holds Tryd.pinned (OpenSpec.ofChange fnReaderReadInlinePlainWordsSpec)

/-- ITS FALSE NEIGHBOUR: 'it returns false'. Refute it at one input. -/
def fnReaderReadInlinePlainWordsWrong : ChangeSpec := { name := "fnReaderReadInlinePlainWords", fn := fun _ => fun
  | [d1, d2, d3] => { results := [.lit (.bool false)], args := [d1, d2, d3] }
  | _ => none }
def FnReaderReadInlinePlainWordsWrongFalsely : Prop := fnReaderReadInlinePlainWordsRow.holds Tryd.pinned (OpenSpec.ofChange fnReaderReadInlinePlainWordsWrong)

end Rows
end Go.Proofs.Qxb6605687aDoor
