/-
  NARROWER THAN 'FOR EVERY INPUT', by the rows' own cells (each row's printed sentence says how): FnHeaderWritten: laid · FnPacketWritten: laid · FnBack: laid · FnPacket: laid · FnReadWrite: laid · FnHeader: laid · FnHeaderRoom: laid · FnCheck: laid · FnGet: laid · FnSteps: laid · FnProfile: laid · FnAudioLevel: laid · FnPlayout: laid · FnBlocks: laid.
  DERIVED. THE GIVEN ROWS OF THIS SEAT. 14 by the template 'for every input the law returns true; each argument reads behind the call as it read before'; 0 by the template 'total and deterministic' (their statements: YtdmnflngafbobaaDoorTotals.lean).
  GIVEN WITH THE SEED: the statements are not yours to turn. If you find one false, say at which input.
  Laid BY PROGRAM, IN A SANDBOX (cutbox-rows.mjs): the forced cells as the released guide's own fill.sh prints them over the translation 679d89f440b32c3c… (all of the seat's roots in one cut). By AI agents, Wed Nov 11 2026. No macro, syntax, notation, axiom, sorry.
-/
import Derived.Test.YtdmnflngafbobaaDoorChecked
import GoSem.Claim
import GoSem.ClaimJoined
import GoSem.ClaimMapViews
import Derived.JoinedTies
import Derived.KernelRfl
namespace Go.Proofs.YtdmnflngafbobaaDoor
/- THE CELL 'sum', in the pinned program and in every row, IS THE sha256 OF THE DUMP (.gsa) THAT YtdmnflngafbobaaDoorProg.lean LOADS. Nothing in Lean hashes anything: it is a label: what it is worth is what the hold of that sum in a sandbox is worth. -/
noncomputable def Tryd.pinned : Pinned := { name := "ytdmnflngafbobaadoor", sum := "679d89f440b32c3c0805af25f3ec14285e2d02fc06d71522d89d0df6fb1295f0", checked := Tryd.checked }
namespace Rows
def none {H : Type} : Left H := { results := [], args := [] }

/- WHAT THE LISTED PACKAGE-LEVEL VARIABLES READ AS WHEN THE CALL BEGINS. Each datum BY PROGRAM (the guide's laid-datum.mjs) off the statement by which the dump's own 'gosem.cut.vars' lays the variable. In a bare row this is a premise. The card (YtdmnflngafbobaaDoorCards.lean) ties it to the program's text. -/
def laid_io_ErrShortBuffer {H : Type} : DataW H := .iface "*errors.errorString" (.ptr (.agg [.lit (.string [115, 104, 111, 114, 116, 32, 98, 117, 102, 102, 101, 114])]))
def laid_rtppackets_pub_rtp_errInvalidRTPPadding {H : Type} : DataW H := .iface "*errors.errorString" (.ptr (.agg [.lit (.string [105, 110, 118, 97, 108, 105, 100, 32, 82, 84, 80, 32, 112, 97, 100, 100, 105, 110, 103])]))
def laid_rtppackets_pub_rtp_errHeaderSizeInsufficient {H : Type} : DataW H := .iface "*errors.errorString" (.ptr (.agg [.lit (.string [82, 84, 80, 32, 104, 101, 97, 100, 101, 114, 32, 115, 105, 122, 101, 32, 105, 110, 115, 117, 102, 102, 105, 99, 105, 101, 110, 116])]))
def laid_rtppackets_pub_rtp_errHeaderSizeInsufficientForExtension {H : Type} : DataW H := .iface "*errors.errorString" (.ptr (.agg [.lit (.string [82, 84, 80, 32, 104, 101, 97, 100, 101, 114, 32, 115, 105, 122, 101, 32, 105, 110, 115, 117, 102, 102, 105, 99, 105, 101, 110, 116, 32, 102, 111, 114, 32, 101, 120, 116, 101, 110, 115, 105, 111, 110])]))
def laid_rtppackets_pub_rtp_errTooSmall {H : Type} : DataW H := .iface "*errors.errorString" (.ptr (.agg [.lit (.string [98, 117, 102, 102, 101, 114, 32, 116, 111, 111, 32, 115, 109, 97, 108, 108])]))
def laid_rtppackets_pub_rtp_errRFC8285OneByteHeaderIDRange {H : Type} : DataW H := .iface "*errors.errorString" (.ptr (.agg [.lit (.string [104, 101, 97, 100, 101, 114, 32, 101, 120, 116, 101, 110, 115, 105, 111, 110, 32, 105, 100, 32, 109, 117, 115, 116, 32, 98, 101, 32, 98, 101, 116, 119, 101, 101, 110, 32, 49, 32, 97, 110, 100, 32, 49, 52, 32, 102, 111, 114, 32, 82, 70, 67, 32, 53, 50, 56, 53, 32, 111, 110, 101, 32, 98, 121, 116, 101, 32, 101, 120, 116, 101, 110, 115, 105, 111, 110, 115])]))
def laid_rtppackets_pub_rtp_errRFC8285OneByteHeaderSize {H : Type} : DataW H := .iface "*errors.errorString" (.ptr (.agg [.lit (.string [104, 101, 97, 100, 101, 114, 32, 101, 120, 116, 101, 110, 115, 105, 111, 110, 32, 112, 97, 121, 108, 111, 97, 100, 32, 109, 117, 115, 116, 32, 98, 101, 32, 49, 54, 98, 121, 116, 101, 115, 32, 111, 114, 32, 108, 101, 115, 115, 32, 102, 111, 114, 32, 82, 70, 67, 32, 53, 50, 56, 53, 32, 111, 110, 101, 32, 98, 121, 116, 101, 32, 101, 120, 116, 101, 110, 115, 105, 111, 110, 115])]))
def laid_rtppackets_pub_rtp_errRFC8285TwoByteHeaderIDRange {H : Type} : DataW H := .iface "*errors.errorString" (.ptr (.agg [.lit (.string [104, 101, 97, 100, 101, 114, 32, 101, 120, 116, 101, 110, 115, 105, 111, 110, 32, 105, 100, 32, 109, 117, 115, 116, 32, 98, 101, 32, 98, 101, 116, 119, 101, 101, 110, 32, 49, 32, 97, 110, 100, 32, 50, 53, 53, 32, 102, 111, 114, 32, 82, 70, 67, 32, 53, 50, 56, 53, 32, 116, 119, 111, 32, 98, 121, 116, 101, 32, 101, 120, 116, 101, 110, 115, 105, 111, 110, 115])]))
def laid_rtppackets_pub_rtp_errRFC8285TwoByteHeaderSize {H : Type} : DataW H := .iface "*errors.errorString" (.ptr (.agg [.lit (.string [104, 101, 97, 100, 101, 114, 32, 101, 120, 116, 101, 110, 115, 105, 111, 110, 32, 112, 97, 121, 108, 111, 97, 100, 32, 109, 117, 115, 116, 32, 98, 101, 32, 50, 53, 53, 98, 121, 116, 101, 115, 32, 111, 114, 32, 108, 101, 115, 115, 32, 102, 111, 114, 32, 82, 70, 67, 32, 53, 50, 56, 53, 32, 116, 119, 111, 32, 98, 121, 116, 101, 32, 101, 120, 116, 101, 110, 115, 105, 111, 110, 115])]))
def laid_rtppackets_pub_rtp_errRFC3550HeaderIDRange {H : Type} : DataW H := .iface "*errors.errorString" (.ptr (.agg [.lit (.string [104, 101, 97, 100, 101, 114, 32, 101, 120, 116, 101, 110, 115, 105, 111, 110, 32, 105, 100, 32, 109, 117, 115, 116, 32, 98, 101, 32, 48, 32, 102, 111, 114, 32, 110, 111, 110, 45, 82, 70, 67, 32, 53, 50, 56, 53, 32, 101, 120, 116, 101, 110, 115, 105, 111, 110, 115])]))
def laid_rtppackets_pub_rtp_errHeaderExtensionsNotEnabled {H : Type} : DataW H := .iface "*errors.errorString" (.ptr (.agg [.lit (.string [104, 46, 69, 120, 116, 101, 110, 115, 105, 111, 110, 32, 110, 111, 116, 32, 101, 110, 97, 98, 108, 101, 100])]))
def laid_rtppackets_pub_rtp_errHeaderExtensionNotFound {H : Type} : DataW H := .iface "*errors.errorString" (.ptr (.agg [.lit (.string [101, 120, 116, 101, 110, 115, 105, 111, 110, 32, 110, 111, 116, 32, 102, 111, 117, 110, 100])]))

/-- 'laws.FnHeaderWritten': WHATEVER THE INPUT: true; the input reads as it did. -/
def fnHeaderWrittenSpec : ChangeSpec := { name := "fnHeaderWritten", fn := fun _ => fun
  | [d] => { results := [.lit (.bool true)], args := [d] }
  | _ => none }
def fnHeaderWrittenRow : OpenClaim := { program := "ytdmnflngafbobaadoor", sum := "679d89f440b32c3c0805af25f3ec14285e2d02fc06d71522d89d0df6fb1295f0", func := "rtppackets/laws.FnHeaderWritten", spec := "fnHeaderWritten", unfollowed := true, recurses := true, named := ["io.ErrShortBuffer"], apart := false, laid := [("io.ErrShortBuffer", laid_io_ErrShortBuffer)] }
def FnHeaderWrittenSaid : Prop := fnHeaderWrittenRow.holds Tryd.pinned (OpenSpec.ofChange fnHeaderWrittenSpec)

/-- ITS FALSE NEIGHBOUR: 'it returns false'. Refute it at one input. -/
def fnHeaderWrittenWrong : ChangeSpec := { name := "fnHeaderWritten", fn := fun _ => fun
  | [d] => { results := [.lit (.bool false)], args := [d] }
  | _ => none }
def FnHeaderWrittenWrongFalsely : Prop := fnHeaderWrittenRow.holds Tryd.pinned (OpenSpec.ofChange fnHeaderWrittenWrong)

/-- 'laws.FnPacketWritten': WHATEVER THE INPUT: true; the input reads as it did. -/
def fnPacketWrittenSpec : ChangeSpec := { name := "fnPacketWritten", fn := fun _ => fun
  | [d1, d2] => { results := [.lit (.bool true)], args := [d1, d2] }
  | _ => none }
def fnPacketWrittenRow : OpenClaim := { program := "ytdmnflngafbobaadoor", sum := "679d89f440b32c3c0805af25f3ec14285e2d02fc06d71522d89d0df6fb1295f0", func := "rtppackets/laws.FnPacketWritten", spec := "fnPacketWritten", unfollowed := true, recurses := true, named := ["rtppackets/pub/rtp.errInvalidRTPPadding", "io.ErrShortBuffer"], apart := false, laid := [("io.ErrShortBuffer", laid_io_ErrShortBuffer), ("rtppackets/pub/rtp.errInvalidRTPPadding", laid_rtppackets_pub_rtp_errInvalidRTPPadding)] }
def FnPacketWrittenSaid : Prop := fnPacketWrittenRow.holds Tryd.pinned (OpenSpec.ofChange fnPacketWrittenSpec)

/-- ITS FALSE NEIGHBOUR: 'it returns false'. Refute it at one input. -/
def fnPacketWrittenWrong : ChangeSpec := { name := "fnPacketWritten", fn := fun _ => fun
  | [d1, d2] => { results := [.lit (.bool false)], args := [d1, d2] }
  | _ => none }
def FnPacketWrittenWrongFalsely : Prop := fnPacketWrittenRow.holds Tryd.pinned (OpenSpec.ofChange fnPacketWrittenWrong)

/-- 'laws.FnBack': WHATEVER THE INPUT: true; the input reads as it did. -/
def fnBackSpec : ChangeSpec := { name := "fnBack", fn := fun _ => fun
  | [d1, d2] => { results := [.lit (.bool true)], args := [d1, d2] }
  | _ => none }
def fnBackRow : OpenClaim := { program := "ytdmnflngafbobaadoor", sum := "679d89f440b32c3c0805af25f3ec14285e2d02fc06d71522d89d0df6fb1295f0", func := "rtppackets/laws.FnBack", spec := "fnBack", unfollowed := true, recurses := true, named := ["rtppackets/pub/rtp.errInvalidRTPPadding", "io.ErrShortBuffer", "rtppackets/pub/rtp.errTooSmall", "rtppackets/pub/rtp.errHeaderSizeInsufficient", "rtppackets/pub/rtp.errHeaderSizeInsufficientForExtension"], apart := false, laid := [("io.ErrShortBuffer", laid_io_ErrShortBuffer), ("rtppackets/pub/rtp.errHeaderSizeInsufficient", laid_rtppackets_pub_rtp_errHeaderSizeInsufficient), ("rtppackets/pub/rtp.errHeaderSizeInsufficientForExtension", laid_rtppackets_pub_rtp_errHeaderSizeInsufficientForExtension), ("rtppackets/pub/rtp.errTooSmall", laid_rtppackets_pub_rtp_errTooSmall), ("rtppackets/pub/rtp.errInvalidRTPPadding", laid_rtppackets_pub_rtp_errInvalidRTPPadding)] }
def FnBackSaid : Prop := fnBackRow.holds Tryd.pinned (OpenSpec.ofChange fnBackSpec)

/-- ITS FALSE NEIGHBOUR: 'it returns false'. Refute it at one input. -/
def fnBackWrong : ChangeSpec := { name := "fnBack", fn := fun _ => fun
  | [d1, d2] => { results := [.lit (.bool false)], args := [d1, d2] }
  | _ => none }
def FnBackWrongFalsely : Prop := fnBackRow.holds Tryd.pinned (OpenSpec.ofChange fnBackWrong)

/-- 'laws.FnPacket': WHATEVER THE INPUT: true; the input reads as it did. -/
def fnPacketSpec : ChangeSpec := { name := "fnPacket", fn := fun _ => fun
  | [d] => { results := [.lit (.bool true)], args := [d] }
  | _ => none }
def fnPacketRow : OpenClaim := { program := "ytdmnflngafbobaadoor", sum := "679d89f440b32c3c0805af25f3ec14285e2d02fc06d71522d89d0df6fb1295f0", func := "rtppackets/laws.FnPacket", spec := "fnPacket", unfollowed := true, recurses := true, named := ["rtppackets/pub/rtp.errTooSmall", "rtppackets/pub/rtp.errInvalidRTPPadding", "rtppackets/pub/rtp.errHeaderSizeInsufficient", "rtppackets/pub/rtp.errHeaderSizeInsufficientForExtension", "io.ErrShortBuffer"], apart := false, laid := [("io.ErrShortBuffer", laid_io_ErrShortBuffer), ("rtppackets/pub/rtp.errHeaderSizeInsufficient", laid_rtppackets_pub_rtp_errHeaderSizeInsufficient), ("rtppackets/pub/rtp.errHeaderSizeInsufficientForExtension", laid_rtppackets_pub_rtp_errHeaderSizeInsufficientForExtension), ("rtppackets/pub/rtp.errTooSmall", laid_rtppackets_pub_rtp_errTooSmall), ("rtppackets/pub/rtp.errInvalidRTPPadding", laid_rtppackets_pub_rtp_errInvalidRTPPadding)] }
def FnPacketSaid : Prop := fnPacketRow.holds Tryd.pinned (OpenSpec.ofChange fnPacketSpec)

/-- ITS FALSE NEIGHBOUR: 'it returns false'. Refute it at one input. -/
def fnPacketWrong : ChangeSpec := { name := "fnPacket", fn := fun _ => fun
  | [d] => { results := [.lit (.bool false)], args := [d] }
  | _ => none }
def FnPacketWrongFalsely : Prop := fnPacketRow.holds Tryd.pinned (OpenSpec.ofChange fnPacketWrong)

/-- 'laws.FnReadWrite': WHATEVER THE INPUT: true; the input reads as it did. -/
def fnReadWriteSpec : ChangeSpec := { name := "fnReadWrite", fn := fun _ => fun
  | [d] => { results := [.lit (.bool true)], args := [d] }
  | _ => none }
def fnReadWriteRow : OpenClaim := { program := "ytdmnflngafbobaadoor", sum := "679d89f440b32c3c0805af25f3ec14285e2d02fc06d71522d89d0df6fb1295f0", func := "rtppackets/laws.FnReadWrite", spec := "fnReadWrite", unfollowed := true, recurses := true, named := ["rtppackets/pub/rtp.errTooSmall", "rtppackets/pub/rtp.errInvalidRTPPadding", "rtppackets/pub/rtp.errHeaderSizeInsufficient", "rtppackets/pub/rtp.errHeaderSizeInsufficientForExtension", "io.ErrShortBuffer"], apart := false, laid := [("io.ErrShortBuffer", laid_io_ErrShortBuffer), ("rtppackets/pub/rtp.errHeaderSizeInsufficient", laid_rtppackets_pub_rtp_errHeaderSizeInsufficient), ("rtppackets/pub/rtp.errHeaderSizeInsufficientForExtension", laid_rtppackets_pub_rtp_errHeaderSizeInsufficientForExtension), ("rtppackets/pub/rtp.errTooSmall", laid_rtppackets_pub_rtp_errTooSmall), ("rtppackets/pub/rtp.errInvalidRTPPadding", laid_rtppackets_pub_rtp_errInvalidRTPPadding)] }
def FnReadWriteSaid : Prop := fnReadWriteRow.holds Tryd.pinned (OpenSpec.ofChange fnReadWriteSpec)

/-- ITS FALSE NEIGHBOUR: 'it returns false'. Refute it at one input. -/
def fnReadWriteWrong : ChangeSpec := { name := "fnReadWrite", fn := fun _ => fun
  | [d] => { results := [.lit (.bool false)], args := [d] }
  | _ => none }
def FnReadWriteWrongFalsely : Prop := fnReadWriteRow.holds Tryd.pinned (OpenSpec.ofChange fnReadWriteWrong)

/-- 'laws.FnHeader': WHATEVER THE INPUT: true; the input reads as it did. -/
def fnHeaderSpec : ChangeSpec := { name := "fnHeader", fn := fun _ => fun
  | [d] => { results := [.lit (.bool true)], args := [d] }
  | _ => none }
def fnHeaderRow : OpenClaim := { program := "ytdmnflngafbobaadoor", sum := "679d89f440b32c3c0805af25f3ec14285e2d02fc06d71522d89d0df6fb1295f0", func := "rtppackets/laws.FnHeader", spec := "fnHeader", unfollowed := true, recurses := true, named := ["rtppackets/pub/rtp.errHeaderSizeInsufficient", "rtppackets/pub/rtp.errHeaderSizeInsufficientForExtension", "rtppackets/pub/rtp.errInvalidRTPPadding", "io.ErrShortBuffer", "rtppackets/pub/rtp.errTooSmall"], apart := false, laid := [("io.ErrShortBuffer", laid_io_ErrShortBuffer), ("rtppackets/pub/rtp.errHeaderSizeInsufficient", laid_rtppackets_pub_rtp_errHeaderSizeInsufficient), ("rtppackets/pub/rtp.errHeaderSizeInsufficientForExtension", laid_rtppackets_pub_rtp_errHeaderSizeInsufficientForExtension), ("rtppackets/pub/rtp.errTooSmall", laid_rtppackets_pub_rtp_errTooSmall), ("rtppackets/pub/rtp.errInvalidRTPPadding", laid_rtppackets_pub_rtp_errInvalidRTPPadding)] }
def FnHeaderSaid : Prop := fnHeaderRow.holds Tryd.pinned (OpenSpec.ofChange fnHeaderSpec)

/-- ITS FALSE NEIGHBOUR: 'it returns false'. Refute it at one input. -/
def fnHeaderWrong : ChangeSpec := { name := "fnHeader", fn := fun _ => fun
  | [d] => { results := [.lit (.bool false)], args := [d] }
  | _ => none }
def FnHeaderWrongFalsely : Prop := fnHeaderRow.holds Tryd.pinned (OpenSpec.ofChange fnHeaderWrong)

/-- 'laws.FnHeaderRoom': WHATEVER THE INPUT: true; the input reads as it did. -/
def fnHeaderRoomSpec : ChangeSpec := { name := "fnHeaderRoom", fn := fun _ => fun
  | [d1, d2] => { results := [.lit (.bool true)], args := [d1, d2] }
  | _ => none }
def fnHeaderRoomRow : OpenClaim := { program := "ytdmnflngafbobaadoor", sum := "679d89f440b32c3c0805af25f3ec14285e2d02fc06d71522d89d0df6fb1295f0", func := "rtppackets/laws.FnHeaderRoom", spec := "fnHeaderRoom", unfollowed := true, recurses := true, named := ["io.ErrShortBuffer", "rtppackets/pub/rtp.errInvalidRTPPadding", "rtppackets/pub/rtp.errTooSmall", "rtppackets/pub/rtp.errHeaderSizeInsufficient", "rtppackets/pub/rtp.errHeaderSizeInsufficientForExtension"], apart := false, laid := [("io.ErrShortBuffer", laid_io_ErrShortBuffer), ("rtppackets/pub/rtp.errHeaderSizeInsufficient", laid_rtppackets_pub_rtp_errHeaderSizeInsufficient), ("rtppackets/pub/rtp.errHeaderSizeInsufficientForExtension", laid_rtppackets_pub_rtp_errHeaderSizeInsufficientForExtension), ("rtppackets/pub/rtp.errTooSmall", laid_rtppackets_pub_rtp_errTooSmall), ("rtppackets/pub/rtp.errInvalidRTPPadding", laid_rtppackets_pub_rtp_errInvalidRTPPadding)] }
def FnHeaderRoomSaid : Prop := fnHeaderRoomRow.holds Tryd.pinned (OpenSpec.ofChange fnHeaderRoomSpec)

/-- ITS FALSE NEIGHBOUR: 'it returns false'. Refute it at one input. -/
def fnHeaderRoomWrong : ChangeSpec := { name := "fnHeaderRoom", fn := fun _ => fun
  | [d1, d2] => { results := [.lit (.bool false)], args := [d1, d2] }
  | _ => none }
def FnHeaderRoomWrongFalsely : Prop := fnHeaderRoomRow.holds Tryd.pinned (OpenSpec.ofChange fnHeaderRoomWrong)

/-- 'laws.FnCheck': WHATEVER THE INPUT: true; the input reads as it did. -/
def fnCheckSpec : ChangeSpec := { name := "fnCheck", fn := fun _ => fun
  | [d1, d2, d3] => { results := [.lit (.bool true)], args := [d1, d2, d3] }
  | _ => none }
def fnCheckRow : OpenClaim := { program := "ytdmnflngafbobaadoor", sum := "679d89f440b32c3c0805af25f3ec14285e2d02fc06d71522d89d0df6fb1295f0", func := "rtppackets/laws.FnCheck", spec := "fnCheck", unfollowed := true, recurses := true, named := ["rtppackets/pub/rtp.errRFC8285OneByteHeaderIDRange", "rtppackets/pub/rtp.errRFC8285OneByteHeaderSize", "rtppackets/pub/rtp.errRFC8285TwoByteHeaderIDRange", "rtppackets/pub/rtp.errRFC8285TwoByteHeaderSize", "rtppackets/pub/rtp.errRFC3550HeaderIDRange", "rtppackets/pub/rtp.errInvalidRTPPadding", "io.ErrShortBuffer", "rtppackets/pub/rtp.errTooSmall", "rtppackets/pub/rtp.errHeaderSizeInsufficient", "rtppackets/pub/rtp.errHeaderSizeInsufficientForExtension"], apart := false, laid := [("io.ErrShortBuffer", laid_io_ErrShortBuffer), ("rtppackets/pub/rtp.errHeaderSizeInsufficient", laid_rtppackets_pub_rtp_errHeaderSizeInsufficient), ("rtppackets/pub/rtp.errHeaderSizeInsufficientForExtension", laid_rtppackets_pub_rtp_errHeaderSizeInsufficientForExtension), ("rtppackets/pub/rtp.errTooSmall", laid_rtppackets_pub_rtp_errTooSmall), ("rtppackets/pub/rtp.errRFC8285OneByteHeaderIDRange", laid_rtppackets_pub_rtp_errRFC8285OneByteHeaderIDRange), ("rtppackets/pub/rtp.errRFC8285OneByteHeaderSize", laid_rtppackets_pub_rtp_errRFC8285OneByteHeaderSize), ("rtppackets/pub/rtp.errRFC8285TwoByteHeaderIDRange", laid_rtppackets_pub_rtp_errRFC8285TwoByteHeaderIDRange), ("rtppackets/pub/rtp.errRFC8285TwoByteHeaderSize", laid_rtppackets_pub_rtp_errRFC8285TwoByteHeaderSize), ("rtppackets/pub/rtp.errRFC3550HeaderIDRange", laid_rtppackets_pub_rtp_errRFC3550HeaderIDRange), ("rtppackets/pub/rtp.errInvalidRTPPadding", laid_rtppackets_pub_rtp_errInvalidRTPPadding)] }
def FnCheckSaid : Prop := fnCheckRow.holds Tryd.pinned (OpenSpec.ofChange fnCheckSpec)

/-- ITS FALSE NEIGHBOUR: 'it returns false'. Refute it at one input. -/
def fnCheckWrong : ChangeSpec := { name := "fnCheck", fn := fun _ => fun
  | [d1, d2, d3] => { results := [.lit (.bool false)], args := [d1, d2, d3] }
  | _ => none }
def FnCheckWrongFalsely : Prop := fnCheckRow.holds Tryd.pinned (OpenSpec.ofChange fnCheckWrong)

/-- 'laws.FnGet': WHATEVER THE INPUT: true; the input reads as it did. -/
def fnGetSpec : ChangeSpec := { name := "fnGet", fn := fun _ => fun
  | [d1, d2] => { results := [.lit (.bool true)], args := [d1, d2] }
  | _ => none }
def fnGetRow : OpenClaim := { program := "ytdmnflngafbobaadoor", sum := "679d89f440b32c3c0805af25f3ec14285e2d02fc06d71522d89d0df6fb1295f0", func := "rtppackets/laws.FnGet", spec := "fnGet", unfollowed := true, recurses := true, named := ["rtppackets/pub/rtp.errInvalidRTPPadding", "io.ErrShortBuffer", "rtppackets/pub/rtp.errTooSmall", "rtppackets/pub/rtp.errHeaderSizeInsufficient", "rtppackets/pub/rtp.errHeaderSizeInsufficientForExtension"], apart := false, laid := [("io.ErrShortBuffer", laid_io_ErrShortBuffer), ("rtppackets/pub/rtp.errHeaderSizeInsufficient", laid_rtppackets_pub_rtp_errHeaderSizeInsufficient), ("rtppackets/pub/rtp.errHeaderSizeInsufficientForExtension", laid_rtppackets_pub_rtp_errHeaderSizeInsufficientForExtension), ("rtppackets/pub/rtp.errTooSmall", laid_rtppackets_pub_rtp_errTooSmall), ("rtppackets/pub/rtp.errInvalidRTPPadding", laid_rtppackets_pub_rtp_errInvalidRTPPadding)] }
def FnGetSaid : Prop := fnGetRow.holds Tryd.pinned (OpenSpec.ofChange fnGetSpec)

/-- ITS FALSE NEIGHBOUR: 'it returns false'. Refute it at one input. -/
def fnGetWrong : ChangeSpec := { name := "fnGet", fn := fun _ => fun
  | [d1, d2] => { results := [.lit (.bool false)], args := [d1, d2] }
  | _ => none }
def FnGetWrongFalsely : Prop := fnGetRow.holds Tryd.pinned (OpenSpec.ofChange fnGetWrong)

/-- 'laws.FnSteps': WHATEVER THE INPUT: true; the input reads as it did. -/
def fnStepsSpec : ChangeSpec := { name := "fnSteps", fn := fun _ => fun
  | [d1, d2] => { results := [.lit (.bool true)], args := [d1, d2] }
  | _ => none }
def fnStepsRow : OpenClaim := { program := "ytdmnflngafbobaadoor", sum := "679d89f440b32c3c0805af25f3ec14285e2d02fc06d71522d89d0df6fb1295f0", func := "rtppackets/laws.FnSteps", spec := "fnSteps", unfollowed := true, recurses := true, named := ["rtppackets/pub/rtp.errRFC8285OneByteHeaderIDRange", "rtppackets/pub/rtp.errRFC8285OneByteHeaderSize", "rtppackets/pub/rtp.errRFC8285TwoByteHeaderIDRange", "rtppackets/pub/rtp.errRFC8285TwoByteHeaderSize", "rtppackets/pub/rtp.errRFC3550HeaderIDRange", "rtppackets/pub/rtp.errHeaderExtensionsNotEnabled", "rtppackets/pub/rtp.errHeaderExtensionNotFound", "rtppackets/pub/rtp.errInvalidRTPPadding", "io.ErrShortBuffer", "rtppackets/pub/rtp.errTooSmall", "rtppackets/pub/rtp.errHeaderSizeInsufficient", "rtppackets/pub/rtp.errHeaderSizeInsufficientForExtension"], apart := false, laid := [("io.ErrShortBuffer", laid_io_ErrShortBuffer), ("rtppackets/pub/rtp.errHeaderSizeInsufficient", laid_rtppackets_pub_rtp_errHeaderSizeInsufficient), ("rtppackets/pub/rtp.errHeaderSizeInsufficientForExtension", laid_rtppackets_pub_rtp_errHeaderSizeInsufficientForExtension), ("rtppackets/pub/rtp.errTooSmall", laid_rtppackets_pub_rtp_errTooSmall), ("rtppackets/pub/rtp.errHeaderExtensionsNotEnabled", laid_rtppackets_pub_rtp_errHeaderExtensionsNotEnabled), ("rtppackets/pub/rtp.errHeaderExtensionNotFound", laid_rtppackets_pub_rtp_errHeaderExtensionNotFound), ("rtppackets/pub/rtp.errRFC8285OneByteHeaderIDRange", laid_rtppackets_pub_rtp_errRFC8285OneByteHeaderIDRange), ("rtppackets/pub/rtp.errRFC8285OneByteHeaderSize", laid_rtppackets_pub_rtp_errRFC8285OneByteHeaderSize), ("rtppackets/pub/rtp.errRFC8285TwoByteHeaderIDRange", laid_rtppackets_pub_rtp_errRFC8285TwoByteHeaderIDRange), ("rtppackets/pub/rtp.errRFC8285TwoByteHeaderSize", laid_rtppackets_pub_rtp_errRFC8285TwoByteHeaderSize), ("rtppackets/pub/rtp.errRFC3550HeaderIDRange", laid_rtppackets_pub_rtp_errRFC3550HeaderIDRange), ("rtppackets/pub/rtp.errInvalidRTPPadding", laid_rtppackets_pub_rtp_errInvalidRTPPadding)] }
def FnStepsSaid : Prop := fnStepsRow.holds Tryd.pinned (OpenSpec.ofChange fnStepsSpec)

/-- ITS FALSE NEIGHBOUR: 'it returns false'. Refute it at one input. -/
def fnStepsWrong : ChangeSpec := { name := "fnSteps", fn := fun _ => fun
  | [d1, d2] => { results := [.lit (.bool false)], args := [d1, d2] }
  | _ => none }
def FnStepsWrongFalsely : Prop := fnStepsRow.holds Tryd.pinned (OpenSpec.ofChange fnStepsWrong)

/-- 'laws.FnProfile': WHATEVER THE INPUT: true; the input reads as it did. -/
def fnProfileSpec : ChangeSpec := { name := "fnProfile", fn := fun _ => fun
  | [d1, d2] => { results := [.lit (.bool true)], args := [d1, d2] }
  | _ => none }
def fnProfileRow : OpenClaim := { program := "ytdmnflngafbobaadoor", sum := "679d89f440b32c3c0805af25f3ec14285e2d02fc06d71522d89d0df6fb1295f0", func := "rtppackets/laws.FnProfile", spec := "fnProfile", unfollowed := true, recurses := true, named := ["rtppackets/pub/rtp.errRFC8285OneByteHeaderIDRange", "rtppackets/pub/rtp.errRFC8285OneByteHeaderSize", "rtppackets/pub/rtp.errRFC8285TwoByteHeaderIDRange", "rtppackets/pub/rtp.errRFC8285TwoByteHeaderSize", "rtppackets/pub/rtp.errRFC3550HeaderIDRange", "rtppackets/pub/rtp.errHeaderExtensionsNotEnabled", "rtppackets/pub/rtp.errHeaderExtensionNotFound", "rtppackets/pub/rtp.errInvalidRTPPadding", "io.ErrShortBuffer", "rtppackets/pub/rtp.errTooSmall", "rtppackets/pub/rtp.errHeaderSizeInsufficient", "rtppackets/pub/rtp.errHeaderSizeInsufficientForExtension"], apart := false, laid := [("io.ErrShortBuffer", laid_io_ErrShortBuffer), ("rtppackets/pub/rtp.errHeaderSizeInsufficient", laid_rtppackets_pub_rtp_errHeaderSizeInsufficient), ("rtppackets/pub/rtp.errHeaderSizeInsufficientForExtension", laid_rtppackets_pub_rtp_errHeaderSizeInsufficientForExtension), ("rtppackets/pub/rtp.errTooSmall", laid_rtppackets_pub_rtp_errTooSmall), ("rtppackets/pub/rtp.errHeaderExtensionsNotEnabled", laid_rtppackets_pub_rtp_errHeaderExtensionsNotEnabled), ("rtppackets/pub/rtp.errHeaderExtensionNotFound", laid_rtppackets_pub_rtp_errHeaderExtensionNotFound), ("rtppackets/pub/rtp.errRFC8285OneByteHeaderIDRange", laid_rtppackets_pub_rtp_errRFC8285OneByteHeaderIDRange), ("rtppackets/pub/rtp.errRFC8285OneByteHeaderSize", laid_rtppackets_pub_rtp_errRFC8285OneByteHeaderSize), ("rtppackets/pub/rtp.errRFC8285TwoByteHeaderIDRange", laid_rtppackets_pub_rtp_errRFC8285TwoByteHeaderIDRange), ("rtppackets/pub/rtp.errRFC8285TwoByteHeaderSize", laid_rtppackets_pub_rtp_errRFC8285TwoByteHeaderSize), ("rtppackets/pub/rtp.errRFC3550HeaderIDRange", laid_rtppackets_pub_rtp_errRFC3550HeaderIDRange), ("rtppackets/pub/rtp.errInvalidRTPPadding", laid_rtppackets_pub_rtp_errInvalidRTPPadding)] }
def FnProfileSaid : Prop := fnProfileRow.holds Tryd.pinned (OpenSpec.ofChange fnProfileSpec)

/-- ITS FALSE NEIGHBOUR: 'it returns false'. Refute it at one input. -/
def fnProfileWrong : ChangeSpec := { name := "fnProfile", fn := fun _ => fun
  | [d1, d2] => { results := [.lit (.bool false)], args := [d1, d2] }
  | _ => none }
def FnProfileWrongFalsely : Prop := fnProfileRow.holds Tryd.pinned (OpenSpec.ofChange fnProfileWrong)

/-- 'laws.FnAudioLevel': WHATEVER THE INPUT: true; the input reads as it did. -/
def fnAudioLevelSpec : ChangeSpec := { name := "fnAudioLevel", fn := fun _ => fun
  | [d1, d2, d3] => { results := [.lit (.bool true)], args := [d1, d2, d3] }
  | _ => none }
def fnAudioLevelRow : OpenClaim := { program := "ytdmnflngafbobaadoor", sum := "679d89f440b32c3c0805af25f3ec14285e2d02fc06d71522d89d0df6fb1295f0", func := "rtppackets/laws.FnAudioLevel", spec := "fnAudioLevel", unfollowed := true, recurses := true, named := ["rtppackets/pub/rtp.errInvalidRTPPadding", "io.ErrShortBuffer", "rtppackets/pub/rtp.errTooSmall", "rtppackets/pub/rtp.errHeaderSizeInsufficient", "rtppackets/pub/rtp.errHeaderSizeInsufficientForExtension"], apart := false, laid := [("io.ErrShortBuffer", laid_io_ErrShortBuffer), ("rtppackets/pub/rtp.errHeaderSizeInsufficient", laid_rtppackets_pub_rtp_errHeaderSizeInsufficient), ("rtppackets/pub/rtp.errHeaderSizeInsufficientForExtension", laid_rtppackets_pub_rtp_errHeaderSizeInsufficientForExtension), ("rtppackets/pub/rtp.errTooSmall", laid_rtppackets_pub_rtp_errTooSmall), ("rtppackets/pub/rtp.errInvalidRTPPadding", laid_rtppackets_pub_rtp_errInvalidRTPPadding)] }
def FnAudioLevelSaid : Prop := fnAudioLevelRow.holds Tryd.pinned (OpenSpec.ofChange fnAudioLevelSpec)

/-- ITS FALSE NEIGHBOUR: 'it returns false'. Refute it at one input. -/
def fnAudioLevelWrong : ChangeSpec := { name := "fnAudioLevel", fn := fun _ => fun
  | [d1, d2, d3] => { results := [.lit (.bool false)], args := [d1, d2, d3] }
  | _ => none }
def FnAudioLevelWrongFalsely : Prop := fnAudioLevelRow.holds Tryd.pinned (OpenSpec.ofChange fnAudioLevelWrong)

/-- 'laws.FnPlayout': WHATEVER THE INPUT: true; the input reads as it did. -/
def fnPlayoutSpec : ChangeSpec := { name := "fnPlayout", fn := fun _ => fun
  | [d1, d2, d3] => { results := [.lit (.bool true)], args := [d1, d2, d3] }
  | _ => none }
def fnPlayoutRow : OpenClaim := { program := "ytdmnflngafbobaadoor", sum := "679d89f440b32c3c0805af25f3ec14285e2d02fc06d71522d89d0df6fb1295f0", func := "rtppackets/laws.FnPlayout", spec := "fnPlayout", unfollowed := true, recurses := true, named := ["rtppackets/pub/rtp.errInvalidRTPPadding", "io.ErrShortBuffer", "rtppackets/pub/rtp.errTooSmall", "rtppackets/pub/rtp.errHeaderSizeInsufficient", "rtppackets/pub/rtp.errHeaderSizeInsufficientForExtension"], apart := false, laid := [("io.ErrShortBuffer", laid_io_ErrShortBuffer), ("rtppackets/pub/rtp.errHeaderSizeInsufficient", laid_rtppackets_pub_rtp_errHeaderSizeInsufficient), ("rtppackets/pub/rtp.errHeaderSizeInsufficientForExtension", laid_rtppackets_pub_rtp_errHeaderSizeInsufficientForExtension), ("rtppackets/pub/rtp.errTooSmall", laid_rtppackets_pub_rtp_errTooSmall), ("rtppackets/pub/rtp.errInvalidRTPPadding", laid_rtppackets_pub_rtp_errInvalidRTPPadding)] }
def FnPlayoutSaid : Prop := fnPlayoutRow.holds Tryd.pinned (OpenSpec.ofChange fnPlayoutSpec)

/-- ITS FALSE NEIGHBOUR: 'it returns false'. Refute it at one input. -/
def fnPlayoutWrong : ChangeSpec := { name := "fnPlayout", fn := fun _ => fun
  | [d1, d2, d3] => { results := [.lit (.bool false)], args := [d1, d2, d3] }
  | _ => none }
def FnPlayoutWrongFalsely : Prop := fnPlayoutRow.holds Tryd.pinned (OpenSpec.ofChange fnPlayoutWrong)

/-- 'laws.FnBlocks': WHATEVER THE INPUT: true; the input reads as it did. -/
def fnBlocksSpec : ChangeSpec := { name := "fnBlocks", fn := fun _ => fun
  | [d1, d2] => { results := [.lit (.bool true)], args := [d1, d2] }
  | _ => none }
def fnBlocksRow : OpenClaim := { program := "ytdmnflngafbobaadoor", sum := "679d89f440b32c3c0805af25f3ec14285e2d02fc06d71522d89d0df6fb1295f0", func := "rtppackets/laws.FnBlocks", spec := "fnBlocks", unfollowed := true, recurses := true, named := ["rtppackets/pub/rtp.errInvalidRTPPadding", "io.ErrShortBuffer", "rtppackets/pub/rtp.errTooSmall", "rtppackets/pub/rtp.errHeaderSizeInsufficient", "rtppackets/pub/rtp.errHeaderSizeInsufficientForExtension"], apart := false, laid := [("io.ErrShortBuffer", laid_io_ErrShortBuffer), ("rtppackets/pub/rtp.errHeaderSizeInsufficient", laid_rtppackets_pub_rtp_errHeaderSizeInsufficient), ("rtppackets/pub/rtp.errHeaderSizeInsufficientForExtension", laid_rtppackets_pub_rtp_errHeaderSizeInsufficientForExtension), ("rtppackets/pub/rtp.errTooSmall", laid_rtppackets_pub_rtp_errTooSmall), ("rtppackets/pub/rtp.errInvalidRTPPadding", laid_rtppackets_pub_rtp_errInvalidRTPPadding)] }
def FnBlocksSaid : Prop := fnBlocksRow.holds Tryd.pinned (OpenSpec.ofChange fnBlocksSpec)

/-- ITS FALSE NEIGHBOUR: 'it returns false'. Refute it at one input. -/
def fnBlocksWrong : ChangeSpec := { name := "fnBlocks", fn := fun _ => fun
  | [d1, d2] => { results := [.lit (.bool false)], args := [d1, d2] }
  | _ => none }
def FnBlocksWrongFalsely : Prop := fnBlocksRow.holds Tryd.pinned (OpenSpec.ofChange fnBlocksWrong)

/- THE SECOND FORM. 'bulk': how many values and letters a reading holds, each counted each time it is reached (what is shared counts as often as it is met; a slice's spare places count too). A statement '..UptoSaid' is the law's where the arguments, and the package variables that the reading takes, are together of bulk at most 1048576: NARROWER than '..Said'. Prove '..Said' where nothing that the law and all that it calls make is longer than what came in: it says more and counts as full. Else prove '..UptoSaid'. A law counts once. -/
mutual
def uptoBulk {H : Type} : DataW H → Nat
  | .lit (.string bytes) => bytes.length + 1
  | .lit _ => 1
  | .nil => 1
  | .ptr d => uptoBulk d + 1
  | .slice elems spare => uptoBulkAll elems + uptoBulkAll spare + 1
  | .agg parts => uptoBulkAll parts + 1
  | .iface _ d => uptoBulk d + 1
  | .map entries => uptoBulkEntries entries + 1
  | .held _ => 1
def uptoBulkAll {H : Type} : List (DataW H) → Nat
  | [] => 0
  | d :: r => uptoBulk d + uptoBulkAll r
def uptoBulkEntries {H : Type} : List (Lit × DataW H) → Nat
  | [] => 0
  | x :: r => uptoBulkEntry x + uptoBulkEntries r
def uptoBulkEntry {H : Type} : Lit × DataW H → Nat
  | (.string bytes, d) => bytes.length + uptoBulk d + 1
  | (_, d) => uptoBulk d + 1
 end
def uptoSmall : (H : Type) → List (DataW H) → Bool := fun _ ds => decide (uptoBulkAll ds ≤ 1048576)
def OpenSpec.upto (s : _root_.Go.ChangeSpec) : _root_.Go.OpenSpec := { _root_.Go.OpenSpec.ofChange s with cond := some uptoSmall }

/-- 'laws.FnHeaderWritten', WHERE WHAT IT READS IS OF BULK AT MOST 1048576: true; the input reads as it did. -/
def fnHeaderWrittenUptoRow : OpenClaim := { program := "ytdmnflngafbobaadoor", sum := "679d89f440b32c3c0805af25f3ec14285e2d02fc06d71522d89d0df6fb1295f0", func := "rtppackets/laws.FnHeaderWritten", spec := "fnHeaderWritten", unfollowed := true, recurses := true, named := ["io.ErrShortBuffer"], apart := false, laid := [("io.ErrShortBuffer", laid_io_ErrShortBuffer)], narrowed := true }
def FnHeaderWrittenUptoSaid : Prop := fnHeaderWrittenUptoRow.holds Tryd.pinned (OpenSpec.upto fnHeaderWrittenSpec)

/-- 'laws.FnPacketWritten', WHERE WHAT IT READS IS OF BULK AT MOST 1048576: true; the input reads as it did. -/
def fnPacketWrittenUptoRow : OpenClaim := { program := "ytdmnflngafbobaadoor", sum := "679d89f440b32c3c0805af25f3ec14285e2d02fc06d71522d89d0df6fb1295f0", func := "rtppackets/laws.FnPacketWritten", spec := "fnPacketWritten", unfollowed := true, recurses := true, named := ["rtppackets/pub/rtp.errInvalidRTPPadding", "io.ErrShortBuffer"], apart := false, laid := [("io.ErrShortBuffer", laid_io_ErrShortBuffer), ("rtppackets/pub/rtp.errInvalidRTPPadding", laid_rtppackets_pub_rtp_errInvalidRTPPadding)], narrowed := true }
def FnPacketWrittenUptoSaid : Prop := fnPacketWrittenUptoRow.holds Tryd.pinned (OpenSpec.upto fnPacketWrittenSpec)

/-- 'laws.FnBack', WHERE WHAT IT READS IS OF BULK AT MOST 1048576: true; the input reads as it did. -/
def fnBackUptoRow : OpenClaim := { program := "ytdmnflngafbobaadoor", sum := "679d89f440b32c3c0805af25f3ec14285e2d02fc06d71522d89d0df6fb1295f0", func := "rtppackets/laws.FnBack", spec := "fnBack", unfollowed := true, recurses := true, named := ["rtppackets/pub/rtp.errInvalidRTPPadding", "io.ErrShortBuffer", "rtppackets/pub/rtp.errTooSmall", "rtppackets/pub/rtp.errHeaderSizeInsufficient", "rtppackets/pub/rtp.errHeaderSizeInsufficientForExtension"], apart := false, laid := [("io.ErrShortBuffer", laid_io_ErrShortBuffer), ("rtppackets/pub/rtp.errHeaderSizeInsufficient", laid_rtppackets_pub_rtp_errHeaderSizeInsufficient), ("rtppackets/pub/rtp.errHeaderSizeInsufficientForExtension", laid_rtppackets_pub_rtp_errHeaderSizeInsufficientForExtension), ("rtppackets/pub/rtp.errTooSmall", laid_rtppackets_pub_rtp_errTooSmall), ("rtppackets/pub/rtp.errInvalidRTPPadding", laid_rtppackets_pub_rtp_errInvalidRTPPadding)], narrowed := true }
def FnBackUptoSaid : Prop := fnBackUptoRow.holds Tryd.pinned (OpenSpec.upto fnBackSpec)

/-- 'laws.FnPacket', WHERE WHAT IT READS IS OF BULK AT MOST 1048576: true; the input reads as it did. -/
def fnPacketUptoRow : OpenClaim := { program := "ytdmnflngafbobaadoor", sum := "679d89f440b32c3c0805af25f3ec14285e2d02fc06d71522d89d0df6fb1295f0", func := "rtppackets/laws.FnPacket", spec := "fnPacket", unfollowed := true, recurses := true, named := ["rtppackets/pub/rtp.errTooSmall", "rtppackets/pub/rtp.errInvalidRTPPadding", "rtppackets/pub/rtp.errHeaderSizeInsufficient", "rtppackets/pub/rtp.errHeaderSizeInsufficientForExtension", "io.ErrShortBuffer"], apart := false, laid := [("io.ErrShortBuffer", laid_io_ErrShortBuffer), ("rtppackets/pub/rtp.errHeaderSizeInsufficient", laid_rtppackets_pub_rtp_errHeaderSizeInsufficient), ("rtppackets/pub/rtp.errHeaderSizeInsufficientForExtension", laid_rtppackets_pub_rtp_errHeaderSizeInsufficientForExtension), ("rtppackets/pub/rtp.errTooSmall", laid_rtppackets_pub_rtp_errTooSmall), ("rtppackets/pub/rtp.errInvalidRTPPadding", laid_rtppackets_pub_rtp_errInvalidRTPPadding)], narrowed := true }
def FnPacketUptoSaid : Prop := fnPacketUptoRow.holds Tryd.pinned (OpenSpec.upto fnPacketSpec)

/-- 'laws.FnReadWrite', WHERE WHAT IT READS IS OF BULK AT MOST 1048576: true; the input reads as it did. -/
def fnReadWriteUptoRow : OpenClaim := { program := "ytdmnflngafbobaadoor", sum := "679d89f440b32c3c0805af25f3ec14285e2d02fc06d71522d89d0df6fb1295f0", func := "rtppackets/laws.FnReadWrite", spec := "fnReadWrite", unfollowed := true, recurses := true, named := ["rtppackets/pub/rtp.errTooSmall", "rtppackets/pub/rtp.errInvalidRTPPadding", "rtppackets/pub/rtp.errHeaderSizeInsufficient", "rtppackets/pub/rtp.errHeaderSizeInsufficientForExtension", "io.ErrShortBuffer"], apart := false, laid := [("io.ErrShortBuffer", laid_io_ErrShortBuffer), ("rtppackets/pub/rtp.errHeaderSizeInsufficient", laid_rtppackets_pub_rtp_errHeaderSizeInsufficient), ("rtppackets/pub/rtp.errHeaderSizeInsufficientForExtension", laid_rtppackets_pub_rtp_errHeaderSizeInsufficientForExtension), ("rtppackets/pub/rtp.errTooSmall", laid_rtppackets_pub_rtp_errTooSmall), ("rtppackets/pub/rtp.errInvalidRTPPadding", laid_rtppackets_pub_rtp_errInvalidRTPPadding)], narrowed := true }
def FnReadWriteUptoSaid : Prop := fnReadWriteUptoRow.holds Tryd.pinned (OpenSpec.upto fnReadWriteSpec)

/-- 'laws.FnHeader', WHERE WHAT IT READS IS OF BULK AT MOST 1048576: true; the input reads as it did. -/
def fnHeaderUptoRow : OpenClaim := { program := "ytdmnflngafbobaadoor", sum := "679d89f440b32c3c0805af25f3ec14285e2d02fc06d71522d89d0df6fb1295f0", func := "rtppackets/laws.FnHeader", spec := "fnHeader", unfollowed := true, recurses := true, named := ["rtppackets/pub/rtp.errHeaderSizeInsufficient", "rtppackets/pub/rtp.errHeaderSizeInsufficientForExtension", "rtppackets/pub/rtp.errInvalidRTPPadding", "io.ErrShortBuffer", "rtppackets/pub/rtp.errTooSmall"], apart := false, laid := [("io.ErrShortBuffer", laid_io_ErrShortBuffer), ("rtppackets/pub/rtp.errHeaderSizeInsufficient", laid_rtppackets_pub_rtp_errHeaderSizeInsufficient), ("rtppackets/pub/rtp.errHeaderSizeInsufficientForExtension", laid_rtppackets_pub_rtp_errHeaderSizeInsufficientForExtension), ("rtppackets/pub/rtp.errTooSmall", laid_rtppackets_pub_rtp_errTooSmall), ("rtppackets/pub/rtp.errInvalidRTPPadding", laid_rtppackets_pub_rtp_errInvalidRTPPadding)], narrowed := true }
def FnHeaderUptoSaid : Prop := fnHeaderUptoRow.holds Tryd.pinned (OpenSpec.upto fnHeaderSpec)

/-- 'laws.FnHeaderRoom', WHERE WHAT IT READS IS OF BULK AT MOST 1048576: true; the input reads as it did. -/
def fnHeaderRoomUptoRow : OpenClaim := { program := "ytdmnflngafbobaadoor", sum := "679d89f440b32c3c0805af25f3ec14285e2d02fc06d71522d89d0df6fb1295f0", func := "rtppackets/laws.FnHeaderRoom", spec := "fnHeaderRoom", unfollowed := true, recurses := true, named := ["io.ErrShortBuffer", "rtppackets/pub/rtp.errInvalidRTPPadding", "rtppackets/pub/rtp.errTooSmall", "rtppackets/pub/rtp.errHeaderSizeInsufficient", "rtppackets/pub/rtp.errHeaderSizeInsufficientForExtension"], apart := false, laid := [("io.ErrShortBuffer", laid_io_ErrShortBuffer), ("rtppackets/pub/rtp.errHeaderSizeInsufficient", laid_rtppackets_pub_rtp_errHeaderSizeInsufficient), ("rtppackets/pub/rtp.errHeaderSizeInsufficientForExtension", laid_rtppackets_pub_rtp_errHeaderSizeInsufficientForExtension), ("rtppackets/pub/rtp.errTooSmall", laid_rtppackets_pub_rtp_errTooSmall), ("rtppackets/pub/rtp.errInvalidRTPPadding", laid_rtppackets_pub_rtp_errInvalidRTPPadding)], narrowed := true }
def FnHeaderRoomUptoSaid : Prop := fnHeaderRoomUptoRow.holds Tryd.pinned (OpenSpec.upto fnHeaderRoomSpec)

/-- 'laws.FnCheck', WHERE WHAT IT READS IS OF BULK AT MOST 1048576: true; the input reads as it did. -/
def fnCheckUptoRow : OpenClaim := { program := "ytdmnflngafbobaadoor", sum := "679d89f440b32c3c0805af25f3ec14285e2d02fc06d71522d89d0df6fb1295f0", func := "rtppackets/laws.FnCheck", spec := "fnCheck", unfollowed := true, recurses := true, named := ["rtppackets/pub/rtp.errRFC8285OneByteHeaderIDRange", "rtppackets/pub/rtp.errRFC8285OneByteHeaderSize", "rtppackets/pub/rtp.errRFC8285TwoByteHeaderIDRange", "rtppackets/pub/rtp.errRFC8285TwoByteHeaderSize", "rtppackets/pub/rtp.errRFC3550HeaderIDRange", "rtppackets/pub/rtp.errInvalidRTPPadding", "io.ErrShortBuffer", "rtppackets/pub/rtp.errTooSmall", "rtppackets/pub/rtp.errHeaderSizeInsufficient", "rtppackets/pub/rtp.errHeaderSizeInsufficientForExtension"], apart := false, laid := [("io.ErrShortBuffer", laid_io_ErrShortBuffer), ("rtppackets/pub/rtp.errHeaderSizeInsufficient", laid_rtppackets_pub_rtp_errHeaderSizeInsufficient), ("rtppackets/pub/rtp.errHeaderSizeInsufficientForExtension", laid_rtppackets_pub_rtp_errHeaderSizeInsufficientForExtension), ("rtppackets/pub/rtp.errTooSmall", laid_rtppackets_pub_rtp_errTooSmall), ("rtppackets/pub/rtp.errRFC8285OneByteHeaderIDRange", laid_rtppackets_pub_rtp_errRFC8285OneByteHeaderIDRange), ("rtppackets/pub/rtp.errRFC8285OneByteHeaderSize", laid_rtppackets_pub_rtp_errRFC8285OneByteHeaderSize), ("rtppackets/pub/rtp.errRFC8285TwoByteHeaderIDRange", laid_rtppackets_pub_rtp_errRFC8285TwoByteHeaderIDRange), ("rtppackets/pub/rtp.errRFC8285TwoByteHeaderSize", laid_rtppackets_pub_rtp_errRFC8285TwoByteHeaderSize), ("rtppackets/pub/rtp.errRFC3550HeaderIDRange", laid_rtppackets_pub_rtp_errRFC3550HeaderIDRange), ("rtppackets/pub/rtp.errInvalidRTPPadding", laid_rtppackets_pub_rtp_errInvalidRTPPadding)], narrowed := true }
def FnCheckUptoSaid : Prop := fnCheckUptoRow.holds Tryd.pinned (OpenSpec.upto fnCheckSpec)

/-- 'laws.FnGet', WHERE WHAT IT READS IS OF BULK AT MOST 1048576: true; the input reads as it did. -/
def fnGetUptoRow : OpenClaim := { program := "ytdmnflngafbobaadoor", sum := "679d89f440b32c3c0805af25f3ec14285e2d02fc06d71522d89d0df6fb1295f0", func := "rtppackets/laws.FnGet", spec := "fnGet", unfollowed := true, recurses := true, named := ["rtppackets/pub/rtp.errInvalidRTPPadding", "io.ErrShortBuffer", "rtppackets/pub/rtp.errTooSmall", "rtppackets/pub/rtp.errHeaderSizeInsufficient", "rtppackets/pub/rtp.errHeaderSizeInsufficientForExtension"], apart := false, laid := [("io.ErrShortBuffer", laid_io_ErrShortBuffer), ("rtppackets/pub/rtp.errHeaderSizeInsufficient", laid_rtppackets_pub_rtp_errHeaderSizeInsufficient), ("rtppackets/pub/rtp.errHeaderSizeInsufficientForExtension", laid_rtppackets_pub_rtp_errHeaderSizeInsufficientForExtension), ("rtppackets/pub/rtp.errTooSmall", laid_rtppackets_pub_rtp_errTooSmall), ("rtppackets/pub/rtp.errInvalidRTPPadding", laid_rtppackets_pub_rtp_errInvalidRTPPadding)], narrowed := true }
def FnGetUptoSaid : Prop := fnGetUptoRow.holds Tryd.pinned (OpenSpec.upto fnGetSpec)

/-- 'laws.FnSteps', WHERE WHAT IT READS IS OF BULK AT MOST 1048576: true; the input reads as it did. -/
def fnStepsUptoRow : OpenClaim := { program := "ytdmnflngafbobaadoor", sum := "679d89f440b32c3c0805af25f3ec14285e2d02fc06d71522d89d0df6fb1295f0", func := "rtppackets/laws.FnSteps", spec := "fnSteps", unfollowed := true, recurses := true, named := ["rtppackets/pub/rtp.errRFC8285OneByteHeaderIDRange", "rtppackets/pub/rtp.errRFC8285OneByteHeaderSize", "rtppackets/pub/rtp.errRFC8285TwoByteHeaderIDRange", "rtppackets/pub/rtp.errRFC8285TwoByteHeaderSize", "rtppackets/pub/rtp.errRFC3550HeaderIDRange", "rtppackets/pub/rtp.errHeaderExtensionsNotEnabled", "rtppackets/pub/rtp.errHeaderExtensionNotFound", "rtppackets/pub/rtp.errInvalidRTPPadding", "io.ErrShortBuffer", "rtppackets/pub/rtp.errTooSmall", "rtppackets/pub/rtp.errHeaderSizeInsufficient", "rtppackets/pub/rtp.errHeaderSizeInsufficientForExtension"], apart := false, laid := [("io.ErrShortBuffer", laid_io_ErrShortBuffer), ("rtppackets/pub/rtp.errHeaderSizeInsufficient", laid_rtppackets_pub_rtp_errHeaderSizeInsufficient), ("rtppackets/pub/rtp.errHeaderSizeInsufficientForExtension", laid_rtppackets_pub_rtp_errHeaderSizeInsufficientForExtension), ("rtppackets/pub/rtp.errTooSmall", laid_rtppackets_pub_rtp_errTooSmall), ("rtppackets/pub/rtp.errHeaderExtensionsNotEnabled", laid_rtppackets_pub_rtp_errHeaderExtensionsNotEnabled), ("rtppackets/pub/rtp.errHeaderExtensionNotFound", laid_rtppackets_pub_rtp_errHeaderExtensionNotFound), ("rtppackets/pub/rtp.errRFC8285OneByteHeaderIDRange", laid_rtppackets_pub_rtp_errRFC8285OneByteHeaderIDRange), ("rtppackets/pub/rtp.errRFC8285OneByteHeaderSize", laid_rtppackets_pub_rtp_errRFC8285OneByteHeaderSize), ("rtppackets/pub/rtp.errRFC8285TwoByteHeaderIDRange", laid_rtppackets_pub_rtp_errRFC8285TwoByteHeaderIDRange), ("rtppackets/pub/rtp.errRFC8285TwoByteHeaderSize", laid_rtppackets_pub_rtp_errRFC8285TwoByteHeaderSize), ("rtppackets/pub/rtp.errRFC3550HeaderIDRange", laid_rtppackets_pub_rtp_errRFC3550HeaderIDRange), ("rtppackets/pub/rtp.errInvalidRTPPadding", laid_rtppackets_pub_rtp_errInvalidRTPPadding)], narrowed := true }
def FnStepsUptoSaid : Prop := fnStepsUptoRow.holds Tryd.pinned (OpenSpec.upto fnStepsSpec)

/-- 'laws.FnProfile', WHERE WHAT IT READS IS OF BULK AT MOST 1048576: true; the input reads as it did. -/
def fnProfileUptoRow : OpenClaim := { program := "ytdmnflngafbobaadoor", sum := "679d89f440b32c3c0805af25f3ec14285e2d02fc06d71522d89d0df6fb1295f0", func := "rtppackets/laws.FnProfile", spec := "fnProfile", unfollowed := true, recurses := true, named := ["rtppackets/pub/rtp.errRFC8285OneByteHeaderIDRange", "rtppackets/pub/rtp.errRFC8285OneByteHeaderSize", "rtppackets/pub/rtp.errRFC8285TwoByteHeaderIDRange", "rtppackets/pub/rtp.errRFC8285TwoByteHeaderSize", "rtppackets/pub/rtp.errRFC3550HeaderIDRange", "rtppackets/pub/rtp.errHeaderExtensionsNotEnabled", "rtppackets/pub/rtp.errHeaderExtensionNotFound", "rtppackets/pub/rtp.errInvalidRTPPadding", "io.ErrShortBuffer", "rtppackets/pub/rtp.errTooSmall", "rtppackets/pub/rtp.errHeaderSizeInsufficient", "rtppackets/pub/rtp.errHeaderSizeInsufficientForExtension"], apart := false, laid := [("io.ErrShortBuffer", laid_io_ErrShortBuffer), ("rtppackets/pub/rtp.errHeaderSizeInsufficient", laid_rtppackets_pub_rtp_errHeaderSizeInsufficient), ("rtppackets/pub/rtp.errHeaderSizeInsufficientForExtension", laid_rtppackets_pub_rtp_errHeaderSizeInsufficientForExtension), ("rtppackets/pub/rtp.errTooSmall", laid_rtppackets_pub_rtp_errTooSmall), ("rtppackets/pub/rtp.errHeaderExtensionsNotEnabled", laid_rtppackets_pub_rtp_errHeaderExtensionsNotEnabled), ("rtppackets/pub/rtp.errHeaderExtensionNotFound", laid_rtppackets_pub_rtp_errHeaderExtensionNotFound), ("rtppackets/pub/rtp.errRFC8285OneByteHeaderIDRange", laid_rtppackets_pub_rtp_errRFC8285OneByteHeaderIDRange), ("rtppackets/pub/rtp.errRFC8285OneByteHeaderSize", laid_rtppackets_pub_rtp_errRFC8285OneByteHeaderSize), ("rtppackets/pub/rtp.errRFC8285TwoByteHeaderIDRange", laid_rtppackets_pub_rtp_errRFC8285TwoByteHeaderIDRange), ("rtppackets/pub/rtp.errRFC8285TwoByteHeaderSize", laid_rtppackets_pub_rtp_errRFC8285TwoByteHeaderSize), ("rtppackets/pub/rtp.errRFC3550HeaderIDRange", laid_rtppackets_pub_rtp_errRFC3550HeaderIDRange), ("rtppackets/pub/rtp.errInvalidRTPPadding", laid_rtppackets_pub_rtp_errInvalidRTPPadding)], narrowed := true }
def FnProfileUptoSaid : Prop := fnProfileUptoRow.holds Tryd.pinned (OpenSpec.upto fnProfileSpec)

/-- 'laws.FnAudioLevel', WHERE WHAT IT READS IS OF BULK AT MOST 1048576: true; the input reads as it did. -/
def fnAudioLevelUptoRow : OpenClaim := { program := "ytdmnflngafbobaadoor", sum := "679d89f440b32c3c0805af25f3ec14285e2d02fc06d71522d89d0df6fb1295f0", func := "rtppackets/laws.FnAudioLevel", spec := "fnAudioLevel", unfollowed := true, recurses := true, named := ["rtppackets/pub/rtp.errInvalidRTPPadding", "io.ErrShortBuffer", "rtppackets/pub/rtp.errTooSmall", "rtppackets/pub/rtp.errHeaderSizeInsufficient", "rtppackets/pub/rtp.errHeaderSizeInsufficientForExtension"], apart := false, laid := [("io.ErrShortBuffer", laid_io_ErrShortBuffer), ("rtppackets/pub/rtp.errHeaderSizeInsufficient", laid_rtppackets_pub_rtp_errHeaderSizeInsufficient), ("rtppackets/pub/rtp.errHeaderSizeInsufficientForExtension", laid_rtppackets_pub_rtp_errHeaderSizeInsufficientForExtension), ("rtppackets/pub/rtp.errTooSmall", laid_rtppackets_pub_rtp_errTooSmall), ("rtppackets/pub/rtp.errInvalidRTPPadding", laid_rtppackets_pub_rtp_errInvalidRTPPadding)], narrowed := true }
def FnAudioLevelUptoSaid : Prop := fnAudioLevelUptoRow.holds Tryd.pinned (OpenSpec.upto fnAudioLevelSpec)

/-- 'laws.FnPlayout', WHERE WHAT IT READS IS OF BULK AT MOST 1048576: true; the input reads as it did. -/
def fnPlayoutUptoRow : OpenClaim := { program := "ytdmnflngafbobaadoor", sum := "679d89f440b32c3c0805af25f3ec14285e2d02fc06d71522d89d0df6fb1295f0", func := "rtppackets/laws.FnPlayout", spec := "fnPlayout", unfollowed := true, recurses := true, named := ["rtppackets/pub/rtp.errInvalidRTPPadding", "io.ErrShortBuffer", "rtppackets/pub/rtp.errTooSmall", "rtppackets/pub/rtp.errHeaderSizeInsufficient", "rtppackets/pub/rtp.errHeaderSizeInsufficientForExtension"], apart := false, laid := [("io.ErrShortBuffer", laid_io_ErrShortBuffer), ("rtppackets/pub/rtp.errHeaderSizeInsufficient", laid_rtppackets_pub_rtp_errHeaderSizeInsufficient), ("rtppackets/pub/rtp.errHeaderSizeInsufficientForExtension", laid_rtppackets_pub_rtp_errHeaderSizeInsufficientForExtension), ("rtppackets/pub/rtp.errTooSmall", laid_rtppackets_pub_rtp_errTooSmall), ("rtppackets/pub/rtp.errInvalidRTPPadding", laid_rtppackets_pub_rtp_errInvalidRTPPadding)], narrowed := true }
def FnPlayoutUptoSaid : Prop := fnPlayoutUptoRow.holds Tryd.pinned (OpenSpec.upto fnPlayoutSpec)

/-- 'laws.FnBlocks', WHERE WHAT IT READS IS OF BULK AT MOST 1048576: true; the input reads as it did. -/
def fnBlocksUptoRow : OpenClaim := { program := "ytdmnflngafbobaadoor", sum := "679d89f440b32c3c0805af25f3ec14285e2d02fc06d71522d89d0df6fb1295f0", func := "rtppackets/laws.FnBlocks", spec := "fnBlocks", unfollowed := true, recurses := true, named := ["rtppackets/pub/rtp.errInvalidRTPPadding", "io.ErrShortBuffer", "rtppackets/pub/rtp.errTooSmall", "rtppackets/pub/rtp.errHeaderSizeInsufficient", "rtppackets/pub/rtp.errHeaderSizeInsufficientForExtension"], apart := false, laid := [("io.ErrShortBuffer", laid_io_ErrShortBuffer), ("rtppackets/pub/rtp.errHeaderSizeInsufficient", laid_rtppackets_pub_rtp_errHeaderSizeInsufficient), ("rtppackets/pub/rtp.errHeaderSizeInsufficientForExtension", laid_rtppackets_pub_rtp_errHeaderSizeInsufficientForExtension), ("rtppackets/pub/rtp.errTooSmall", laid_rtppackets_pub_rtp_errTooSmall), ("rtppackets/pub/rtp.errInvalidRTPPadding", laid_rtppackets_pub_rtp_errInvalidRTPPadding)], narrowed := true }
def FnBlocksUptoSaid : Prop := fnBlocksUptoRow.holds Tryd.pinned (OpenSpec.upto fnBlocksSpec)

end Rows
end Go.Proofs.YtdmnflngafbobaaDoor
