/-
  DERIVED. GIVEN WITH THE SEED: THE PROGRAM's TIES (one call each: nine closed facts by the kernel) AND EACH ROW's TIE, after the 31st guide's Derived/Test/Toyas{Tie, Card}.lean. No idea stands in it: it is a product of the set-up. Laid BY PROGRAM, IN A SANDBOX (cutbox-door.mjs). By AI agents, Wed Nov 11 2026. No macro, syntax, notation, axiom, sorry.
-/
import Derived.Test.YtdmnflngafbobaaDoorRows
import Derived.LaidByTextLater
import Derived.SevenTiedAt
import Derived.LaidSub
import Derived.LaidOnce
namespace Go.Proofs.YtdmnflngafbobaaDoor
open Go
set_option maxRecDepth 100000
theorem seatTie1 : Tryd.prog.laidByTextLater [("io.ErrShortBuffer", Rows.laid_io_ErrShortBuffer), ("rtppackets/pub/rtp.errHeaderSizeInsufficient", Rows.laid_rtppackets_pub_rtp_errHeaderSizeInsufficient), ("rtppackets/pub/rtp.errHeaderSizeInsufficientForExtension", Rows.laid_rtppackets_pub_rtp_errHeaderSizeInsufficientForExtension), ("rtppackets/pub/rtp.errTooSmall", Rows.laid_rtppackets_pub_rtp_errTooSmall), ("rtppackets/pub/rtp.errHeaderExtensionsNotEnabled", Rows.laid_rtppackets_pub_rtp_errHeaderExtensionsNotEnabled), ("rtppackets/pub/rtp.errHeaderExtensionNotFound", Rows.laid_rtppackets_pub_rtp_errHeaderExtensionNotFound), ("rtppackets/pub/rtp.errRFC8285OneByteHeaderIDRange", Rows.laid_rtppackets_pub_rtp_errRFC8285OneByteHeaderIDRange), ("rtppackets/pub/rtp.errRFC8285OneByteHeaderSize", Rows.laid_rtppackets_pub_rtp_errRFC8285OneByteHeaderSize), ("rtppackets/pub/rtp.errRFC8285TwoByteHeaderIDRange", Rows.laid_rtppackets_pub_rtp_errRFC8285TwoByteHeaderIDRange), ("rtppackets/pub/rtp.errRFC8285TwoByteHeaderSize", Rows.laid_rtppackets_pub_rtp_errRFC8285TwoByteHeaderSize), ("rtppackets/pub/rtp.errRFC3550HeaderIDRange", Rows.laid_rtppackets_pub_rtp_errRFC3550HeaderIDRange), ("rtppackets/pub/rtp.errInvalidRTPPadding", Rows.laid_rtppackets_pub_rtp_errInvalidRTPPadding)] [.sentinel, .sentinel, .sentinel, .sentinel, .sentinel, .sentinel, .sentinel, .sentinel, .sentinel, .sentinel, .sentinel, .sentinel] true :=
  Program.laidByTextLater_by_one 275 8 2 (by kernel_rfl) (by kernel_rfl) (by kernel_rfl) (by kernel_rfl) (by kernel_rfl) (by kernel_rfl) (fun _ _ => by kernel_rfl)
theorem noOwnUnsafe : Tryd.pinned.checked.prog.headLifts.contains "ownunsafe" = false := by kernel_rfl
theorem tie : Tryd.prog.laidByTextLater [("io.ErrShortBuffer", Rows.laid_io_ErrShortBuffer)] [.sentinel] true :=
  Program.laidByTextLater.sub seatTie1 ["io.ErrShortBuffer"] (by kernel_rfl) (by kernel_rfl)
theorem fnHeaderWritten_row_tie : Rows.fnHeaderWrittenRow.laidByTextAt .later Tryd.pinned [.sentinel] true :=
  OpenClaim.laidByTextAt_later rfl rfl tie noOwnUnsafe
theorem tie2 : Tryd.prog.laidByTextLater [("io.ErrShortBuffer", Rows.laid_io_ErrShortBuffer), ("rtppackets/pub/rtp.errInvalidRTPPadding", Rows.laid_rtppackets_pub_rtp_errInvalidRTPPadding)] [.sentinel, .sentinel] true :=
  Program.laidByTextLater.sub seatTie1 ["io.ErrShortBuffer", "rtppackets/pub/rtp.errInvalidRTPPadding"] (by kernel_rfl) (by kernel_rfl)
theorem fnPacketWritten_row_tie : Rows.fnPacketWrittenRow.laidByTextAt .later Tryd.pinned [.sentinel, .sentinel] true :=
  OpenClaim.laidByTextAt_later rfl rfl tie2 noOwnUnsafe
theorem tie3 : Tryd.prog.laidByTextLater [("io.ErrShortBuffer", Rows.laid_io_ErrShortBuffer), ("rtppackets/pub/rtp.errHeaderSizeInsufficient", Rows.laid_rtppackets_pub_rtp_errHeaderSizeInsufficient), ("rtppackets/pub/rtp.errHeaderSizeInsufficientForExtension", Rows.laid_rtppackets_pub_rtp_errHeaderSizeInsufficientForExtension), ("rtppackets/pub/rtp.errTooSmall", Rows.laid_rtppackets_pub_rtp_errTooSmall), ("rtppackets/pub/rtp.errInvalidRTPPadding", Rows.laid_rtppackets_pub_rtp_errInvalidRTPPadding)] [.sentinel, .sentinel, .sentinel, .sentinel, .sentinel] true :=
  Program.laidByTextLater.sub seatTie1 ["io.ErrShortBuffer", "rtppackets/pub/rtp.errHeaderSizeInsufficient", "rtppackets/pub/rtp.errHeaderSizeInsufficientForExtension", "rtppackets/pub/rtp.errTooSmall", "rtppackets/pub/rtp.errInvalidRTPPadding"] (by kernel_rfl) (by kernel_rfl)
theorem fnBack_row_tie : Rows.fnBackRow.laidByTextAt .later Tryd.pinned [.sentinel, .sentinel, .sentinel, .sentinel, .sentinel] true :=
  OpenClaim.laidByTextAt_later rfl rfl tie3 noOwnUnsafe
theorem fnPacket_row_tie : Rows.fnPacketRow.laidByTextAt .later Tryd.pinned [.sentinel, .sentinel, .sentinel, .sentinel, .sentinel] true :=
  OpenClaim.laidByTextAt_later rfl rfl tie3 noOwnUnsafe
theorem fnReadWrite_row_tie : Rows.fnReadWriteRow.laidByTextAt .later Tryd.pinned [.sentinel, .sentinel, .sentinel, .sentinel, .sentinel] true :=
  OpenClaim.laidByTextAt_later rfl rfl tie3 noOwnUnsafe
theorem fnHeader_row_tie : Rows.fnHeaderRow.laidByTextAt .later Tryd.pinned [.sentinel, .sentinel, .sentinel, .sentinel, .sentinel] true :=
  OpenClaim.laidByTextAt_later rfl rfl tie3 noOwnUnsafe
theorem fnHeaderRoom_row_tie : Rows.fnHeaderRoomRow.laidByTextAt .later Tryd.pinned [.sentinel, .sentinel, .sentinel, .sentinel, .sentinel] true :=
  OpenClaim.laidByTextAt_later rfl rfl tie3 noOwnUnsafe
theorem fnGet_row_tie : Rows.fnGetRow.laidByTextAt .later Tryd.pinned [.sentinel, .sentinel, .sentinel, .sentinel, .sentinel] true :=
  OpenClaim.laidByTextAt_later rfl rfl tie3 noOwnUnsafe
theorem fnAudioLevel_row_tie : Rows.fnAudioLevelRow.laidByTextAt .later Tryd.pinned [.sentinel, .sentinel, .sentinel, .sentinel, .sentinel] true :=
  OpenClaim.laidByTextAt_later rfl rfl tie3 noOwnUnsafe
theorem fnPlayout_row_tie : Rows.fnPlayoutRow.laidByTextAt .later Tryd.pinned [.sentinel, .sentinel, .sentinel, .sentinel, .sentinel] true :=
  OpenClaim.laidByTextAt_later rfl rfl tie3 noOwnUnsafe
theorem fnBlocks_row_tie : Rows.fnBlocksRow.laidByTextAt .later Tryd.pinned [.sentinel, .sentinel, .sentinel, .sentinel, .sentinel] true :=
  OpenClaim.laidByTextAt_later rfl rfl tie3 noOwnUnsafe
theorem tie4 : Tryd.prog.laidByTextLater [("io.ErrShortBuffer", Rows.laid_io_ErrShortBuffer), ("rtppackets/pub/rtp.errHeaderSizeInsufficient", Rows.laid_rtppackets_pub_rtp_errHeaderSizeInsufficient), ("rtppackets/pub/rtp.errHeaderSizeInsufficientForExtension", Rows.laid_rtppackets_pub_rtp_errHeaderSizeInsufficientForExtension), ("rtppackets/pub/rtp.errTooSmall", Rows.laid_rtppackets_pub_rtp_errTooSmall), ("rtppackets/pub/rtp.errRFC8285OneByteHeaderIDRange", Rows.laid_rtppackets_pub_rtp_errRFC8285OneByteHeaderIDRange), ("rtppackets/pub/rtp.errRFC8285OneByteHeaderSize", Rows.laid_rtppackets_pub_rtp_errRFC8285OneByteHeaderSize), ("rtppackets/pub/rtp.errRFC8285TwoByteHeaderIDRange", Rows.laid_rtppackets_pub_rtp_errRFC8285TwoByteHeaderIDRange), ("rtppackets/pub/rtp.errRFC8285TwoByteHeaderSize", Rows.laid_rtppackets_pub_rtp_errRFC8285TwoByteHeaderSize), ("rtppackets/pub/rtp.errRFC3550HeaderIDRange", Rows.laid_rtppackets_pub_rtp_errRFC3550HeaderIDRange), ("rtppackets/pub/rtp.errInvalidRTPPadding", Rows.laid_rtppackets_pub_rtp_errInvalidRTPPadding)] [.sentinel, .sentinel, .sentinel, .sentinel, .sentinel, .sentinel, .sentinel, .sentinel, .sentinel, .sentinel] true :=
  Program.laidByTextLater.sub seatTie1 ["io.ErrShortBuffer", "rtppackets/pub/rtp.errHeaderSizeInsufficient", "rtppackets/pub/rtp.errHeaderSizeInsufficientForExtension", "rtppackets/pub/rtp.errTooSmall", "rtppackets/pub/rtp.errRFC8285OneByteHeaderIDRange", "rtppackets/pub/rtp.errRFC8285OneByteHeaderSize", "rtppackets/pub/rtp.errRFC8285TwoByteHeaderIDRange", "rtppackets/pub/rtp.errRFC8285TwoByteHeaderSize", "rtppackets/pub/rtp.errRFC3550HeaderIDRange", "rtppackets/pub/rtp.errInvalidRTPPadding"] (by kernel_rfl) (by kernel_rfl)
theorem fnCheck_row_tie : Rows.fnCheckRow.laidByTextAt .later Tryd.pinned [.sentinel, .sentinel, .sentinel, .sentinel, .sentinel, .sentinel, .sentinel, .sentinel, .sentinel, .sentinel] true :=
  OpenClaim.laidByTextAt_later rfl rfl tie4 noOwnUnsafe
theorem tie5 : Tryd.prog.laidByTextLater [("io.ErrShortBuffer", Rows.laid_io_ErrShortBuffer), ("rtppackets/pub/rtp.errHeaderSizeInsufficient", Rows.laid_rtppackets_pub_rtp_errHeaderSizeInsufficient), ("rtppackets/pub/rtp.errHeaderSizeInsufficientForExtension", Rows.laid_rtppackets_pub_rtp_errHeaderSizeInsufficientForExtension), ("rtppackets/pub/rtp.errTooSmall", Rows.laid_rtppackets_pub_rtp_errTooSmall), ("rtppackets/pub/rtp.errHeaderExtensionsNotEnabled", Rows.laid_rtppackets_pub_rtp_errHeaderExtensionsNotEnabled), ("rtppackets/pub/rtp.errHeaderExtensionNotFound", Rows.laid_rtppackets_pub_rtp_errHeaderExtensionNotFound), ("rtppackets/pub/rtp.errRFC8285OneByteHeaderIDRange", Rows.laid_rtppackets_pub_rtp_errRFC8285OneByteHeaderIDRange), ("rtppackets/pub/rtp.errRFC8285OneByteHeaderSize", Rows.laid_rtppackets_pub_rtp_errRFC8285OneByteHeaderSize), ("rtppackets/pub/rtp.errRFC8285TwoByteHeaderIDRange", Rows.laid_rtppackets_pub_rtp_errRFC8285TwoByteHeaderIDRange), ("rtppackets/pub/rtp.errRFC8285TwoByteHeaderSize", Rows.laid_rtppackets_pub_rtp_errRFC8285TwoByteHeaderSize), ("rtppackets/pub/rtp.errRFC3550HeaderIDRange", Rows.laid_rtppackets_pub_rtp_errRFC3550HeaderIDRange), ("rtppackets/pub/rtp.errInvalidRTPPadding", Rows.laid_rtppackets_pub_rtp_errInvalidRTPPadding)] [.sentinel, .sentinel, .sentinel, .sentinel, .sentinel, .sentinel, .sentinel, .sentinel, .sentinel, .sentinel, .sentinel, .sentinel] true :=
  Program.laidByTextLater.sub seatTie1 ["io.ErrShortBuffer", "rtppackets/pub/rtp.errHeaderSizeInsufficient", "rtppackets/pub/rtp.errHeaderSizeInsufficientForExtension", "rtppackets/pub/rtp.errTooSmall", "rtppackets/pub/rtp.errHeaderExtensionsNotEnabled", "rtppackets/pub/rtp.errHeaderExtensionNotFound", "rtppackets/pub/rtp.errRFC8285OneByteHeaderIDRange", "rtppackets/pub/rtp.errRFC8285OneByteHeaderSize", "rtppackets/pub/rtp.errRFC8285TwoByteHeaderIDRange", "rtppackets/pub/rtp.errRFC8285TwoByteHeaderSize", "rtppackets/pub/rtp.errRFC3550HeaderIDRange", "rtppackets/pub/rtp.errInvalidRTPPadding"] (by kernel_rfl) (by kernel_rfl)
theorem fnSteps_row_tie : Rows.fnStepsRow.laidByTextAt .later Tryd.pinned [.sentinel, .sentinel, .sentinel, .sentinel, .sentinel, .sentinel, .sentinel, .sentinel, .sentinel, .sentinel, .sentinel, .sentinel] true :=
  OpenClaim.laidByTextAt_later rfl rfl tie5 noOwnUnsafe
theorem fnProfile_row_tie : Rows.fnProfileRow.laidByTextAt .later Tryd.pinned [.sentinel, .sentinel, .sentinel, .sentinel, .sentinel, .sentinel, .sentinel, .sentinel, .sentinel, .sentinel, .sentinel, .sentinel] true :=
  OpenClaim.laidByTextAt_later rfl rfl tie5 noOwnUnsafe
theorem fnHeaderWrittenUpto_row_tie : Rows.fnHeaderWrittenUptoRow.laidByTextAt .later Tryd.pinned [.sentinel] true :=
  OpenClaim.laidByTextAt_later rfl rfl tie noOwnUnsafe
theorem fnPacketWrittenUpto_row_tie : Rows.fnPacketWrittenUptoRow.laidByTextAt .later Tryd.pinned [.sentinel, .sentinel] true :=
  OpenClaim.laidByTextAt_later rfl rfl tie2 noOwnUnsafe
theorem fnBackUpto_row_tie : Rows.fnBackUptoRow.laidByTextAt .later Tryd.pinned [.sentinel, .sentinel, .sentinel, .sentinel, .sentinel] true :=
  OpenClaim.laidByTextAt_later rfl rfl tie3 noOwnUnsafe
theorem fnPacketUpto_row_tie : Rows.fnPacketUptoRow.laidByTextAt .later Tryd.pinned [.sentinel, .sentinel, .sentinel, .sentinel, .sentinel] true :=
  OpenClaim.laidByTextAt_later rfl rfl tie3 noOwnUnsafe
theorem fnReadWriteUpto_row_tie : Rows.fnReadWriteUptoRow.laidByTextAt .later Tryd.pinned [.sentinel, .sentinel, .sentinel, .sentinel, .sentinel] true :=
  OpenClaim.laidByTextAt_later rfl rfl tie3 noOwnUnsafe
theorem fnHeaderUpto_row_tie : Rows.fnHeaderUptoRow.laidByTextAt .later Tryd.pinned [.sentinel, .sentinel, .sentinel, .sentinel, .sentinel] true :=
  OpenClaim.laidByTextAt_later rfl rfl tie3 noOwnUnsafe
theorem fnHeaderRoomUpto_row_tie : Rows.fnHeaderRoomUptoRow.laidByTextAt .later Tryd.pinned [.sentinel, .sentinel, .sentinel, .sentinel, .sentinel] true :=
  OpenClaim.laidByTextAt_later rfl rfl tie3 noOwnUnsafe
theorem fnCheckUpto_row_tie : Rows.fnCheckUptoRow.laidByTextAt .later Tryd.pinned [.sentinel, .sentinel, .sentinel, .sentinel, .sentinel, .sentinel, .sentinel, .sentinel, .sentinel, .sentinel] true :=
  OpenClaim.laidByTextAt_later rfl rfl tie4 noOwnUnsafe
theorem fnGetUpto_row_tie : Rows.fnGetUptoRow.laidByTextAt .later Tryd.pinned [.sentinel, .sentinel, .sentinel, .sentinel, .sentinel] true :=
  OpenClaim.laidByTextAt_later rfl rfl tie3 noOwnUnsafe
theorem fnStepsUpto_row_tie : Rows.fnStepsUptoRow.laidByTextAt .later Tryd.pinned [.sentinel, .sentinel, .sentinel, .sentinel, .sentinel, .sentinel, .sentinel, .sentinel, .sentinel, .sentinel, .sentinel, .sentinel] true :=
  OpenClaim.laidByTextAt_later rfl rfl tie5 noOwnUnsafe
theorem fnProfileUpto_row_tie : Rows.fnProfileUptoRow.laidByTextAt .later Tryd.pinned [.sentinel, .sentinel, .sentinel, .sentinel, .sentinel, .sentinel, .sentinel, .sentinel, .sentinel, .sentinel, .sentinel, .sentinel] true :=
  OpenClaim.laidByTextAt_later rfl rfl tie5 noOwnUnsafe
theorem fnAudioLevelUpto_row_tie : Rows.fnAudioLevelUptoRow.laidByTextAt .later Tryd.pinned [.sentinel, .sentinel, .sentinel, .sentinel, .sentinel] true :=
  OpenClaim.laidByTextAt_later rfl rfl tie3 noOwnUnsafe
theorem fnPlayoutUpto_row_tie : Rows.fnPlayoutUptoRow.laidByTextAt .later Tryd.pinned [.sentinel, .sentinel, .sentinel, .sentinel, .sentinel] true :=
  OpenClaim.laidByTextAt_later rfl rfl tie3 noOwnUnsafe
theorem fnBlocksUpto_row_tie : Rows.fnBlocksUptoRow.laidByTextAt .later Tryd.pinned [.sentinel, .sentinel, .sentinel, .sentinel, .sentinel] true :=
  OpenClaim.laidByTextAt_later rfl rfl tie3 noOwnUnsafe
end Go.Proofs.YtdmnflngafbobaaDoor
