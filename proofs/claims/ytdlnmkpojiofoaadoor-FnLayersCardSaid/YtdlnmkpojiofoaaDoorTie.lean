/-
  DERIVED. GIVEN WITH THE SEED: THE PROGRAM's TIES (one call each: nine closed facts by the kernel) AND EACH ROW's TIE, after the 31st guide's Derived/Test/Toyas{Tie, Card}.lean. No idea stands in it: it is a product of the set-up. Laid BY PROGRAM, IN A SANDBOX (cutbox-door.mjs). By AI agents, Wed Nov 11 2026. No macro, syntax, notation, axiom, sorry.
-/
import Derived.Test.YtdlnmkpojiofoaaDoorRows
import Derived.LaidByTextLater
import Derived.SevenTiedAt
import Derived.LaidSub
import Derived.LaidOnce
namespace Go.Proofs.YtdlnmkpojiofoaaDoor
open Go
set_option maxRecDepth 100000
theorem seatTie1 : Tryd.prog.laidByTextLater [("rtppackets/pub/rtpobu.ErrFailedToReadLEB128", Rows.laid_rtppackets_pub_rtpobu_ErrFailedToReadLEB128), ("rtppackets/pub/rtp.errTooSmall", Rows.laid_rtppackets_pub_rtp_errTooSmall), ("rtppackets/pub/rtp.ErrVLATooShort", Rows.laid_rtppackets_pub_rtp_ErrVLATooShort)] [.sentinel, .sentinel, .sentinel] true :=
  Program.laidByTextLater_by_one 180 8 2 (by kernel_rfl) (by kernel_rfl) (by kernel_rfl) (by kernel_rfl) (by kernel_rfl) (by kernel_rfl) (fun _ _ => by kernel_rfl)
theorem noOwnUnsafe : Tryd.pinned.checked.prog.headLifts.contains "ownunsafe" = false := by kernel_rfl
theorem tie : Tryd.prog.laidByTextLater [("rtppackets/pub/rtp.errTooSmall", Rows.laid_rtppackets_pub_rtp_errTooSmall)] [.sentinel] true :=
  Program.laidByTextLater.sub seatTie1 ["rtppackets/pub/rtp.errTooSmall"] (by kernel_rfl) (by kernel_rfl)
theorem fnSendTime_row_tie : Rows.fnSendTimeRow.laidByTextAt .later Tryd.pinned [.sentinel] true :=
  OpenClaim.laidByTextAt_later rfl rfl tie noOwnUnsafe
theorem fnSequence_row_tie : Rows.fnSequenceRow.laidByTextAt .later Tryd.pinned [.sentinel] true :=
  OpenClaim.laidByTextAt_later rfl rfl tie noOwnUnsafe
theorem fnCaptureTime_row_tie : Rows.fnCaptureTimeRow.laidByTextAt .later Tryd.pinned [.sentinel] true :=
  OpenClaim.laidByTextAt_later rfl rfl tie noOwnUnsafe
theorem tie2 : Tryd.prog.laidByTextLater [("rtppackets/pub/rtpobu.ErrFailedToReadLEB128", Rows.laid_rtppackets_pub_rtpobu_ErrFailedToReadLEB128), ("rtppackets/pub/rtp.ErrVLATooShort", Rows.laid_rtppackets_pub_rtp_ErrVLATooShort)] [.sentinel, .sentinel] true :=
  Program.laidByTextLater.sub seatTie1 ["rtppackets/pub/rtpobu.ErrFailedToReadLEB128", "rtppackets/pub/rtp.ErrVLATooShort"] (by kernel_rfl) (by kernel_rfl)
theorem fnLayers_row_tie : Rows.fnLayersRow.laidByTextAt .later Tryd.pinned [.sentinel, .sentinel] true :=
  OpenClaim.laidByTextAt_later rfl rfl tie2 noOwnUnsafe
theorem fnSendTimeUpto_row_tie : Rows.fnSendTimeUptoRow.laidByTextAt .later Tryd.pinned [.sentinel] true :=
  OpenClaim.laidByTextAt_later rfl rfl tie noOwnUnsafe
theorem fnSequenceUpto_row_tie : Rows.fnSequenceUptoRow.laidByTextAt .later Tryd.pinned [.sentinel] true :=
  OpenClaim.laidByTextAt_later rfl rfl tie noOwnUnsafe
theorem fnCaptureTimeUpto_row_tie : Rows.fnCaptureTimeUptoRow.laidByTextAt .later Tryd.pinned [.sentinel] true :=
  OpenClaim.laidByTextAt_later rfl rfl tie noOwnUnsafe
theorem fnLayersUpto_row_tie : Rows.fnLayersUptoRow.laidByTextAt .later Tryd.pinned [.sentinel, .sentinel] true :=
  OpenClaim.laidByTextAt_later rfl rfl tie2 noOwnUnsafe
end Go.Proofs.YtdlnmkpojiofoaaDoor
