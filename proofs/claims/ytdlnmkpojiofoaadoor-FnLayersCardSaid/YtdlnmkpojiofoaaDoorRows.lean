/-
  NARROWER THAN 'FOR EVERY INPUT', by the rows' own cells (each row's printed sentence says how): FnSendTime: laid · FnSequence: laid · FnCaptureTime: laid · FnLayers: laid.
  DERIVED. THE GIVEN ROWS OF THIS SEAT. 4 by the template 'for every input the law returns true; each argument reads behind the call as it read before'; 0 by the template 'total and deterministic' (their statements: YtdlnmkpojiofoaaDoorTotals.lean).
  GIVEN WITH THE SEED: the statements are not yours to turn. If you find one false, say at which input.
  Laid BY PROGRAM, IN A SANDBOX (cutbox-rows.mjs): the forced cells as the released guide's own fill.sh prints them over the translation 6cf3cdb06e9968f2… (all of the seat's roots in one cut). By AI agents, Wed Nov 11 2026. No macro, syntax, notation, axiom, sorry.
-/
import Derived.Test.YtdlnmkpojiofoaaDoorChecked
import GoSem.Claim
import GoSem.ClaimJoined
import GoSem.ClaimMapViews
import Derived.JoinedTies
import Derived.KernelRfl
namespace Go.Proofs.YtdlnmkpojiofoaaDoor
/- THE CELL 'sum', in the pinned program and in every row, IS THE sha256 OF THE DUMP (.gsa) THAT YtdlnmkpojiofoaaDoorProg.lean LOADS. Nothing in Lean hashes anything: it is a label: what it is worth is what the hold of that sum in a sandbox is worth. -/
noncomputable def Tryd.pinned : Pinned := { name := "ytdlnmkpojiofoaadoor", sum := "6cf3cdb06e9968f276e44acf7aa5c0da2c7144802021447981f98472e67e6246", checked := Tryd.checked }
namespace Rows
def none {H : Type} : Left H := { results := [], args := [] }

/- WHAT THE LISTED PACKAGE-LEVEL VARIABLES READ AS WHEN THE CALL BEGINS. Each datum BY PROGRAM (the guide's laid-datum.mjs) off the statement by which the dump's own 'gosem.cut.vars' lays the variable. In a bare row this is a premise. The card (YtdlnmkpojiofoaaDoorCards.lean) ties it to the program's text. -/
def laid_rtppackets_pub_rtp_errTooSmall {H : Type} : DataW H := .iface "*errors.errorString" (.ptr (.agg [.lit (.string [98, 117, 102, 102, 101, 114, 32, 116, 111, 111, 32, 115, 109, 97, 108, 108])]))
def laid_rtppackets_pub_rtpobu_ErrFailedToReadLEB128 {H : Type} : DataW H := .iface "*errors.errorString" (.ptr (.agg [.lit (.string [112, 97, 121, 108, 111, 97, 100, 32, 101, 110, 100, 101, 100, 32, 98, 101, 102, 111, 114, 101, 32, 76, 69, 66, 49, 50, 56, 32, 119, 97, 115, 32, 102, 105, 110, 105, 115, 104, 101, 100])]))
def laid_rtppackets_pub_rtp_ErrVLATooShort {H : Type} : DataW H := .iface "*errors.errorString" (.ptr (.agg [.lit (.string [86, 76, 65, 32, 112, 97, 121, 108, 111, 97, 100, 32, 116, 111, 111, 32, 115, 104, 111, 114, 116])]))

/-- 'laws.FnSendTime': WHATEVER THE INPUT: true; the input reads as it did. -/
def fnSendTimeSpec : ChangeSpec := { name := "fnSendTime", fn := fun _ => fun
  | [d1, d2] => { results := [.lit (.bool true)], args := [d1, d2] }
  | _ => none }
def fnSendTimeRow : OpenClaim := { program := "ytdlnmkpojiofoaadoor", sum := "6cf3cdb06e9968f276e44acf7aa5c0da2c7144802021447981f98472e67e6246", func := "rtppackets/laws.FnSendTime", spec := "fnSendTime", unfollowed := true, recurses := true, named := ["rtppackets/pub/rtp.errTooSmall"], apart := false, laid := [("rtppackets/pub/rtp.errTooSmall", laid_rtppackets_pub_rtp_errTooSmall)] }
def FnSendTimeSaid : Prop := fnSendTimeRow.holds Tryd.pinned (OpenSpec.ofChange fnSendTimeSpec)

/-- ITS FALSE NEIGHBOUR: 'it returns false'. Refute it at one input. -/
def fnSendTimeWrong : ChangeSpec := { name := "fnSendTime", fn := fun _ => fun
  | [d1, d2] => { results := [.lit (.bool false)], args := [d1, d2] }
  | _ => none }
def FnSendTimeWrongFalsely : Prop := fnSendTimeRow.holds Tryd.pinned (OpenSpec.ofChange fnSendTimeWrong)

/-- 'laws.FnSequence': WHATEVER THE INPUT: true; the input reads as it did. -/
def fnSequenceSpec : ChangeSpec := { name := "fnSequence", fn := fun _ => fun
  | [d1, d2] => { results := [.lit (.bool true)], args := [d1, d2] }
  | _ => none }
def fnSequenceRow : OpenClaim := { program := "ytdlnmkpojiofoaadoor", sum := "6cf3cdb06e9968f276e44acf7aa5c0da2c7144802021447981f98472e67e6246", func := "rtppackets/laws.FnSequence", spec := "fnSequence", unfollowed := true, recurses := true, named := ["rtppackets/pub/rtp.errTooSmall"], apart := false, laid := [("rtppackets/pub/rtp.errTooSmall", laid_rtppackets_pub_rtp_errTooSmall)] }
def FnSequenceSaid : Prop := fnSequenceRow.holds Tryd.pinned (OpenSpec.ofChange fnSequenceSpec)

/-- ITS FALSE NEIGHBOUR: 'it returns false'. Refute it at one input. -/
def fnSequenceWrong : ChangeSpec := { name := "fnSequence", fn := fun _ => fun
  | [d1, d2] => { results := [.lit (.bool false)], args := [d1, d2] }
  | _ => none }
def FnSequenceWrongFalsely : Prop := fnSequenceRow.holds Tryd.pinned (OpenSpec.ofChange fnSequenceWrong)

/-- 'laws.FnCaptureTime': WHATEVER THE INPUT: true; the input reads as it did. -/
def fnCaptureTimeSpec : ChangeSpec := { name := "fnCaptureTime", fn := fun _ => fun
  | [d1, d2] => { results := [.lit (.bool true)], args := [d1, d2] }
  | _ => none }
def fnCaptureTimeRow : OpenClaim := { program := "ytdlnmkpojiofoaadoor", sum := "6cf3cdb06e9968f276e44acf7aa5c0da2c7144802021447981f98472e67e6246", func := "rtppackets/laws.FnCaptureTime", spec := "fnCaptureTime", unfollowed := true, recurses := true, named := ["rtppackets/pub/rtp.errTooSmall"], apart := false, laid := [("rtppackets/pub/rtp.errTooSmall", laid_rtppackets_pub_rtp_errTooSmall)] }
def FnCaptureTimeSaid : Prop := fnCaptureTimeRow.holds Tryd.pinned (OpenSpec.ofChange fnCaptureTimeSpec)

/-- ITS FALSE NEIGHBOUR: 'it returns false'. Refute it at one input. -/
def fnCaptureTimeWrong : ChangeSpec := { name := "fnCaptureTime", fn := fun _ => fun
  | [d1, d2] => { results := [.lit (.bool false)], args := [d1, d2] }
  | _ => none }
def FnCaptureTimeWrongFalsely : Prop := fnCaptureTimeRow.holds Tryd.pinned (OpenSpec.ofChange fnCaptureTimeWrong)

/-- 'laws.FnLayers': WHATEVER THE INPUT: true; the input reads as it did. -/
def fnLayersSpec : ChangeSpec := { name := "fnLayers", fn := fun _ => fun
  | [d1, d2, d3, d4, d5] => { results := [.lit (.bool true)], args := [d1, d2, d3, d4, d5] }
  | _ => none }
def fnLayersRow : OpenClaim := { program := "ytdlnmkpojiofoaadoor", sum := "6cf3cdb06e9968f276e44acf7aa5c0da2c7144802021447981f98472e67e6246", func := "rtppackets/laws.FnLayers", spec := "fnLayers", unfollowed := true, recurses := true, named := ["rtppackets/pub/rtp.ErrVLATooShort", "rtppackets/pub/rtpobu.ErrFailedToReadLEB128"], apart := false, laid := [("rtppackets/pub/rtpobu.ErrFailedToReadLEB128", laid_rtppackets_pub_rtpobu_ErrFailedToReadLEB128), ("rtppackets/pub/rtp.ErrVLATooShort", laid_rtppackets_pub_rtp_ErrVLATooShort)] }
def FnLayersSaid : Prop := fnLayersRow.holds Tryd.pinned (OpenSpec.ofChange fnLayersSpec)

/-- ITS FALSE NEIGHBOUR: 'it returns false'. Refute it at one input. -/
def fnLayersWrong : ChangeSpec := { name := "fnLayers", fn := fun _ => fun
  | [d1, d2, d3, d4, d5] => { results := [.lit (.bool false)], args := [d1, d2, d3, d4, d5] }
  | _ => none }
def FnLayersWrongFalsely : Prop := fnLayersRow.holds Tryd.pinned (OpenSpec.ofChange fnLayersWrong)

/- THE SECOND FORM. 'bulk': how many values and letters a reading holds, each counted each time it is reached (what is shared counts as often as it is met; a slice's spare places count too). A statement '..UptoSaid' is the law's where the arguments, and the package variables that the reading takes, are together of bulk at most 1048576: NARROWER than '..Said'. Prove '..Said' where nothing that the law and all that it calls make is longer than what came in: it says more and counts as full. Else prove '..UptoSaid'. A law counts once. -/
mutual
def uptoBulk {H : Type} : DataW H → Nat
  | .lit (.string bytes) => bytes.length + 1
  | .lit _ => 1
  | .nil => 1
  | .ptr d => uptoBulk d + 1
  | .slice elems spare => uptoBulkAll elems + uptoBulkAll spare + 1
  | .agg parts => uptoBulkAll parts + 1
  | .iface _ d => uptoBulk d + 1
  | .map entries => uptoBulkEntries entries + 1
  | .held _ => 1
def uptoBulkAll {H : Type} : List (DataW H) → Nat
  | [] => 0
  | d :: r => uptoBulk d + uptoBulkAll r
def uptoBulkEntries {H : Type} : List (Lit × DataW H) → Nat
  | [] => 0
  | x :: r => uptoBulkEntry x + uptoBulkEntries r
def uptoBulkEntry {H : Type} : Lit × DataW H → Nat
  | (.string bytes, d) => bytes.length + uptoBulk d + 1
  | (_, d) => uptoBulk d + 1
 end
def uptoSmall : (H : Type) → List (DataW H) → Bool := fun _ ds => decide (uptoBulkAll ds ≤ 1048576)
def OpenSpec.upto (s : _root_.Go.ChangeSpec) : _root_.Go.OpenSpec := { _root_.Go.OpenSpec.ofChange s with cond := some uptoSmall }

/-- 'laws.FnSendTime', WHERE WHAT IT READS IS OF BULK AT MOST 1048576: true; the input reads as it did. -/
def fnSendTimeUptoRow : OpenClaim := { program := "ytdlnmkpojiofoaadoor", sum := "6cf3cdb06e9968f276e44acf7aa5c0da2c7144802021447981f98472e67e6246", func := "rtppackets/laws.FnSendTime", spec := "fnSendTime", unfollowed := true, recurses := true, named := ["rtppackets/pub/rtp.errTooSmall"], apart := false, laid := [("rtppackets/pub/rtp.errTooSmall", laid_rtppackets_pub_rtp_errTooSmall)], narrowed := true }
def FnSendTimeUptoSaid : Prop := fnSendTimeUptoRow.holds Tryd.pinned (OpenSpec.upto fnSendTimeSpec)

/-- 'laws.FnSequence', WHERE WHAT IT READS IS OF BULK AT MOST 1048576: true; the input reads as it did. -/
def fnSequenceUptoRow : OpenClaim := { program := "ytdlnmkpojiofoaadoor", sum := "6cf3cdb06e9968f276e44acf7aa5c0da2c7144802021447981f98472e67e6246", func := "rtppackets/laws.FnSequence", spec := "fnSequence", unfollowed := true, recurses := true, named := ["rtppackets/pub/rtp.errTooSmall"], apart := false, laid := [("rtppackets/pub/rtp.errTooSmall", laid_rtppackets_pub_rtp_errTooSmall)], narrowed := true }
def FnSequenceUptoSaid : Prop := fnSequenceUptoRow.holds Tryd.pinned (OpenSpec.upto fnSequenceSpec)

/-- 'laws.FnCaptureTime', WHERE WHAT IT READS IS OF BULK AT MOST 1048576: true; the input reads as it did. -/
def fnCaptureTimeUptoRow : OpenClaim := { program := "ytdlnmkpojiofoaadoor", sum := "6cf3cdb06e9968f276e44acf7aa5c0da2c7144802021447981f98472e67e6246", func := "rtppackets/laws.FnCaptureTime", spec := "fnCaptureTime", unfollowed := true, recurses := true, named := ["rtppackets/pub/rtp.errTooSmall"], apart := false, laid := [("rtppackets/pub/rtp.errTooSmall", laid_rtppackets_pub_rtp_errTooSmall)], narrowed := true }
def FnCaptureTimeUptoSaid : Prop := fnCaptureTimeUptoRow.holds Tryd.pinned (OpenSpec.upto fnCaptureTimeSpec)

/-- 'laws.FnLayers', WHERE WHAT IT READS IS OF BULK AT MOST 1048576: true; the input reads as it did. -/
def fnLayersUptoRow : OpenClaim := { program := "ytdlnmkpojiofoaadoor", sum := "6cf3cdb06e9968f276e44acf7aa5c0da2c7144802021447981f98472e67e6246", func := "rtppackets/laws.FnLayers", spec := "fnLayers", unfollowed := true, recurses := true, named := ["rtppackets/pub/rtp.ErrVLATooShort", "rtppackets/pub/rtpobu.ErrFailedToReadLEB128"], apart := false, laid := [("rtppackets/pub/rtpobu.ErrFailedToReadLEB128", laid_rtppackets_pub_rtpobu_ErrFailedToReadLEB128), ("rtppackets/pub/rtp.ErrVLATooShort", laid_rtppackets_pub_rtp_ErrVLATooShort)], narrowed := true }
def FnLayersUptoSaid : Prop := fnLayersUptoRow.holds Tryd.pinned (OpenSpec.upto fnLayersSpec)

end Rows
end Go.Proofs.YtdlnmkpojiofoaaDoor
