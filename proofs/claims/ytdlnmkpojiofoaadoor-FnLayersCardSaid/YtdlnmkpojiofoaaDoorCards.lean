/-
  DERIVED. GIVEN WITH THE SEED: THE CARDS: each row of YtdlnmkpojiofoaaDoorRows.lean that lists a variable, with what it lists TIED to the program's text (the seventh form; the later family's looks); each row that meets fmt, with fmt's text TOLD by the authors' own Lean function (tested against real Go, not proved from fmt's source: count such statements apart). THE CARD IS WHAT COUNTS. Prove the row's statement (the work); the ties are given (YtdlnmkpojiofoaaDoorTie.lean); close each card by the builder's one call (the guide's Derived/Test/ToyasCard.lean, 'card_holds'). Laid BY PROGRAM, IN A SANDBOX (cutbox-door.mjs). By AI agents, Wed Nov 11 2026. No macro, syntax, notation, axiom, sorry.
-/
import Derived.Test.YtdlnmkpojiofoaaDoorRows
import GoSem.ClaimSeven
namespace Go.Proofs.YtdlnmkpojiofoaaDoor
namespace Rows

/-- THE TIED CARD OF 'laws.FnSendTime'. -/
def fnSendTimeCard : Claim7 := { stood := { row := fnSendTimeRow, standIns := [], harness := (true, "c3be1352f79792104cf23e812dddc75bb08ba0da0562c0bc681e9ba83d578e2f"), looks := false }, kinds := [], alts := [], laidByText := true, laidKinds := [.sentinel], laidTests := true, laidLooks := .later }
def FnSendTimeCardSaid : Prop := Claim7.holds Tryd.pinned (.plain (OpenSpec.ofChange fnSendTimeSpec)) fnSendTimeCard

/-- THE TIED CARD OF 'laws.FnSequence'. -/
def fnSequenceCard : Claim7 := { stood := { row := fnSequenceRow, standIns := [], harness := (true, "c3be1352f79792104cf23e812dddc75bb08ba0da0562c0bc681e9ba83d578e2f"), looks := false }, kinds := [], alts := [], laidByText := true, laidKinds := [.sentinel], laidTests := true, laidLooks := .later }
def FnSequenceCardSaid : Prop := Claim7.holds Tryd.pinned (.plain (OpenSpec.ofChange fnSequenceSpec)) fnSequenceCard

/-- THE TIED CARD OF 'laws.FnCaptureTime'. -/
def fnCaptureTimeCard : Claim7 := { stood := { row := fnCaptureTimeRow, standIns := [], harness := (true, "c3be1352f79792104cf23e812dddc75bb08ba0da0562c0bc681e9ba83d578e2f"), looks := false }, kinds := [], alts := [], laidByText := true, laidKinds := [.sentinel], laidTests := true, laidLooks := .later }
def FnCaptureTimeCardSaid : Prop := Claim7.holds Tryd.pinned (.plain (OpenSpec.ofChange fnCaptureTimeSpec)) fnCaptureTimeCard

/-- THE TIED CARD OF 'laws.FnLayers'. -/
def fnLayersCard : Claim7 := { stood := { row := fnLayersRow, standIns := [], harness := (true, "c3be1352f79792104cf23e812dddc75bb08ba0da0562c0bc681e9ba83d578e2f"), looks := false }, kinds := [], alts := [], laidByText := true, laidKinds := [.sentinel, .sentinel], laidTests := true, laidLooks := .later }
def FnLayersCardSaid : Prop := Claim7.holds Tryd.pinned (.plain (OpenSpec.ofChange fnLayersSpec)) fnLayersCard

/-- THE SECOND FORM's CARD OF 'laws.FnSendTime'. -/
def fnSendTimeUptoCard : Claim7 := { stood := { row := fnSendTimeUptoRow, standIns := [], harness := (true, "c3be1352f79792104cf23e812dddc75bb08ba0da0562c0bc681e9ba83d578e2f"), looks := false }, kinds := [], alts := [], laidByText := true, laidKinds := [.sentinel], laidTests := true, laidLooks := .later }
def FnSendTimeUptoCardSaid : Prop := Claim7.holds Tryd.pinned (.plain (OpenSpec.upto fnSendTimeSpec)) fnSendTimeUptoCard

/-- THE SECOND FORM's CARD OF 'laws.FnSequence'. -/
def fnSequenceUptoCard : Claim7 := { stood := { row := fnSequenceUptoRow, standIns := [], harness := (true, "c3be1352f79792104cf23e812dddc75bb08ba0da0562c0bc681e9ba83d578e2f"), looks := false }, kinds := [], alts := [], laidByText := true, laidKinds := [.sentinel], laidTests := true, laidLooks := .later }
def FnSequenceUptoCardSaid : Prop := Claim7.holds Tryd.pinned (.plain (OpenSpec.upto fnSequenceSpec)) fnSequenceUptoCard

/-- THE SECOND FORM's CARD OF 'laws.FnCaptureTime'. -/
def fnCaptureTimeUptoCard : Claim7 := { stood := { row := fnCaptureTimeUptoRow, standIns := [], harness := (true, "c3be1352f79792104cf23e812dddc75bb08ba0da0562c0bc681e9ba83d578e2f"), looks := false }, kinds := [], alts := [], laidByText := true, laidKinds := [.sentinel], laidTests := true, laidLooks := .later }
def FnCaptureTimeUptoCardSaid : Prop := Claim7.holds Tryd.pinned (.plain (OpenSpec.upto fnCaptureTimeSpec)) fnCaptureTimeUptoCard

/-- THE SECOND FORM's CARD OF 'laws.FnLayers'. -/
def fnLayersUptoCard : Claim7 := { stood := { row := fnLayersUptoRow, standIns := [], harness := (true, "c3be1352f79792104cf23e812dddc75bb08ba0da0562c0bc681e9ba83d578e2f"), looks := false }, kinds := [], alts := [], laidByText := true, laidKinds := [.sentinel, .sentinel], laidTests := true, laidLooks := .later }
def FnLayersUptoCardSaid : Prop := Claim7.holds Tryd.pinned (.plain (OpenSpec.upto fnLayersSpec)) fnLayersUptoCard
end Rows
end Go.Proofs.YtdlnmkpojiofoaaDoor
