/-
  DERIVED. GIVEN WITH THE SEED: THE CARDS: each row of YtdmnflngafbobaaDoorRows.lean that lists a variable, with what it lists TIED to the program's text (the seventh form; the later family's looks); each row that meets fmt, with fmt's text TOLD by the authors' own Lean function (tested against real Go, not proved from fmt's source: count such statements apart). THE CARD IS WHAT COUNTS. Prove the row's statement (the work); the ties are given (YtdmnflngafbobaaDoorTie.lean); close each card by the builder's one call (the guide's Derived/Test/ToyasCard.lean, 'card_holds'). Laid BY PROGRAM, IN A SANDBOX (cutbox-door.mjs). By AI agents, Wed Nov 11 2026. No macro, syntax, notation, axiom, sorry.
-/
import Derived.Test.YtdmnflngafbobaaDoorRows
import GoSem.ClaimSeven
namespace Go.Proofs.YtdmnflngafbobaaDoor
namespace Rows

/-- THE TIED CARD OF 'laws.FnHeaderWritten'. -/
def fnHeaderWrittenCard : Claim7 := { stood := { row := fnHeaderWrittenRow, standIns := [], harness := (true, "2e18a6e4efd941b7663bb411ccbe60a58a6d90b9cbd968c4da0c07f57a724266"), looks := false }, kinds := [], alts := [], laidByText := true, laidKinds := [.sentinel], laidTests := true, laidLooks := .later }
def FnHeaderWrittenCardSaid : Prop := Claim7.holds Tryd.pinned (.plain (OpenSpec.ofChange fnHeaderWrittenSpec)) fnHeaderWrittenCard

/-- THE TIED CARD OF 'laws.FnPacketWritten'. -/
def fnPacketWrittenCard : Claim7 := { stood := { row := fnPacketWrittenRow, standIns := [], harness := (true, "2e18a6e4efd941b7663bb411ccbe60a58a6d90b9cbd968c4da0c07f57a724266"), looks := false }, kinds := [], alts := [], laidByText := true, laidKinds := [.sentinel, .sentinel], laidTests := true, laidLooks := .later }
def FnPacketWrittenCardSaid : Prop := Claim7.holds Tryd.pinned (.plain (OpenSpec.ofChange fnPacketWrittenSpec)) fnPacketWrittenCard

/-- THE TIED CARD OF 'laws.FnBack'. -/
def fnBackCard : Claim7 := { stood := { row := fnBackRow, standIns := [], harness := (true, "2e18a6e4efd941b7663bb411ccbe60a58a6d90b9cbd968c4da0c07f57a724266"), looks := false }, kinds := [], alts := [], laidByText := true, laidKinds := [.sentinel, .sentinel, .sentinel, .sentinel, .sentinel], laidTests := true, laidLooks := .later }
def FnBackCardSaid : Prop := Claim7.holds Tryd.pinned (.plain (OpenSpec.ofChange fnBackSpec)) fnBackCard

/-- THE TIED CARD OF 'laws.FnPacket'. -/
def fnPacketCard : Claim7 := { stood := { row := fnPacketRow, standIns := [], harness := (true, "2e18a6e4efd941b7663bb411ccbe60a58a6d90b9cbd968c4da0c07f57a724266"), looks := false }, kinds := [], alts := [], laidByText := true, laidKinds := [.sentinel, .sentinel, .sentinel, .sentinel, .sentinel], laidTests := true, laidLooks := .later }
def FnPacketCardSaid : Prop := Claim7.holds Tryd.pinned (.plain (OpenSpec.ofChange fnPacketSpec)) fnPacketCard

/-- THE TIED CARD OF 'laws.FnReadWrite'. -/
def fnReadWriteCard : Claim7 := { stood := { row := fnReadWriteRow, standIns := [], harness := (true, "2e18a6e4efd941b7663bb411ccbe60a58a6d90b9cbd968c4da0c07f57a724266"), looks := false }, kinds := [], alts := [], laidByText := true, laidKinds := [.sentinel, .sentinel, .sentinel, .sentinel, .sentinel], laidTests := true, laidLooks := .later }
def FnReadWriteCardSaid : Prop := Claim7.holds Tryd.pinned (.plain (OpenSpec.ofChange fnReadWriteSpec)) fnReadWriteCard

/-- THE TIED CARD OF 'laws.FnHeader'. -/
def fnHeaderCard : Claim7 := { stood := { row := fnHeaderRow, standIns := [], harness := (true, "2e18a6e4efd941b7663bb411ccbe60a58a6d90b9cbd968c4da0c07f57a724266"), looks := false }, kinds := [], alts := [], laidByText := true, laidKinds := [.sentinel, .sentinel, .sentinel, .sentinel, .sentinel], laidTests := true, laidLooks := .later }
def FnHeaderCardSaid : Prop := Claim7.holds Tryd.pinned (.plain (OpenSpec.ofChange fnHeaderSpec)) fnHeaderCard

/-- THE TIED CARD OF 'laws.FnHeaderRoom'. -/
def fnHeaderRoomCard : Claim7 := { stood := { row := fnHeaderRoomRow, standIns := [], harness := (true, "2e18a6e4efd941b7663bb411ccbe60a58a6d90b9cbd968c4da0c07f57a724266"), looks := false }, kinds := [], alts := [], laidByText := true, laidKinds := [.sentinel, .sentinel, .sentinel, .sentinel, .sentinel], laidTests := true, laidLooks := .later }
def FnHeaderRoomCardSaid : Prop := Claim7.holds Tryd.pinned (.plain (OpenSpec.ofChange fnHeaderRoomSpec)) fnHeaderRoomCard

/-- THE TIED CARD OF 'laws.FnCheck'. -/
def fnCheckCard : Claim7 := { stood := { row := fnCheckRow, standIns := [], harness := (true, "2e18a6e4efd941b7663bb411ccbe60a58a6d90b9cbd968c4da0c07f57a724266"), looks := false }, kinds := [], alts := [], laidByText := true, laidKinds := [.sentinel, .sentinel, .sentinel, .sentinel, .sentinel, .sentinel, .sentinel, .sentinel, .sentinel, .sentinel], laidTests := true, laidLooks := .later }
def FnCheckCardSaid : Prop := Claim7.holds Tryd.pinned (.plain (OpenSpec.ofChange fnCheckSpec)) fnCheckCard

/-- THE TIED CARD OF 'laws.FnGet'. -/
def fnGetCard : Claim7 := { stood := { row := fnGetRow, standIns := [], harness := (true, "2e18a6e4efd941b7663bb411ccbe60a58a6d90b9cbd968c4da0c07f57a724266"), looks := false }, kinds := [], alts := [], laidByText := true, laidKinds := [.sentinel, .sentinel, .sentinel, .sentinel, .sentinel], laidTests := true, laidLooks := .later }
def FnGetCardSaid : Prop := Claim7.holds Tryd.pinned (.plain (OpenSpec.ofChange fnGetSpec)) fnGetCard

/-- THE TIED CARD OF 'laws.FnSteps'. -/
def fnStepsCard : Claim7 := { stood := { row := fnStepsRow, standIns := [], harness := (true, "2e18a6e4efd941b7663bb411ccbe60a58a6d90b9cbd968c4da0c07f57a724266"), looks := false }, kinds := [], alts := [], laidByText := true, laidKinds := [.sentinel, .sentinel, .sentinel, .sentinel, .sentinel, .sentinel, .sentinel, .sentinel, .sentinel, .sentinel, .sentinel, .sentinel], laidTests := true, laidLooks := .later }
def FnStepsCardSaid : Prop := Claim7.holds Tryd.pinned (.plain (OpenSpec.ofChange fnStepsSpec)) fnStepsCard

/-- THE TIED CARD OF 'laws.FnProfile'. -/
def fnProfileCard : Claim7 := { stood := { row := fnProfileRow, standIns := [], harness := (true, "2e18a6e4efd941b7663bb411ccbe60a58a6d90b9cbd968c4da0c07f57a724266"), looks := false }, kinds := [], alts := [], laidByText := true, laidKinds := [.sentinel, .sentinel, .sentinel, .sentinel, .sentinel, .sentinel, .sentinel, .sentinel, .sentinel, .sentinel, .sentinel, .sentinel], laidTests := true, laidLooks := .later }
def FnProfileCardSaid : Prop := Claim7.holds Tryd.pinned (.plain (OpenSpec.ofChange fnProfileSpec)) fnProfileCard

/-- THE TIED CARD OF 'laws.FnAudioLevel'. -/
def fnAudioLevelCard : Claim7 := { stood := { row := fnAudioLevelRow, standIns := [], harness := (true, "2e18a6e4efd941b7663bb411ccbe60a58a6d90b9cbd968c4da0c07f57a724266"), looks := false }, kinds := [], alts := [], laidByText := true, laidKinds := [.sentinel, .sentinel, .sentinel, .sentinel, .sentinel], laidTests := true, laidLooks := .later }
def FnAudioLevelCardSaid : Prop := Claim7.holds Tryd.pinned (.plain (OpenSpec.ofChange fnAudioLevelSpec)) fnAudioLevelCard

/-- THE TIED CARD OF 'laws.FnPlayout'. -/
def fnPlayoutCard : Claim7 := { stood := { row := fnPlayoutRow, standIns := [], harness := (true, "2e18a6e4efd941b7663bb411ccbe60a58a6d90b9cbd968c4da0c07f57a724266"), looks := false }, kinds := [], alts := [], laidByText := true, laidKinds := [.sentinel, .sentinel, .sentinel, .sentinel, .sentinel], laidTests := true, laidLooks := .later }
def FnPlayoutCardSaid : Prop := Claim7.holds Tryd.pinned (.plain (OpenSpec.ofChange fnPlayoutSpec)) fnPlayoutCard

/-- THE TIED CARD OF 'laws.FnBlocks'. -/
def fnBlocksCard : Claim7 := { stood := { row := fnBlocksRow, standIns := [], harness := (true, "2e18a6e4efd941b7663bb411ccbe60a58a6d90b9cbd968c4da0c07f57a724266"), looks := false }, kinds := [], alts := [], laidByText := true, laidKinds := [.sentinel, .sentinel, .sentinel, .sentinel, .sentinel], laidTests := true, laidLooks := .later }
def FnBlocksCardSaid : Prop := Claim7.holds Tryd.pinned (.plain (OpenSpec.ofChange fnBlocksSpec)) fnBlocksCard

/-- THE SECOND FORM's CARD OF 'laws.FnHeaderWritten'. -/
def fnHeaderWrittenUptoCard : Claim7 := { stood := { row := fnHeaderWrittenUptoRow, standIns := [], harness := (true, "2e18a6e4efd941b7663bb411ccbe60a58a6d90b9cbd968c4da0c07f57a724266"), looks := false }, kinds := [], alts := [], laidByText := true, laidKinds := [.sentinel], laidTests := true, laidLooks := .later }
def FnHeaderWrittenUptoCardSaid : Prop := Claim7.holds Tryd.pinned (.plain (OpenSpec.upto fnHeaderWrittenSpec)) fnHeaderWrittenUptoCard

/-- THE SECOND FORM's CARD OF 'laws.FnPacketWritten'. -/
def fnPacketWrittenUptoCard : Claim7 := { stood := { row := fnPacketWrittenUptoRow, standIns := [], harness := (true, "2e18a6e4efd941b7663bb411ccbe60a58a6d90b9cbd968c4da0c07f57a724266"), looks := false }, kinds := [], alts := [], laidByText := true, laidKinds := [.sentinel, .sentinel], laidTests := true, laidLooks := .later }
def FnPacketWrittenUptoCardSaid : Prop := Claim7.holds Tryd.pinned (.plain (OpenSpec.upto fnPacketWrittenSpec)) fnPacketWrittenUptoCard

/-- THE SECOND FORM's CARD OF 'laws.FnBack'. -/
def fnBackUptoCard : Claim7 := { stood := { row := fnBackUptoRow, standIns := [], harness := (true, "2e18a6e4efd941b7663bb411ccbe60a58a6d90b9cbd968c4da0c07f57a724266"), looks := false }, kinds := [], alts := [], laidByText := true, laidKinds := [.sentinel, .sentinel, .sentinel, .sentinel, .sentinel], laidTests := true, laidLooks := .later }
def FnBackUptoCardSaid : Prop := Claim7.holds Tryd.pinned (.plain (OpenSpec.upto fnBackSpec)) fnBackUptoCard

/-- THE SECOND FORM's CARD OF 'laws.FnPacket'. -/
def fnPacketUptoCard : Claim7 := { stood := { row := fnPacketUptoRow, standIns := [], harness := (true, "2e18a6e4efd941b7663bb411ccbe60a58a6d90b9cbd968c4da0c07f57a724266"), looks := false }, kinds := [], alts := [], laidByText := true, laidKinds := [.sentinel, .sentinel, .sentinel, .sentinel, .sentinel], laidTests := true, laidLooks := .later }
def FnPacketUptoCardSaid : Prop := Claim7.holds Tryd.pinned (.plain (OpenSpec.upto fnPacketSpec)) fnPacketUptoCard

/-- THE SECOND FORM's CARD OF 'laws.FnReadWrite'. -/
def fnReadWriteUptoCard : Claim7 := { stood := { row := fnReadWriteUptoRow, standIns := [], harness := (true, "2e18a6e4efd941b7663bb411ccbe60a58a6d90b9cbd968c4da0c07f57a724266"), looks := false }, kinds := [], alts := [], laidByText := true, laidKinds := [.sentinel, .sentinel, .sentinel, .sentinel, .sentinel], laidTests := true, laidLooks := .later }
def FnReadWriteUptoCardSaid : Prop := Claim7.holds Tryd.pinned (.plain (OpenSpec.upto fnReadWriteSpec)) fnReadWriteUptoCard

/-- THE SECOND FORM's CARD OF 'laws.FnHeader'. -/
def fnHeaderUptoCard : Claim7 := { stood := { row := fnHeaderUptoRow, standIns := [], harness := (true, "2e18a6e4efd941b7663bb411ccbe60a58a6d90b9cbd968c4da0c07f57a724266"), looks := false }, kinds := [], alts := [], laidByText := true, laidKinds := [.sentinel, .sentinel, .sentinel, .sentinel, .sentinel], laidTests := true, laidLooks := .later }
def FnHeaderUptoCardSaid : Prop := Claim7.holds Tryd.pinned (.plain (OpenSpec.upto fnHeaderSpec)) fnHeaderUptoCard

/-- THE SECOND FORM's CARD OF 'laws.FnHeaderRoom'. -/
def fnHeaderRoomUptoCard : Claim7 := { stood := { row := fnHeaderRoomUptoRow, standIns := [], harness := (true, "2e18a6e4efd941b7663bb411ccbe60a58a6d90b9cbd968c4da0c07f57a724266"), looks := false }, kinds := [], alts := [], laidByText := true, laidKinds := [.sentinel, .sentinel, .sentinel, .sentinel, .sentinel], laidTests := true, laidLooks := .later }
def FnHeaderRoomUptoCardSaid : Prop := Claim7.holds Tryd.pinned (.plain (OpenSpec.upto fnHeaderRoomSpec)) fnHeaderRoomUptoCard

/-- THE SECOND FORM's CARD OF 'laws.FnCheck'. -/
def fnCheckUptoCard : Claim7 := { stood := { row := fnCheckUptoRow, standIns := [], harness := (true, "2e18a6e4efd941b7663bb411ccbe60a58a6d90b9cbd968c4da0c07f57a724266"), looks := false }, kinds := [], alts := [], laidByText := true, laidKinds := [.sentinel, .sentinel, .sentinel, .sentinel, .sentinel, .sentinel, .sentinel, .sentinel, .sentinel, .sentinel], laidTests := true, laidLooks := .later }
def FnCheckUptoCardSaid : Prop := Claim7.holds Tryd.pinned (.plain (OpenSpec.upto fnCheckSpec)) fnCheckUptoCard

/-- THE SECOND FORM's CARD OF 'laws.FnGet'. -/
def fnGetUptoCard : Claim7 := { stood := { row := fnGetUptoRow, standIns := [], harness := (true, "2e18a6e4efd941b7663bb411ccbe60a58a6d90b9cbd968c4da0c07f57a724266"), looks := false }, kinds := [], alts := [], laidByText := true, laidKinds := [.sentinel, .sentinel, .sentinel, .sentinel, .sentinel], laidTests := true, laidLooks := .later }
def FnGetUptoCardSaid : Prop := Claim7.holds Tryd.pinned (.plain (OpenSpec.upto fnGetSpec)) fnGetUptoCard

/-- THE SECOND FORM's CARD OF 'laws.FnSteps'. -/
def fnStepsUptoCard : Claim7 := { stood := { row := fnStepsUptoRow, standIns := [], harness := (true, "2e18a6e4efd941b7663bb411ccbe60a58a6d90b9cbd968c4da0c07f57a724266"), looks := false }, kinds := [], alts := [], laidByText := true, laidKinds := [.sentinel, .sentinel, .sentinel, .sentinel, .sentinel, .sentinel, .sentinel, .sentinel, .sentinel, .sentinel, .sentinel, .sentinel], laidTests := true, laidLooks := .later }
def FnStepsUptoCardSaid : Prop := Claim7.holds Tryd.pinned (.plain (OpenSpec.upto fnStepsSpec)) fnStepsUptoCard

/-- THE SECOND FORM's CARD OF 'laws.FnProfile'. -/
def fnProfileUptoCard : Claim7 := { stood := { row := fnProfileUptoRow, standIns := [], harness := (true, "2e18a6e4efd941b7663bb411ccbe60a58a6d90b9cbd968c4da0c07f57a724266"), looks := false }, kinds := [], alts := [], laidByText := true, laidKinds := [.sentinel, .sentinel, .sentinel, .sentinel, .sentinel, .sentinel, .sentinel, .sentinel, .sentinel, .sentinel, .sentinel, .sentinel], laidTests := true, laidLooks := .later }
def FnProfileUptoCardSaid : Prop := Claim7.holds Tryd.pinned (.plain (OpenSpec.upto fnProfileSpec)) fnProfileUptoCard

/-- THE SECOND FORM's CARD OF 'laws.FnAudioLevel'. -/
def fnAudioLevelUptoCard : Claim7 := { stood := { row := fnAudioLevelUptoRow, standIns := [], harness := (true, "2e18a6e4efd941b7663bb411ccbe60a58a6d90b9cbd968c4da0c07f57a724266"), looks := false }, kinds := [], alts := [], laidByText := true, laidKinds := [.sentinel, .sentinel, .sentinel, .sentinel, .sentinel], laidTests := true, laidLooks := .later }
def FnAudioLevelUptoCardSaid : Prop := Claim7.holds Tryd.pinned (.plain (OpenSpec.upto fnAudioLevelSpec)) fnAudioLevelUptoCard

/-- THE SECOND FORM's CARD OF 'laws.FnPlayout'. -/
def fnPlayoutUptoCard : Claim7 := { stood := { row := fnPlayoutUptoRow, standIns := [], harness := (true, "2e18a6e4efd941b7663bb411ccbe60a58a6d90b9cbd968c4da0c07f57a724266"), looks := false }, kinds := [], alts := [], laidByText := true, laidKinds := [.sentinel, .sentinel, .sentinel, .sentinel, .sentinel], laidTests := true, laidLooks := .later }
def FnPlayoutUptoCardSaid : Prop := Claim7.holds Tryd.pinned (.plain (OpenSpec.upto fnPlayoutSpec)) fnPlayoutUptoCard

/-- THE SECOND FORM's CARD OF 'laws.FnBlocks'. -/
def fnBlocksUptoCard : Claim7 := { stood := { row := fnBlocksUptoRow, standIns := [], harness := (true, "2e18a6e4efd941b7663bb411ccbe60a58a6d90b9cbd968c4da0c07f57a724266"), looks := false }, kinds := [], alts := [], laidByText := true, laidKinds := [.sentinel, .sentinel, .sentinel, .sentinel, .sentinel], laidTests := true, laidLooks := .later }
def FnBlocksUptoCardSaid : Prop := Claim7.holds Tryd.pinned (.plain (OpenSpec.upto fnBlocksSpec)) fnBlocksUptoCard
end Rows
end Go.Proofs.YtdmnflngafbobaaDoor
