/-
  DERIVED. GIVEN WITH THE SEED: THE CARDS: each row of YtalgnjkdoaaacaaGreatDoorRows.lean that lists a variable, with what it lists TIED to the program's text (the seventh form; the later family's looks); each row that meets fmt, with fmt's text TOLD by the authors' own Lean function (tested against real Go, not proved from fmt's source: count such statements apart). THE CARD IS WHAT COUNTS. Prove the row's statement (the work); the ties are given (YtalgnjkdoaaacaaGreatDoorTie.lean); close each card by the builder's one call (the guide's Derived/Test/ToyasCard.lean, 'card_holds'). Laid BY PROGRAM, IN A SANDBOX (cutbox-door.mjs). By AI agents, Wed Nov 11 2026. No macro, syntax, notation, axiom, sorry.
-/
import Derived.Test.YtalgnjkdoaaacaaGreatDoorRows
import GoSem.ClaimSeven
namespace Go.Proofs.YtalgnjkdoaaacaaGreatDoor
namespace Rows

/-- THE TIED CARD OF 'laws.FnTruncated'. -/
def fnTruncatedCard : Claim7 := { stood := { row := fnTruncatedRow, standIns := [], harness := (true, "9c0de20b14eea379180db8988a8ff4d91f67c21ffe597951cb2dae7e96553039"), looks := true }, kinds := [], alts := [], laidByText := true, laidKinds := [.data, .sentinel, .sentinel, .sentinel, .sentinel, .sentinel, .sentinel, .sentinel, .sentinel, .sentinel, .pinned], laidTests := true, laidLooks := .later }
def FnTruncatedCardSaid : Prop := Claim7.holds Tryz.pinned (.plain (OpenSpec.ofChange fnTruncatedSpec)) fnTruncatedCard

/-- THE TIED CARD OF 'laws.FnExactOffset'. -/
def fnExactOffsetCard : Claim7 := { stood := { row := fnExactOffsetRow, standIns := [], harness := (true, "9c0de20b14eea379180db8988a8ff4d91f67c21ffe597951cb2dae7e96553039"), looks := true }, kinds := [], alts := [], laidByText := true, laidKinds := [.data, .sentinel, .sentinel, .sentinel, .sentinel, .sentinel, .sentinel, .sentinel, .sentinel, .sentinel, .pinned], laidTests := true, laidLooks := .later }
def FnExactOffsetCardSaid : Prop := Claim7.holds Tryz.pinned (.plain (OpenSpec.ofChange fnExactOffsetSpec)) fnExactOffsetCard

/-- THE TIED CARD OF 'laws.FnExactRaw'. -/
def fnExactRawCard : Claim7 := { stood := { row := fnExactRawRow, standIns := [], harness := (true, "9c0de20b14eea379180db8988a8ff4d91f67c21ffe597951cb2dae7e96553039"), looks := true }, kinds := [], alts := [], laidByText := true, laidKinds := [.data, .sentinel, .sentinel, .sentinel, .sentinel, .sentinel, .sentinel, .sentinel, .sentinel, .sentinel, .pinned], laidTests := true, laidLooks := .later }
def FnExactRawCardSaid : Prop := Claim7.holds Tryz.pinned (.plain (OpenSpec.ofChange fnExactRawSpec)) fnExactRawCard

/-- THE TIED CARD OF 'laws.FnCopyRead'. -/
def fnCopyReadCard : Claim7 := { stood := { row := fnCopyReadRow, standIns := [], harness := (true, "9c0de20b14eea379180db8988a8ff4d91f67c21ffe597951cb2dae7e96553039"), looks := true }, kinds := [], alts := [], laidByText := true, laidKinds := [.data, .sentinel, .sentinel, .sentinel, .sentinel, .sentinel, .sentinel, .sentinel, .sentinel, .sentinel, .sentinel, .sentinel, .sentinel, .sentinel, .pinned], laidTests := true, laidLooks := .later }
def FnCopyReadCardSaid : Prop := Claim7.holds Tryz.pinned (.plain (OpenSpec.ofChange fnCopyReadSpec)) fnCopyReadCard

/-- THE TIED CARD OF 'laws.FnWriteLocal'. -/
def fnWriteLocalCard : Claim7 := { stood := { row := fnWriteLocalRow, standIns := [], harness := (true, "9c0de20b14eea379180db8988a8ff4d91f67c21ffe597951cb2dae7e96553039"), looks := true }, kinds := [], alts := [], laidByText := true, laidKinds := [.data, .sentinel, .sentinel, .sentinel, .sentinel, .sentinel, .sentinel, .sentinel, .sentinel, .sentinel, .sentinel, .sentinel, .sentinel, .pinned], laidTests := true, laidLooks := .later }
def FnWriteLocalCardSaid : Prop := Claim7.holds Tryz.pinned (.plain (OpenSpec.ofChange fnWriteLocalSpec)) fnWriteLocalCard

/-- THE TIED CARD OF 'laws.FnRawRead'. -/
def fnRawReadCard : Claim7 := { stood := { row := fnRawReadRow, standIns := [], harness := (true, "9c0de20b14eea379180db8988a8ff4d91f67c21ffe597951cb2dae7e96553039"), looks := true }, kinds := [], alts := [], laidByText := true, laidKinds := [.data, .sentinel, .sentinel, .sentinel, .sentinel, .sentinel, .sentinel, .sentinel, .sentinel, .sentinel, .sentinel, .sentinel, .sentinel, .pinned], laidTests := true, laidLooks := .later }
def FnRawReadCardSaid : Prop := Claim7.holds Tryz.pinned (.plain (OpenSpec.ofChange fnRawReadSpec)) fnRawReadCard

/-- THE TIED CARD OF 'laws.FnWriteRead'. -/
def fnWriteReadCard : Claim7 := { stood := { row := fnWriteReadRow, standIns := [], harness := (true, "9c0de20b14eea379180db8988a8ff4d91f67c21ffe597951cb2dae7e96553039"), looks := true }, kinds := [], alts := [], laidByText := true, laidKinds := [.data, .sentinel, .sentinel, .sentinel, .sentinel, .sentinel, .sentinel, .sentinel, .sentinel, .sentinel, .sentinel, .sentinel, .sentinel, .pinned], laidTests := true, laidLooks := .later }
def FnWriteReadCardSaid : Prop := Claim7.holds Tryz.pinned (.plain (OpenSpec.ofChange fnWriteReadSpec)) fnWriteReadCard

/-- THE SECOND FORM's CARD OF 'laws.FnTruncated'. -/
def fnTruncatedUptoCard : Claim7 := { stood := { row := fnTruncatedUptoRow, standIns := [], harness := (true, "9c0de20b14eea379180db8988a8ff4d91f67c21ffe597951cb2dae7e96553039"), looks := true }, kinds := [], alts := [], laidByText := true, laidKinds := [.data, .sentinel, .sentinel, .sentinel, .sentinel, .sentinel, .sentinel, .sentinel, .sentinel, .sentinel, .pinned], laidTests := true, laidLooks := .later }
def FnTruncatedUptoCardSaid : Prop := Claim7.holds Tryz.pinned (.plain (OpenSpec.upto fnTruncatedSpec)) fnTruncatedUptoCard

/-- THE SECOND FORM's CARD OF 'laws.FnExactOffset'. -/
def fnExactOffsetUptoCard : Claim7 := { stood := { row := fnExactOffsetUptoRow, standIns := [], harness := (true, "9c0de20b14eea379180db8988a8ff4d91f67c21ffe597951cb2dae7e96553039"), looks := true }, kinds := [], alts := [], laidByText := true, laidKinds := [.data, .sentinel, .sentinel, .sentinel, .sentinel, .sentinel, .sentinel, .sentinel, .sentinel, .sentinel, .pinned], laidTests := true, laidLooks := .later }
def FnExactOffsetUptoCardSaid : Prop := Claim7.holds Tryz.pinned (.plain (OpenSpec.upto fnExactOffsetSpec)) fnExactOffsetUptoCard

/-- THE SECOND FORM's CARD OF 'laws.FnExactRaw'. -/
def fnExactRawUptoCard : Claim7 := { stood := { row := fnExactRawUptoRow, standIns := [], harness := (true, "9c0de20b14eea379180db8988a8ff4d91f67c21ffe597951cb2dae7e96553039"), looks := true }, kinds := [], alts := [], laidByText := true, laidKinds := [.data, .sentinel, .sentinel, .sentinel, .sentinel, .sentinel, .sentinel, .sentinel, .sentinel, .sentinel, .pinned], laidTests := true, laidLooks := .later }
def FnExactRawUptoCardSaid : Prop := Claim7.holds Tryz.pinned (.plain (OpenSpec.upto fnExactRawSpec)) fnExactRawUptoCard

/-- THE SECOND FORM's CARD OF 'laws.FnCopyRead'. -/
def fnCopyReadUptoCard : Claim7 := { stood := { row := fnCopyReadUptoRow, standIns := [], harness := (true, "9c0de20b14eea379180db8988a8ff4d91f67c21ffe597951cb2dae7e96553039"), looks := true }, kinds := [], alts := [], laidByText := true, laidKinds := [.data, .sentinel, .sentinel, .sentinel, .sentinel, .sentinel, .sentinel, .sentinel, .sentinel, .sentinel, .sentinel, .sentinel, .sentinel, .sentinel, .pinned], laidTests := true, laidLooks := .later }
def FnCopyReadUptoCardSaid : Prop := Claim7.holds Tryz.pinned (.plain (OpenSpec.upto fnCopyReadSpec)) fnCopyReadUptoCard

/-- THE SECOND FORM's CARD OF 'laws.FnWriteLocal'. -/
def fnWriteLocalUptoCard : Claim7 := { stood := { row := fnWriteLocalUptoRow, standIns := [], harness := (true, "9c0de20b14eea379180db8988a8ff4d91f67c21ffe597951cb2dae7e96553039"), looks := true }, kinds := [], alts := [], laidByText := true, laidKinds := [.data, .sentinel, .sentinel, .sentinel, .sentinel, .sentinel, .sentinel, .sentinel, .sentinel, .sentinel, .sentinel, .sentinel, .sentinel, .pinned], laidTests := true, laidLooks := .later }
def FnWriteLocalUptoCardSaid : Prop := Claim7.holds Tryz.pinned (.plain (OpenSpec.upto fnWriteLocalSpec)) fnWriteLocalUptoCard

/-- THE SECOND FORM's CARD OF 'laws.FnRawRead'. -/
def fnRawReadUptoCard : Claim7 := { stood := { row := fnRawReadUptoRow, standIns := [], harness := (true, "9c0de20b14eea379180db8988a8ff4d91f67c21ffe597951cb2dae7e96553039"), looks := true }, kinds := [], alts := [], laidByText := true, laidKinds := [.data, .sentinel, .sentinel, .sentinel, .sentinel, .sentinel, .sentinel, .sentinel, .sentinel, .sentinel, .sentinel, .sentinel, .sentinel, .pinned], laidTests := true, laidLooks := .later }
def FnRawReadUptoCardSaid : Prop := Claim7.holds Tryz.pinned (.plain (OpenSpec.upto fnRawReadSpec)) fnRawReadUptoCard

/-- THE SECOND FORM's CARD OF 'laws.FnWriteRead'. -/
def fnWriteReadUptoCard : Claim7 := { stood := { row := fnWriteReadUptoRow, standIns := [], harness := (true, "9c0de20b14eea379180db8988a8ff4d91f67c21ffe597951cb2dae7e96553039"), looks := true }, kinds := [], alts := [], laidByText := true, laidKinds := [.data, .sentinel, .sentinel, .sentinel, .sentinel, .sentinel, .sentinel, .sentinel, .sentinel, .sentinel, .sentinel, .sentinel, .sentinel, .pinned], laidTests := true, laidLooks := .later }
def FnWriteReadUptoCardSaid : Prop := Claim7.holds Tryz.pinned (.plain (OpenSpec.upto fnWriteReadSpec)) fnWriteReadUptoCard
end Rows
end Go.Proofs.YtalgnjkdoaaacaaGreatDoor
