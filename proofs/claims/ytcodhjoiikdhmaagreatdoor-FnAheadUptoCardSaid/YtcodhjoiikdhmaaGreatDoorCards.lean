/-
  DERIVED. GIVEN WITH THE SEED: THE CARDS: each row of YtcodhjoiikdhmaaGreatDoorRows.lean that lists a variable, with what it lists TIED to the program's text (the seventh form; the later family's looks); each row that meets fmt, with fmt's text TOLD by the authors' own Lean function (tested against real Go, not proved from fmt's source: count such statements apart). THE CARD IS WHAT COUNTS. Prove the row's statement (the work); the ties are given (YtcodhjoiikdhmaaGreatDoorTie.lean); close each card by the builder's one call (the guide's Derived/Test/ToyasCard.lean, 'card_holds'). Laid BY PROGRAM, IN A SANDBOX (cutbox-door.mjs). By AI agents, Wed Nov 11 2026. No macro, syntax, notation, axiom, sorry.
-/
import Derived.Test.YtcodhjoiikdhmaaGreatDoorRows
import GoSem.ClaimSeven
namespace Go.Proofs.YtcodhjoiikdhmaaGreatDoor
namespace Rows

/-- THE TIED CARD OF 'laws.FnContentChecksum'. -/
def fnContentChecksumCard : Claim7 := { stood := { row := fnContentChecksumRow, standIns := [], harness := (true, "b7f27f4f4a23970cb71661a6a1c2a8a94d4bf795553542e7a7bd1b5337162e52"), looks := true }, kinds := [], alts := [], laidByText := true, laidKinds := [.data, .sentinel, .sentinel, .sentinel, .sentinel, .sentinel, .sentinel, .sentinel, .sentinel, .sentinel, .pinned], laidTests := true, laidLooks := .later }
def FnContentChecksumCardSaid : Prop := Claim7.holds Tryz.pinned (.plain (OpenSpec.ofChange fnContentChecksumSpec)) fnContentChecksumCard

/-- THE TIED CARD OF 'laws.FnContentFlip'. -/
def fnContentFlipCard : Claim7 := { stood := { row := fnContentFlipRow, standIns := [], harness := (true, "b7f27f4f4a23970cb71661a6a1c2a8a94d4bf795553542e7a7bd1b5337162e52"), looks := true }, kinds := [], alts := [], laidByText := true, laidKinds := [.data, .sentinel, .sentinel, .sentinel, .sentinel, .sentinel, .sentinel, .sentinel, .sentinel, .sentinel, .pinned], laidTests := true, laidLooks := .later }
def FnContentFlipCardSaid : Prop := Claim7.holds Tryz.pinned (.plain (OpenSpec.ofChange fnContentFlipSpec)) fnContentFlipCard

/-- THE TIED CARD OF 'laws.FnContentMethod'. -/
def fnContentMethodCard : Claim7 := { stood := { row := fnContentMethodRow, standIns := [], harness := (true, "b7f27f4f4a23970cb71661a6a1c2a8a94d4bf795553542e7a7bd1b5337162e52"), looks := true }, kinds := [], alts := [], laidByText := true, laidKinds := [.data, .sentinel, .sentinel, .sentinel, .sentinel, .sentinel, .sentinel, .sentinel, .sentinel, .sentinel, .pinned], laidTests := true, laidLooks := .later }
def FnContentMethodCardSaid : Prop := Claim7.holds Tryz.pinned (.plain (OpenSpec.ofChange fnContentMethodSpec)) fnContentMethodCard

/-- THE TIED CARD OF 'laws.FnContentSize'. -/
def fnContentSizeCard : Claim7 := { stood := { row := fnContentSizeRow, standIns := [], harness := (true, "b7f27f4f4a23970cb71661a6a1c2a8a94d4bf795553542e7a7bd1b5337162e52"), looks := true }, kinds := [], alts := [], laidByText := true, laidKinds := [.data, .sentinel, .sentinel, .sentinel, .sentinel, .sentinel, .sentinel, .sentinel, .sentinel, .sentinel, .pinned], laidTests := true, laidLooks := .later }
def FnContentSizeCardSaid : Prop := Claim7.holds Tryz.pinned (.plain (OpenSpec.ofChange fnContentSizeSpec)) fnContentSizeCard

/-- THE TIED CARD OF 'laws.FnContentZero'. -/
def fnContentZeroCard : Claim7 := { stood := { row := fnContentZeroRow, standIns := [], harness := (true, "b7f27f4f4a23970cb71661a6a1c2a8a94d4bf795553542e7a7bd1b5337162e52"), looks := true }, kinds := [], alts := [], laidByText := true, laidKinds := [.data, .sentinel, .sentinel, .sentinel, .sentinel, .sentinel, .sentinel, .sentinel, .sentinel, .sentinel, .pinned], laidTests := true, laidLooks := .later }
def FnContentZeroCardSaid : Prop := Claim7.holds Tryz.pinned (.plain (OpenSpec.ofChange fnContentZeroSpec)) fnContentZeroCard

/-- THE TIED CARD OF 'laws.FnExactContent'. -/
def fnExactContentCard : Claim7 := { stood := { row := fnExactContentRow, standIns := [], harness := (true, "b7f27f4f4a23970cb71661a6a1c2a8a94d4bf795553542e7a7bd1b5337162e52"), looks := true }, kinds := [], alts := [], laidByText := true, laidKinds := [.data, .sentinel, .sentinel, .sentinel, .sentinel, .sentinel, .sentinel, .sentinel, .sentinel, .sentinel, .pinned], laidTests := true, laidLooks := .later }
def FnExactContentCardSaid : Prop := Claim7.holds Tryz.pinned (.plain (OpenSpec.ofChange fnExactContentSpec)) fnExactContentCard

/-- THE TIED CARD OF 'laws.FnAhead'. -/
def fnAheadCard : Claim7 := { stood := { row := fnAheadRow, standIns := [], harness := (true, "b7f27f4f4a23970cb71661a6a1c2a8a94d4bf795553542e7a7bd1b5337162e52"), looks := true }, kinds := [], alts := [], laidByText := true, laidKinds := [.data, .sentinel, .sentinel, .sentinel, .sentinel, .sentinel, .sentinel, .sentinel, .sentinel, .sentinel, .pinned], laidTests := true, laidLooks := .later }
def FnAheadCardSaid : Prop := Claim7.holds Tryz.pinned (.plain (OpenSpec.ofChange fnAheadSpec)) fnAheadCard

/-- THE TIED CARD OF 'laws.FnBehind'. -/
def fnBehindCard : Claim7 := { stood := { row := fnBehindRow, standIns := [], harness := (true, "b7f27f4f4a23970cb71661a6a1c2a8a94d4bf795553542e7a7bd1b5337162e52"), looks := true }, kinds := [], alts := [], laidByText := true, laidKinds := [.data, .sentinel, .sentinel, .sentinel, .sentinel, .sentinel, .sentinel, .sentinel, .sentinel, .sentinel, .pinned], laidTests := true, laidLooks := .later }
def FnBehindCardSaid : Prop := Claim7.holds Tryz.pinned (.plain (OpenSpec.ofChange fnBehindSpec)) fnBehindCard

/-- THE TIED CARD OF 'laws.FnCentralSpoilt'. -/
def fnCentralSpoiltCard : Claim7 := { stood := { row := fnCentralSpoiltRow, standIns := [], harness := (true, "b7f27f4f4a23970cb71661a6a1c2a8a94d4bf795553542e7a7bd1b5337162e52"), looks := true }, kinds := [], alts := [], laidByText := true, laidKinds := [.data, .sentinel, .sentinel, .sentinel, .sentinel, .sentinel, .sentinel, .sentinel, .sentinel, .sentinel, .pinned], laidTests := true, laidLooks := .later }
def FnCentralSpoiltCardSaid : Prop := Claim7.holds Tryz.pinned (.plain (OpenSpec.ofChange fnCentralSpoiltSpec)) fnCentralSpoiltCard

/-- THE TIED CARD OF 'laws.FnCountSpoilt'. -/
def fnCountSpoiltCard : Claim7 := { stood := { row := fnCountSpoiltRow, standIns := [], harness := (true, "b7f27f4f4a23970cb71661a6a1c2a8a94d4bf795553542e7a7bd1b5337162e52"), looks := true }, kinds := [], alts := [], laidByText := true, laidKinds := [.data, .sentinel, .sentinel, .sentinel, .sentinel, .sentinel, .sentinel, .sentinel, .sentinel, .sentinel, .pinned], laidTests := true, laidLooks := .later }
def FnCountSpoiltCardSaid : Prop := Claim7.holds Tryz.pinned (.plain (OpenSpec.ofChange fnCountSpoiltSpec)) fnCountSpoiltCard

/-- THE TIED CARD OF 'laws.FnExactRead'. -/
def fnExactReadCard : Claim7 := { stood := { row := fnExactReadRow, standIns := [], harness := (true, "b7f27f4f4a23970cb71661a6a1c2a8a94d4bf795553542e7a7bd1b5337162e52"), looks := true }, kinds := [], alts := [], laidByText := true, laidKinds := [.data, .sentinel, .sentinel, .sentinel, .sentinel, .sentinel, .sentinel, .sentinel, .sentinel, .sentinel, .pinned], laidTests := true, laidLooks := .later }
def FnExactReadCardSaid : Prop := Claim7.holds Tryz.pinned (.plain (OpenSpec.ofChange fnExactReadSpec)) fnExactReadCard

/-- THE TIED CARD OF 'laws.FnNoEnd'. -/
def fnNoEndCard : Claim7 := { stood := { row := fnNoEndRow, standIns := [], harness := (true, "b7f27f4f4a23970cb71661a6a1c2a8a94d4bf795553542e7a7bd1b5337162e52"), looks := true }, kinds := [], alts := [], laidByText := true, laidKinds := [.data, .sentinel, .sentinel, .sentinel, .sentinel, .sentinel, .sentinel, .sentinel, .sentinel, .sentinel, .pinned], laidTests := true, laidLooks := .later }
def FnNoEndCardSaid : Prop := Claim7.holds Tryz.pinned (.plain (OpenSpec.ofChange fnNoEndSpec)) fnNoEndCard

/-- THE SECOND FORM's CARD OF 'laws.FnContentChecksum'. -/
def fnContentChecksumUptoCard : Claim7 := { stood := { row := fnContentChecksumUptoRow, standIns := [], harness := (true, "b7f27f4f4a23970cb71661a6a1c2a8a94d4bf795553542e7a7bd1b5337162e52"), looks := true }, kinds := [], alts := [], laidByText := true, laidKinds := [.data, .sentinel, .sentinel, .sentinel, .sentinel, .sentinel, .sentinel, .sentinel, .sentinel, .sentinel, .pinned], laidTests := true, laidLooks := .later }
def FnContentChecksumUptoCardSaid : Prop := Claim7.holds Tryz.pinned (.plain (OpenSpec.upto fnContentChecksumSpec)) fnContentChecksumUptoCard

/-- THE SECOND FORM's CARD OF 'laws.FnContentFlip'. -/
def fnContentFlipUptoCard : Claim7 := { stood := { row := fnContentFlipUptoRow, standIns := [], harness := (true, "b7f27f4f4a23970cb71661a6a1c2a8a94d4bf795553542e7a7bd1b5337162e52"), looks := true }, kinds := [], alts := [], laidByText := true, laidKinds := [.data, .sentinel, .sentinel, .sentinel, .sentinel, .sentinel, .sentinel, .sentinel, .sentinel, .sentinel, .pinned], laidTests := true, laidLooks := .later }
def FnContentFlipUptoCardSaid : Prop := Claim7.holds Tryz.pinned (.plain (OpenSpec.upto fnContentFlipSpec)) fnContentFlipUptoCard

/-- THE SECOND FORM's CARD OF 'laws.FnContentMethod'. -/
def fnContentMethodUptoCard : Claim7 := { stood := { row := fnContentMethodUptoRow, standIns := [], harness := (true, "b7f27f4f4a23970cb71661a6a1c2a8a94d4bf795553542e7a7bd1b5337162e52"), looks := true }, kinds := [], alts := [], laidByText := true, laidKinds := [.data, .sentinel, .sentinel, .sentinel, .sentinel, .sentinel, .sentinel, .sentinel, .sentinel, .sentinel, .pinned], laidTests := true, laidLooks := .later }
def FnContentMethodUptoCardSaid : Prop := Claim7.holds Tryz.pinned (.plain (OpenSpec.upto fnContentMethodSpec)) fnContentMethodUptoCard

/-- THE SECOND FORM's CARD OF 'laws.FnContentSize'. -/
def fnContentSizeUptoCard : Claim7 := { stood := { row := fnContentSizeUptoRow, standIns := [], harness := (true, "b7f27f4f4a23970cb71661a6a1c2a8a94d4bf795553542e7a7bd1b5337162e52"), looks := true }, kinds := [], alts := [], laidByText := true, laidKinds := [.data, .sentinel, .sentinel, .sentinel, .sentinel, .sentinel, .sentinel, .sentinel, .sentinel, .sentinel, .pinned], laidTests := true, laidLooks := .later }
def FnContentSizeUptoCardSaid : Prop := Claim7.holds Tryz.pinned (.plain (OpenSpec.upto fnContentSizeSpec)) fnContentSizeUptoCard

/-- THE SECOND FORM's CARD OF 'laws.FnContentZero'. -/
def fnContentZeroUptoCard : Claim7 := { stood := { row := fnContentZeroUptoRow, standIns := [], harness := (true, "b7f27f4f4a23970cb71661a6a1c2a8a94d4bf795553542e7a7bd1b5337162e52"), looks := true }, kinds := [], alts := [], laidByText := true, laidKinds := [.data, .sentinel, .sentinel, .sentinel, .sentinel, .sentinel, .sentinel, .sentinel, .sentinel, .sentinel, .pinned], laidTests := true, laidLooks := .later }
def FnContentZeroUptoCardSaid : Prop := Claim7.holds Tryz.pinned (.plain (OpenSpec.upto fnContentZeroSpec)) fnContentZeroUptoCard

/-- THE SECOND FORM's CARD OF 'laws.FnExactContent'. -/
def fnExactContentUptoCard : Claim7 := { stood := { row := fnExactContentUptoRow, standIns := [], harness := (true, "b7f27f4f4a23970cb71661a6a1c2a8a94d4bf795553542e7a7bd1b5337162e52"), looks := true }, kinds := [], alts := [], laidByText := true, laidKinds := [.data, .sentinel, .sentinel, .sentinel, .sentinel, .sentinel, .sentinel, .sentinel, .sentinel, .sentinel, .pinned], laidTests := true, laidLooks := .later }
def FnExactContentUptoCardSaid : Prop := Claim7.holds Tryz.pinned (.plain (OpenSpec.upto fnExactContentSpec)) fnExactContentUptoCard

/-- THE SECOND FORM's CARD OF 'laws.FnAhead'. -/
def fnAheadUptoCard : Claim7 := { stood := { row := fnAheadUptoRow, standIns := [], harness := (true, "b7f27f4f4a23970cb71661a6a1c2a8a94d4bf795553542e7a7bd1b5337162e52"), looks := true }, kinds := [], alts := [], laidByText := true, laidKinds := [.data, .sentinel, .sentinel, .sentinel, .sentinel, .sentinel, .sentinel, .sentinel, .sentinel, .sentinel, .pinned], laidTests := true, laidLooks := .later }
def FnAheadUptoCardSaid : Prop := Claim7.holds Tryz.pinned (.plain (OpenSpec.upto fnAheadSpec)) fnAheadUptoCard

/-- THE SECOND FORM's CARD OF 'laws.FnBehind'. -/
def fnBehindUptoCard : Claim7 := { stood := { row := fnBehindUptoRow, standIns := [], harness := (true, "b7f27f4f4a23970cb71661a6a1c2a8a94d4bf795553542e7a7bd1b5337162e52"), looks := true }, kinds := [], alts := [], laidByText := true, laidKinds := [.data, .sentinel, .sentinel, .sentinel, .sentinel, .sentinel, .sentinel, .sentinel, .sentinel, .sentinel, .pinned], laidTests := true, laidLooks := .later }
def FnBehindUptoCardSaid : Prop := Claim7.holds Tryz.pinned (.plain (OpenSpec.upto fnBehindSpec)) fnBehindUptoCard

/-- THE SECOND FORM's CARD OF 'laws.FnCentralSpoilt'. -/
def fnCentralSpoiltUptoCard : Claim7 := { stood := { row := fnCentralSpoiltUptoRow, standIns := [], harness := (true, "b7f27f4f4a23970cb71661a6a1c2a8a94d4bf795553542e7a7bd1b5337162e52"), looks := true }, kinds := [], alts := [], laidByText := true, laidKinds := [.data, .sentinel, .sentinel, .sentinel, .sentinel, .sentinel, .sentinel, .sentinel, .sentinel, .sentinel, .pinned], laidTests := true, laidLooks := .later }
def FnCentralSpoiltUptoCardSaid : Prop := Claim7.holds Tryz.pinned (.plain (OpenSpec.upto fnCentralSpoiltSpec)) fnCentralSpoiltUptoCard

/-- THE SECOND FORM's CARD OF 'laws.FnCountSpoilt'. -/
def fnCountSpoiltUptoCard : Claim7 := { stood := { row := fnCountSpoiltUptoRow, standIns := [], harness := (true, "b7f27f4f4a23970cb71661a6a1c2a8a94d4bf795553542e7a7bd1b5337162e52"), looks := true }, kinds := [], alts := [], laidByText := true, laidKinds := [.data, .sentinel, .sentinel, .sentinel, .sentinel, .sentinel, .sentinel, .sentinel, .sentinel, .sentinel, .pinned], laidTests := true, laidLooks := .later }
def FnCountSpoiltUptoCardSaid : Prop := Claim7.holds Tryz.pinned (.plain (OpenSpec.upto fnCountSpoiltSpec)) fnCountSpoiltUptoCard

/-- THE SECOND FORM's CARD OF 'laws.FnExactRead'. -/
def fnExactReadUptoCard : Claim7 := { stood := { row := fnExactReadUptoRow, standIns := [], harness := (true, "b7f27f4f4a23970cb71661a6a1c2a8a94d4bf795553542e7a7bd1b5337162e52"), looks := true }, kinds := [], alts := [], laidByText := true, laidKinds := [.data, .sentinel, .sentinel, .sentinel, .sentinel, .sentinel, .sentinel, .sentinel, .sentinel, .sentinel, .pinned], laidTests := true, laidLooks := .later }
def FnExactReadUptoCardSaid : Prop := Claim7.holds Tryz.pinned (.plain (OpenSpec.upto fnExactReadSpec)) fnExactReadUptoCard

/-- THE SECOND FORM's CARD OF 'laws.FnNoEnd'. -/
def fnNoEndUptoCard : Claim7 := { stood := { row := fnNoEndUptoRow, standIns := [], harness := (true, "b7f27f4f4a23970cb71661a6a1c2a8a94d4bf795553542e7a7bd1b5337162e52"), looks := true }, kinds := [], alts := [], laidByText := true, laidKinds := [.data, .sentinel, .sentinel, .sentinel, .sentinel, .sentinel, .sentinel, .sentinel, .sentinel, .sentinel, .pinned], laidTests := true, laidLooks := .later }
def FnNoEndUptoCardSaid : Prop := Claim7.holds Tryz.pinned (.plain (OpenSpec.upto fnNoEndSpec)) fnNoEndUptoCard
end Rows
end Go.Proofs.YtcodhjoiikdhmaaGreatDoor
