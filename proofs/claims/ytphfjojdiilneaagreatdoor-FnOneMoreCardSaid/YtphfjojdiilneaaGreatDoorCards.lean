/-
  DERIVED. GIVEN WITH THE SEED: THE CARDS: each row of YtphfjojdiilneaaGreatDoorRows.lean that lists a variable, with what it lists TIED to the program's text (the seventh form; the later family's looks); each row that meets fmt, with fmt's text TOLD by the authors' own Lean function (tested against real Go, not proved from fmt's source: count such statements apart). THE CARD IS WHAT COUNTS. Prove the row's statement (the work); the ties are given (YtphfjojdiilneaaGreatDoorTie.lean); close each card by the builder's one call (the guide's Derived/Test/ToyasCard.lean, 'card_holds'). Laid BY PROGRAM, IN A SANDBOX (cutbox-door.mjs). By AI agents, Wed Nov 11 2026. No macro, syntax, notation, axiom, sorry.
-/
import Derived.Test.YtphfjojdiilneaaGreatDoorRows
import GoSem.ClaimSeven
namespace Go.Proofs.YtphfjojdiilneaaGreatDoor
namespace Rows

/-- THE TIED CARD OF 'laws.FnAlignParts'. -/
def fnAlignPartsCard : Claim7 := { stood := { row := fnAlignPartsRow, standIns := [], harness := (true, "313013be33584c430cf143a2e62db74e9e8c09f6f36a2cd99777ca726da4fb40"), looks := true }, kinds := [], alts := [], laidByText := true, laidKinds := [.data], laidTests := true, laidLooks := .later }
def FnAlignPartsCardSaid : Prop := Claim7.holds Tryz.pinned (.plain (OpenSpec.ofChange fnAlignPartsSpec)) fnAlignPartsCard

/-- THE TIED CARD OF 'laws.FnAlignof'. -/
def fnAlignofCard : Claim7 := { stood := { row := fnAlignofRow, standIns := [], harness := (true, "313013be33584c430cf143a2e62db74e9e8c09f6f36a2cd99777ca726da4fb40"), looks := true }, kinds := [], alts := [], laidByText := true, laidKinds := [.data], laidTests := true, laidLooks := .later }
def FnAlignofCardSaid : Prop := Claim7.holds Tryz.pinned (.plain (OpenSpec.ofChange fnAlignofSpec)) fnAlignofCard

/-- THE TIED CARD OF 'laws.FnAlignofAny'. -/
def fnAlignofAnyCard : Claim7 := { stood := { row := fnAlignofAnyRow, standIns := [], harness := (true, "313013be33584c430cf143a2e62db74e9e8c09f6f36a2cd99777ca726da4fb40"), looks := true }, kinds := [], alts := [], laidByText := true, laidKinds := [.data], laidTests := true, laidLooks := .later }
def FnAlignofAnyCardSaid : Prop := Claim7.holds Tryz.pinned (.plain (OpenSpec.ofChange fnAlignofAnySpec)) fnAlignofAnyCard

/-- THE TIED CARD OF 'laws.FnArrayStruct'. -/
def fnArrayStructCard : Claim7 := { stood := { row := fnArrayStructRow, standIns := [], harness := (true, "313013be33584c430cf143a2e62db74e9e8c09f6f36a2cd99777ca726da4fb40"), looks := true }, kinds := [], alts := [], laidByText := true, laidKinds := [.data], laidTests := true, laidLooks := .later }
def FnArrayStructCardSaid : Prop := Claim7.holds Tryz.pinned (.plain (OpenSpec.ofChange fnArrayStructSpec)) fnArrayStructCard

/-- THE TIED CARD OF 'laws.FnGuaranteed'. -/
def fnGuaranteedCard : Claim7 := { stood := { row := fnGuaranteedRow, standIns := [], harness := (true, "313013be33584c430cf143a2e62db74e9e8c09f6f36a2cd99777ca726da4fb40"), looks := true }, kinds := [], alts := [], laidByText := true, laidKinds := [.data], laidTests := true, laidLooks := .later }
def FnGuaranteedCardSaid : Prop := Claim7.holds Tryz.pinned (.plain (OpenSpec.ofChange fnGuaranteedSpec)) fnGuaranteedCard

/-- THE TIED CARD OF 'laws.FnNothing'. -/
def fnNothingCard : Claim7 := { stood := { row := fnNothingRow, standIns := [], harness := (true, "313013be33584c430cf143a2e62db74e9e8c09f6f36a2cd99777ca726da4fb40"), looks := true }, kinds := [], alts := [], laidByText := true, laidKinds := [.data], laidTests := true, laidLooks := .later }
def FnNothingCardSaid : Prop := Claim7.holds Tryz.pinned (.plain (OpenSpec.ofChange fnNothingSpec)) fnNothingCard

/-- THE TIED CARD OF 'laws.FnSizeof'. -/
def fnSizeofCard : Claim7 := { stood := { row := fnSizeofRow, standIns := [], harness := (true, "313013be33584c430cf143a2e62db74e9e8c09f6f36a2cd99777ca726da4fb40"), looks := true }, kinds := [], alts := [], laidByText := true, laidKinds := [.data], laidTests := true, laidLooks := .later }
def FnSizeofCardSaid : Prop := Claim7.holds Tryz.pinned (.plain (OpenSpec.ofChange fnSizeofSpec)) fnSizeofCard

/-- THE TIED CARD OF 'laws.FnSizeofAny'. -/
def fnSizeofAnyCard : Claim7 := { stood := { row := fnSizeofAnyRow, standIns := [], harness := (true, "313013be33584c430cf143a2e62db74e9e8c09f6f36a2cd99777ca726da4fb40"), looks := true }, kinds := [], alts := [], laidByText := true, laidKinds := [.data], laidTests := true, laidLooks := .later }
def FnSizeofAnyCardSaid : Prop := Claim7.holds Tryz.pinned (.plain (OpenSpec.ofChange fnSizeofAnySpec)) fnSizeofAnyCard

/-- THE TIED CARD OF 'laws.FnWords'. -/
def fnWordsCard : Claim7 := { stood := { row := fnWordsRow, standIns := [], harness := (true, "313013be33584c430cf143a2e62db74e9e8c09f6f36a2cd99777ca726da4fb40"), looks := true }, kinds := [], alts := [], laidByText := true, laidKinds := [.data], laidTests := true, laidLooks := .later }
def FnWordsCardSaid : Prop := Claim7.holds Tryz.pinned (.plain (OpenSpec.ofChange fnWordsSpec)) fnWordsCard

/-- THE TIED CARD OF 'laws.FnOffsetsof'. -/
def fnOffsetsofCard : Claim7 := { stood := { row := fnOffsetsofRow, standIns := [], harness := (true, "313013be33584c430cf143a2e62db74e9e8c09f6f36a2cd99777ca726da4fb40"), looks := true }, kinds := [], alts := [], laidByText := true, laidKinds := [.data], laidTests := true, laidLooks := .later }
def FnOffsetsofCardSaid : Prop := Claim7.holds Tryz.pinned (.plain (OpenSpec.ofChange fnOffsetsofSpec)) fnOffsetsofCard

/-- THE TIED CARD OF 'laws.FnOneMore'. -/
def fnOneMoreCard : Claim7 := { stood := { row := fnOneMoreRow, standIns := [], harness := (true, "313013be33584c430cf143a2e62db74e9e8c09f6f36a2cd99777ca726da4fb40"), looks := true }, kinds := [], alts := [], laidByText := true, laidKinds := [.data], laidTests := true, laidLooks := .later }
def FnOneMoreCardSaid : Prop := Claim7.holds Tryz.pinned (.plain (OpenSpec.ofChange fnOneMoreSpec)) fnOneMoreCard

/-- THE TIED CARD OF 'laws.FnOffsetsApart'. -/
def fnOffsetsApartCard : Claim7 := { stood := { row := fnOffsetsApartRow, standIns := [], harness := (true, "313013be33584c430cf143a2e62db74e9e8c09f6f36a2cd99777ca726da4fb40"), looks := true }, kinds := [], alts := [], laidByText := true, laidKinds := [.data], laidTests := true, laidLooks := .later }
def FnOffsetsApartCardSaid : Prop := Claim7.holds Tryz.pinned (.plain (OpenSpec.ofChange fnOffsetsApartSpec)) fnOffsetsApartCard

/-- THE SECOND FORM's CARD OF 'laws.FnAlignParts'. -/
def fnAlignPartsUptoCard : Claim7 := { stood := { row := fnAlignPartsUptoRow, standIns := [], harness := (true, "313013be33584c430cf143a2e62db74e9e8c09f6f36a2cd99777ca726da4fb40"), looks := true }, kinds := [], alts := [], laidByText := true, laidKinds := [.data], laidTests := true, laidLooks := .later }
def FnAlignPartsUptoCardSaid : Prop := Claim7.holds Tryz.pinned (.plain (OpenSpec.upto fnAlignPartsSpec)) fnAlignPartsUptoCard

/-- THE SECOND FORM's CARD OF 'laws.FnAlignof'. -/
def fnAlignofUptoCard : Claim7 := { stood := { row := fnAlignofUptoRow, standIns := [], harness := (true, "313013be33584c430cf143a2e62db74e9e8c09f6f36a2cd99777ca726da4fb40"), looks := true }, kinds := [], alts := [], laidByText := true, laidKinds := [.data], laidTests := true, laidLooks := .later }
def FnAlignofUptoCardSaid : Prop := Claim7.holds Tryz.pinned (.plain (OpenSpec.upto fnAlignofSpec)) fnAlignofUptoCard

/-- THE SECOND FORM's CARD OF 'laws.FnAlignofAny'. -/
def fnAlignofAnyUptoCard : Claim7 := { stood := { row := fnAlignofAnyUptoRow, standIns := [], harness := (true, "313013be33584c430cf143a2e62db74e9e8c09f6f36a2cd99777ca726da4fb40"), looks := true }, kinds := [], alts := [], laidByText := true, laidKinds := [.data], laidTests := true, laidLooks := .later }
def FnAlignofAnyUptoCardSaid : Prop := Claim7.holds Tryz.pinned (.plain (OpenSpec.upto fnAlignofAnySpec)) fnAlignofAnyUptoCard

/-- THE SECOND FORM's CARD OF 'laws.FnArrayStruct'. -/
def fnArrayStructUptoCard : Claim7 := { stood := { row := fnArrayStructUptoRow, standIns := [], harness := (true, "313013be33584c430cf143a2e62db74e9e8c09f6f36a2cd99777ca726da4fb40"), looks := true }, kinds := [], alts := [], laidByText := true, laidKinds := [.data], laidTests := true, laidLooks := .later }
def FnArrayStructUptoCardSaid : Prop := Claim7.holds Tryz.pinned (.plain (OpenSpec.upto fnArrayStructSpec)) fnArrayStructUptoCard

/-- THE SECOND FORM's CARD OF 'laws.FnGuaranteed'. -/
def fnGuaranteedUptoCard : Claim7 := { stood := { row := fnGuaranteedUptoRow, standIns := [], harness := (true, "313013be33584c430cf143a2e62db74e9e8c09f6f36a2cd99777ca726da4fb40"), looks := true }, kinds := [], alts := [], laidByText := true, laidKinds := [.data], laidTests := true, laidLooks := .later }
def FnGuaranteedUptoCardSaid : Prop := Claim7.holds Tryz.pinned (.plain (OpenSpec.upto fnGuaranteedSpec)) fnGuaranteedUptoCard

/-- THE SECOND FORM's CARD OF 'laws.FnNothing'. -/
def fnNothingUptoCard : Claim7 := { stood := { row := fnNothingUptoRow, standIns := [], harness := (true, "313013be33584c430cf143a2e62db74e9e8c09f6f36a2cd99777ca726da4fb40"), looks := true }, kinds := [], alts := [], laidByText := true, laidKinds := [.data], laidTests := true, laidLooks := .later }
def FnNothingUptoCardSaid : Prop := Claim7.holds Tryz.pinned (.plain (OpenSpec.upto fnNothingSpec)) fnNothingUptoCard

/-- THE SECOND FORM's CARD OF 'laws.FnSizeof'. -/
def fnSizeofUptoCard : Claim7 := { stood := { row := fnSizeofUptoRow, standIns := [], harness := (true, "313013be33584c430cf143a2e62db74e9e8c09f6f36a2cd99777ca726da4fb40"), looks := true }, kinds := [], alts := [], laidByText := true, laidKinds := [.data], laidTests := true, laidLooks := .later }
def FnSizeofUptoCardSaid : Prop := Claim7.holds Tryz.pinned (.plain (OpenSpec.upto fnSizeofSpec)) fnSizeofUptoCard

/-- THE SECOND FORM's CARD OF 'laws.FnSizeofAny'. -/
def fnSizeofAnyUptoCard : Claim7 := { stood := { row := fnSizeofAnyUptoRow, standIns := [], harness := (true, "313013be33584c430cf143a2e62db74e9e8c09f6f36a2cd99777ca726da4fb40"), looks := true }, kinds := [], alts := [], laidByText := true, laidKinds := [.data], laidTests := true, laidLooks := .later }
def FnSizeofAnyUptoCardSaid : Prop := Claim7.holds Tryz.pinned (.plain (OpenSpec.upto fnSizeofAnySpec)) fnSizeofAnyUptoCard

/-- THE SECOND FORM's CARD OF 'laws.FnWords'. -/
def fnWordsUptoCard : Claim7 := { stood := { row := fnWordsUptoRow, standIns := [], harness := (true, "313013be33584c430cf143a2e62db74e9e8c09f6f36a2cd99777ca726da4fb40"), looks := true }, kinds := [], alts := [], laidByText := true, laidKinds := [.data], laidTests := true, laidLooks := .later }
def FnWordsUptoCardSaid : Prop := Claim7.holds Tryz.pinned (.plain (OpenSpec.upto fnWordsSpec)) fnWordsUptoCard

/-- THE SECOND FORM's CARD OF 'laws.FnOffsetsof'. -/
def fnOffsetsofUptoCard : Claim7 := { stood := { row := fnOffsetsofUptoRow, standIns := [], harness := (true, "313013be33584c430cf143a2e62db74e9e8c09f6f36a2cd99777ca726da4fb40"), looks := true }, kinds := [], alts := [], laidByText := true, laidKinds := [.data], laidTests := true, laidLooks := .later }
def FnOffsetsofUptoCardSaid : Prop := Claim7.holds Tryz.pinned (.plain (OpenSpec.upto fnOffsetsofSpec)) fnOffsetsofUptoCard

/-- THE SECOND FORM's CARD OF 'laws.FnOneMore'. -/
def fnOneMoreUptoCard : Claim7 := { stood := { row := fnOneMoreUptoRow, standIns := [], harness := (true, "313013be33584c430cf143a2e62db74e9e8c09f6f36a2cd99777ca726da4fb40"), looks := true }, kinds := [], alts := [], laidByText := true, laidKinds := [.data], laidTests := true, laidLooks := .later }
def FnOneMoreUptoCardSaid : Prop := Claim7.holds Tryz.pinned (.plain (OpenSpec.upto fnOneMoreSpec)) fnOneMoreUptoCard

/-- THE SECOND FORM's CARD OF 'laws.FnOffsetsApart'. -/
def fnOffsetsApartUptoCard : Claim7 := { stood := { row := fnOffsetsApartUptoRow, standIns := [], harness := (true, "313013be33584c430cf143a2e62db74e9e8c09f6f36a2cd99777ca726da4fb40"), looks := true }, kinds := [], alts := [], laidByText := true, laidKinds := [.data], laidTests := true, laidLooks := .later }
def FnOffsetsApartUptoCardSaid : Prop := Claim7.holds Tryz.pinned (.plain (OpenSpec.upto fnOffsetsApartSpec)) fnOffsetsApartUptoCard
end Rows
end Go.Proofs.YtphfjojdiilneaaGreatDoor
