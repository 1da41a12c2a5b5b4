/-
  DERIVED. GIVEN WITH THE SEED: THE CARDS: each row of YtoefegbbnaonoaaGreatDoorRows.lean that lists a variable, with what it lists TIED to the program's text (the seventh form; the later family's looks); each row that meets fmt, with fmt's text TOLD by the authors' own Lean function (tested against real Go, not proved from fmt's source: count such statements apart). THE CARD IS WHAT COUNTS. Prove the row's statement (the work); the ties are given (YtoefegbbnaonoaaGreatDoorTie.lean); close each card by the builder's one call (the guide's Derived/Test/ToyasCard.lean, 'card_holds'). Laid BY PROGRAM, IN A SANDBOX (cutbox-door.mjs). By AI agents, Wed Nov 11 2026. No macro, syntax, notation, axiom, sorry.
-/
import Derived.Test.YtoefegbbnaonoaaGreatDoorRows
import GoSem.ClaimSeven
namespace Go.Proofs.YtoefegbbnaonoaaGreatDoor
namespace Rows

/-- THE TIED CARD OF 'laws.FnSuffixUnseen'. -/
def fnSuffixUnseenCard : Claim7 := { stood := { row := fnSuffixUnseenRow, standIns := [], harness := (true, "8950c8574c8a0750a9d219ab5c077f30f851b02c13dd18bccf2b9461bcb90b4d"), looks := true }, kinds := [], alts := [], laidByText := true, laidKinds := [.data, .data, .data, .data, .sentinel, .mapped, .pinned], laidTests := true, laidLooks := .later }
def FnSuffixUnseenCardSaid : Prop := Claim7.holds Tryz.pinned (.plain (OpenSpec.ofChange fnSuffixUnseenSpec)) fnSuffixUnseenCard

/-- THE TIED CARD OF 'laws.FnLegacyIsV0'. -/
def fnLegacyIsV0Card : Claim7 := { stood := { row := fnLegacyIsV0Row, standIns := [], harness := (true, "8950c8574c8a0750a9d219ab5c077f30f851b02c13dd18bccf2b9461bcb90b4d"), looks := true }, kinds := [], alts := [], laidByText := true, laidKinds := [.data, .data, .data, .data, .sentinel, .mapped, .pinned], laidTests := true, laidLooks := .later }
def FnLegacyIsV0CardSaid : Prop := Claim7.holds Tryz.pinned (.plain (OpenSpec.ofChange fnLegacyIsV0Spec)) fnLegacyIsV0Card

/-- THE TIED CARD OF 'laws.FnDisambiguatorsUnseen'. -/
def fnDisambiguatorsUnseenCard : Claim7 := { stood := { row := fnDisambiguatorsUnseenRow, standIns := [], harness := (true, "8950c8574c8a0750a9d219ab5c077f30f851b02c13dd18bccf2b9461bcb90b4d"), looks := true }, kinds := [], alts := [], laidByText := true, laidKinds := [.data, .data, .data, .data, .sentinel, .mapped, .pinned], laidTests := true, laidLooks := .later }
def FnDisambiguatorsUnseenCardSaid : Prop := Claim7.holds Tryz.pinned (.plain (OpenSpec.ofChange fnDisambiguatorsUnseenSpec)) fnDisambiguatorsUnseenCard

/-- THE TIED CARD OF 'laws.FnInstantiatingCrate'. -/
def fnInstantiatingCrateCard : Claim7 := { stood := { row := fnInstantiatingCrateRow, standIns := [], harness := (true, "8950c8574c8a0750a9d219ab5c077f30f851b02c13dd18bccf2b9461bcb90b4d"), looks := true }, kinds := [], alts := [], laidByText := true, laidKinds := [.data, .data, .data, .data, .sentinel, .mapped, .pinned], laidTests := true, laidLooks := .later }
def FnInstantiatingCrateCardSaid : Prop := Claim7.holds Tryz.pinned (.plain (OpenSpec.ofChange fnInstantiatingCrateSpec)) fnInstantiatingCrateCard

/-- THE TIED CARD OF 'laws.FnMaxLengthPath'. -/
def fnMaxLengthPathCard : Claim7 := { stood := { row := fnMaxLengthPathRow, standIns := [], harness := (true, "8950c8574c8a0750a9d219ab5c077f30f851b02c13dd18bccf2b9461bcb90b4d"), looks := true }, kinds := [], alts := [], laidByText := true, laidKinds := [.data, .data, .data, .data, .sentinel, .mapped, .pinned], laidTests := true, laidLooks := .later }
def FnMaxLengthPathCardSaid : Prop := Claim7.holds Tryz.pinned (.plain (OpenSpec.ofChange fnMaxLengthPathSpec)) fnMaxLengthPathCard

/-- THE TIED CARD OF 'laws.FnMixedParts'. -/
def fnMixedPartsCard : Claim7 := { stood := { row := fnMixedPartsRow, standIns := [], harness := (true, "8950c8574c8a0750a9d219ab5c077f30f851b02c13dd18bccf2b9461bcb90b4d"), looks := true }, kinds := [], alts := [], laidByText := true, laidKinds := [.data, .data, .data, .data, .sentinel, .mapped, .pinned], laidTests := true, laidLooks := .later }
def FnMixedPartsCardSaid : Prop := Claim7.holds Tryz.pinned (.plain (OpenSpec.ofChange fnMixedPartsSpec)) fnMixedPartsCard

/-- THE SECOND FORM's CARD OF 'laws.FnSuffixUnseen'. -/
def fnSuffixUnseenUptoCard : Claim7 := { stood := { row := fnSuffixUnseenUptoRow, standIns := [], harness := (true, "8950c8574c8a0750a9d219ab5c077f30f851b02c13dd18bccf2b9461bcb90b4d"), looks := true }, kinds := [], alts := [], laidByText := true, laidKinds := [.data, .data, .data, .data, .sentinel, .mapped, .pinned], laidTests := true, laidLooks := .later }
def FnSuffixUnseenUptoCardSaid : Prop := Claim7.holds Tryz.pinned (.plain (OpenSpec.upto fnSuffixUnseenSpec)) fnSuffixUnseenUptoCard

/-- THE SECOND FORM's CARD OF 'laws.FnLegacyIsV0'. -/
def fnLegacyIsV0UptoCard : Claim7 := { stood := { row := fnLegacyIsV0UptoRow, standIns := [], harness := (true, "8950c8574c8a0750a9d219ab5c077f30f851b02c13dd18bccf2b9461bcb90b4d"), looks := true }, kinds := [], alts := [], laidByText := true, laidKinds := [.data, .data, .data, .data, .sentinel, .mapped, .pinned], laidTests := true, laidLooks := .later }
def FnLegacyIsV0UptoCardSaid : Prop := Claim7.holds Tryz.pinned (.plain (OpenSpec.upto fnLegacyIsV0Spec)) fnLegacyIsV0UptoCard

/-- THE SECOND FORM's CARD OF 'laws.FnDisambiguatorsUnseen'. -/
def fnDisambiguatorsUnseenUptoCard : Claim7 := { stood := { row := fnDisambiguatorsUnseenUptoRow, standIns := [], harness := (true, "8950c8574c8a0750a9d219ab5c077f30f851b02c13dd18bccf2b9461bcb90b4d"), looks := true }, kinds := [], alts := [], laidByText := true, laidKinds := [.data, .data, .data, .data, .sentinel, .mapped, .pinned], laidTests := true, laidLooks := .later }
def FnDisambiguatorsUnseenUptoCardSaid : Prop := Claim7.holds Tryz.pinned (.plain (OpenSpec.upto fnDisambiguatorsUnseenSpec)) fnDisambiguatorsUnseenUptoCard

/-- THE SECOND FORM's CARD OF 'laws.FnInstantiatingCrate'. -/
def fnInstantiatingCrateUptoCard : Claim7 := { stood := { row := fnInstantiatingCrateUptoRow, standIns := [], harness := (true, "8950c8574c8a0750a9d219ab5c077f30f851b02c13dd18bccf2b9461bcb90b4d"), looks := true }, kinds := [], alts := [], laidByText := true, laidKinds := [.data, .data, .data, .data, .sentinel, .mapped, .pinned], laidTests := true, laidLooks := .later }
def FnInstantiatingCrateUptoCardSaid : Prop := Claim7.holds Tryz.pinned (.plain (OpenSpec.upto fnInstantiatingCrateSpec)) fnInstantiatingCrateUptoCard

/-- THE SECOND FORM's CARD OF 'laws.FnMaxLengthPath'. -/
def fnMaxLengthPathUptoCard : Claim7 := { stood := { row := fnMaxLengthPathUptoRow, standIns := [], harness := (true, "8950c8574c8a0750a9d219ab5c077f30f851b02c13dd18bccf2b9461bcb90b4d"), looks := true }, kinds := [], alts := [], laidByText := true, laidKinds := [.data, .data, .data, .data, .sentinel, .mapped, .pinned], laidTests := true, laidLooks := .later }
def FnMaxLengthPathUptoCardSaid : Prop := Claim7.holds Tryz.pinned (.plain (OpenSpec.upto fnMaxLengthPathSpec)) fnMaxLengthPathUptoCard

/-- THE SECOND FORM's CARD OF 'laws.FnMixedParts'. -/
def fnMixedPartsUptoCard : Claim7 := { stood := { row := fnMixedPartsUptoRow, standIns := [], harness := (true, "8950c8574c8a0750a9d219ab5c077f30f851b02c13dd18bccf2b9461bcb90b4d"), looks := true }, kinds := [], alts := [], laidByText := true, laidKinds := [.data, .data, .data, .data, .sentinel, .mapped, .pinned], laidTests := true, laidLooks := .later }
def FnMixedPartsUptoCardSaid : Prop := Claim7.holds Tryz.pinned (.plain (OpenSpec.upto fnMixedPartsSpec)) fnMixedPartsUptoCard
end Rows
end Go.Proofs.YtoefegbbnaonoaaGreatDoor
