/-
  DERIVED. GIVEN WITH THE SEED: THE CARDS: each row of YtepcpmeblidkgaaDoorRows.lean that lists a variable, with what it lists TIED to the program's text (the seventh form; the later family's looks); each row that meets fmt, with fmt's text TOLD by the authors' own Lean function (tested against real Go, not proved from fmt's source: count such statements apart). THE CARD IS WHAT COUNTS. Prove the row's statement (the work); the ties are given (YtepcpmeblidkgaaDoorTie.lean); close each card by the builder's one call (the guide's Derived/Test/ToyasCard.lean, 'card_holds'). Laid BY PROGRAM, IN A SANDBOX (cutbox-door.mjs). By AI agents, Wed Nov 11 2026. No macro, syntax, notation, axiom, sorry.
-/
import Derived.Test.YtepcpmeblidkgaaDoorRows
import GoSem.ClaimSeven
namespace Go.Proofs.YtepcpmeblidkgaaDoor
namespace Rows

/-- THE TIED CARD OF 'laws.FnLegacyEscape'. -/
def fnLegacyEscapeCard : Claim7 := { stood := { row := fnLegacyEscapeRow, standIns := [], harness := (true, "139931c75339390c7e97916e13fe35f3b5dfebc66dfa4496fed24a4e673c4bd4"), looks := true }, kinds := [], alts := [], laidByText := true, laidKinds := [.data, .data, .data], laidTests := true, laidLooks := .later }
def FnLegacyEscapeCardSaid : Prop := Claim7.holds Tryd.pinned (.plain (OpenSpec.ofChange fnLegacyEscapeSpec)) fnLegacyEscapeCard

/-- THE TIED CARD OF 'laws.FnLegacyHashUnseen'. -/
def fnLegacyHashUnseenCard : Claim7 := { stood := { row := fnLegacyHashUnseenRow, standIns := [], harness := (true, "139931c75339390c7e97916e13fe35f3b5dfebc66dfa4496fed24a4e673c4bd4"), looks := true }, kinds := [], alts := [], laidByText := true, laidKinds := [.data, .data, .data], laidTests := true, laidLooks := .later }
def FnLegacyHashUnseenCardSaid : Prop := Claim7.holds Tryd.pinned (.plain (OpenSpec.ofChange fnLegacyHashUnseenSpec)) fnLegacyHashUnseenCard

/-- THE TIED CARD OF 'laws.FnLegacyLonger'. -/
def fnLegacyLongerCard : Claim7 := { stood := { row := fnLegacyLongerRow, standIns := [], harness := (true, "139931c75339390c7e97916e13fe35f3b5dfebc66dfa4496fed24a4e673c4bd4"), looks := true }, kinds := [], alts := [], laidByText := true, laidKinds := [.data, .data, .data], laidTests := true, laidLooks := .later }
def FnLegacyLongerCardSaid : Prop := Claim7.holds Tryd.pinned (.plain (OpenSpec.ofChange fnLegacyLongerSpec)) fnLegacyLongerCard

/-- THE TIED CARD OF 'laws.FnLegacyRead'. -/
def fnLegacyReadCard : Claim7 := { stood := { row := fnLegacyReadRow, standIns := [], harness := (true, "139931c75339390c7e97916e13fe35f3b5dfebc66dfa4496fed24a4e673c4bd4"), looks := true }, kinds := [], alts := [], laidByText := true, laidKinds := [.data, .data, .data], laidTests := true, laidLooks := .later }
def FnLegacyReadCardSaid : Prop := Claim7.holds Tryd.pinned (.plain (OpenSpec.ofChange fnLegacyReadSpec)) fnLegacyReadCard

/-- THE TIED CARD OF 'laws.FnLegacyTwo'. -/
def fnLegacyTwoCard : Claim7 := { stood := { row := fnLegacyTwoRow, standIns := [], harness := (true, "139931c75339390c7e97916e13fe35f3b5dfebc66dfa4496fed24a4e673c4bd4"), looks := true }, kinds := [], alts := [], laidByText := true, laidKinds := [.data, .data, .data], laidTests := true, laidLooks := .later }
def FnLegacyTwoCardSaid : Prop := Claim7.holds Tryd.pinned (.plain (OpenSpec.ofChange fnLegacyTwoSpec)) fnLegacyTwoCard

/-- THE TIED CARD OF 'laws.FnConstantEnds'. -/
def fnConstantEndsCard : Claim7 := { stood := { row := fnConstantEndsRow, standIns := [], harness := (true, "139931c75339390c7e97916e13fe35f3b5dfebc66dfa4496fed24a4e673c4bd4"), looks := true }, kinds := [], alts := [], laidByText := true, laidKinds := [.data, .data, .data], laidTests := true, laidLooks := .later }
def FnConstantEndsCardSaid : Prop := Claim7.holds Tryd.pinned (.plain (OpenSpec.ofChange fnConstantEndsSpec)) fnConstantEndsCard

/-- THE TIED CARD OF 'laws.FnConstantGreatest'. -/
def fnConstantGreatestCard : Claim7 := { stood := { row := fnConstantGreatestRow, standIns := [], harness := (true, "139931c75339390c7e97916e13fe35f3b5dfebc66dfa4496fed24a4e673c4bd4"), looks := true }, kinds := [], alts := [], laidByText := true, laidKinds := [.data, .data, .data], laidTests := true, laidLooks := .later }
def FnConstantGreatestCardSaid : Prop := Claim7.holds Tryd.pinned (.plain (OpenSpec.ofChange fnConstantGreatestSpec)) fnConstantGreatestCard

/-- THE TIED CARD OF 'laws.FnConstantReference'. -/
def fnConstantReferenceCard : Claim7 := { stood := { row := fnConstantReferenceRow, standIns := [], harness := (true, "139931c75339390c7e97916e13fe35f3b5dfebc66dfa4496fed24a4e673c4bd4"), looks := true }, kinds := [], alts := [], laidByText := true, laidKinds := [.data, .data, .data], laidTests := true, laidLooks := .later }
def FnConstantReferenceCardSaid : Prop := Claim7.holds Tryd.pinned (.plain (OpenSpec.ofChange fnConstantReferenceSpec)) fnConstantReferenceCard

/-- THE TIED CARD OF 'laws.FnConstantZero'. -/
def fnConstantZeroCard : Claim7 := { stood := { row := fnConstantZeroRow, standIns := [], harness := (true, "139931c75339390c7e97916e13fe35f3b5dfebc66dfa4496fed24a4e673c4bd4"), looks := true }, kinds := [], alts := [], laidByText := true, laidKinds := [.data, .data, .data], laidTests := true, laidLooks := .later }
def FnConstantZeroCardSaid : Prop := Claim7.holds Tryd.pinned (.plain (OpenSpec.ofChange fnConstantZeroSpec)) fnConstantZeroCard

/-- THE TIED CARD OF 'laws.FnConstantChar'. -/
def fnConstantCharCard : Claim7 := { stood := { row := fnConstantCharRow, standIns := [], harness := (true, "139931c75339390c7e97916e13fe35f3b5dfebc66dfa4496fed24a4e673c4bd4"), looks := true }, kinds := [], alts := [], laidByText := true, laidKinds := [.data, .data, .data, .data, .pinned], laidTests := true, laidLooks := .later }
def FnConstantCharCardSaid : Prop := Claim7.holds Tryd.pinned (.plain (OpenSpec.ofChange fnConstantCharSpec)) fnConstantCharCard

/-- THE TIED CARD OF 'laws.FnConstantUnsigned'. -/
def fnConstantUnsignedCard : Claim7 := { stood := { row := fnConstantUnsignedRow, standIns := [], harness := (true, "139931c75339390c7e97916e13fe35f3b5dfebc66dfa4496fed24a4e673c4bd4"), looks := true }, kinds := [], alts := [], laidByText := true, laidKinds := [.data, .data, .data, .data, .pinned], laidTests := true, laidLooks := .later }
def FnConstantUnsignedCardSaid : Prop := Claim7.holds Tryd.pinned (.plain (OpenSpec.ofChange fnConstantUnsignedSpec)) fnConstantUnsignedCard

/-- THE TIED CARD OF 'laws.FnConstantMade'. -/
def fnConstantMadeCard : Claim7 := { stood := { row := fnConstantMadeRow, standIns := [], harness := (true, "139931c75339390c7e97916e13fe35f3b5dfebc66dfa4496fed24a4e673c4bd4"), looks := true }, kinds := [], alts := [], laidByText := true, laidKinds := [.data, .data, .data, .data, .pinned], laidTests := true, laidLooks := .later }
def FnConstantMadeCardSaid : Prop := Claim7.holds Tryd.pinned (.plain (OpenSpec.ofChange fnConstantMadeSpec)) fnConstantMadeCard

/-- THE SECOND FORM's CARD OF 'laws.FnLegacyEscape'. -/
def fnLegacyEscapeUptoCard : Claim7 := { stood := { row := fnLegacyEscapeUptoRow, standIns := [], harness := (true, "139931c75339390c7e97916e13fe35f3b5dfebc66dfa4496fed24a4e673c4bd4"), looks := true }, kinds := [], alts := [], laidByText := true, laidKinds := [.data, .data, .data], laidTests := true, laidLooks := .later }
def FnLegacyEscapeUptoCardSaid : Prop := Claim7.holds Tryd.pinned (.plain (OpenSpec.upto fnLegacyEscapeSpec)) fnLegacyEscapeUptoCard

/-- THE SECOND FORM's CARD OF 'laws.FnLegacyHashUnseen'. -/
def fnLegacyHashUnseenUptoCard : Claim7 := { stood := { row := fnLegacyHashUnseenUptoRow, standIns := [], harness := (true, "139931c75339390c7e97916e13fe35f3b5dfebc66dfa4496fed24a4e673c4bd4"), looks := true }, kinds := [], alts := [], laidByText := true, laidKinds := [.data, .data, .data], laidTests := true, laidLooks := .later }
def FnLegacyHashUnseenUptoCardSaid : Prop := Claim7.holds Tryd.pinned (.plain (OpenSpec.upto fnLegacyHashUnseenSpec)) fnLegacyHashUnseenUptoCard

/-- THE SECOND FORM's CARD OF 'laws.FnLegacyLonger'. -/
def fnLegacyLongerUptoCard : Claim7 := { stood := { row := fnLegacyLongerUptoRow, standIns := [], harness := (true, "139931c75339390c7e97916e13fe35f3b5dfebc66dfa4496fed24a4e673c4bd4"), looks := true }, kinds := [], alts := [], laidByText := true, laidKinds := [.data, .data, .data], laidTests := true, laidLooks := .later }
def FnLegacyLongerUptoCardSaid : Prop := Claim7.holds Tryd.pinned (.plain (OpenSpec.upto fnLegacyLongerSpec)) fnLegacyLongerUptoCard

/-- THE SECOND FORM's CARD OF 'laws.FnLegacyRead'. -/
def fnLegacyReadUptoCard : Claim7 := { stood := { row := fnLegacyReadUptoRow, standIns := [], harness := (true, "139931c75339390c7e97916e13fe35f3b5dfebc66dfa4496fed24a4e673c4bd4"), looks := true }, kinds := [], alts := [], laidByText := true, laidKinds := [.data, .data, .data], laidTests := true, laidLooks := .later }
def FnLegacyReadUptoCardSaid : Prop := Claim7.holds Tryd.pinned (.plain (OpenSpec.upto fnLegacyReadSpec)) fnLegacyReadUptoCard

/-- THE SECOND FORM's CARD OF 'laws.FnLegacyTwo'. -/
def fnLegacyTwoUptoCard : Claim7 := { stood := { row := fnLegacyTwoUptoRow, standIns := [], harness := (true, "139931c75339390c7e97916e13fe35f3b5dfebc66dfa4496fed24a4e673c4bd4"), looks := true }, kinds := [], alts := [], laidByText := true, laidKinds := [.data, .data, .data], laidTests := true, laidLooks := .later }
def FnLegacyTwoUptoCardSaid : Prop := Claim7.holds Tryd.pinned (.plain (OpenSpec.upto fnLegacyTwoSpec)) fnLegacyTwoUptoCard

/-- THE SECOND FORM's CARD OF 'laws.FnConstantEnds'. -/
def fnConstantEndsUptoCard : Claim7 := { stood := { row := fnConstantEndsUptoRow, standIns := [], harness := (true, "139931c75339390c7e97916e13fe35f3b5dfebc66dfa4496fed24a4e673c4bd4"), looks := true }, kinds := [], alts := [], laidByText := true, laidKinds := [.data, .data, .data], laidTests := true, laidLooks := .later }
def FnConstantEndsUptoCardSaid : Prop := Claim7.holds Tryd.pinned (.plain (OpenSpec.upto fnConstantEndsSpec)) fnConstantEndsUptoCard

/-- THE SECOND FORM's CARD OF 'laws.FnConstantGreatest'. -/
def fnConstantGreatestUptoCard : Claim7 := { stood := { row := fnConstantGreatestUptoRow, standIns := [], harness := (true, "139931c75339390c7e97916e13fe35f3b5dfebc66dfa4496fed24a4e673c4bd4"), looks := true }, kinds := [], alts := [], laidByText := true, laidKinds := [.data, .data, .data], laidTests := true, laidLooks := .later }
def FnConstantGreatestUptoCardSaid : Prop := Claim7.holds Tryd.pinned (.plain (OpenSpec.upto fnConstantGreatestSpec)) fnConstantGreatestUptoCard

/-- THE SECOND FORM's CARD OF 'laws.FnConstantReference'. -/
def fnConstantReferenceUptoCard : Claim7 := { stood := { row := fnConstantReferenceUptoRow, standIns := [], harness := (true, "139931c75339390c7e97916e13fe35f3b5dfebc66dfa4496fed24a4e673c4bd4"), looks := true }, kinds := [], alts := [], laidByText := true, laidKinds := [.data, .data, .data], laidTests := true, laidLooks := .later }
def FnConstantReferenceUptoCardSaid : Prop := Claim7.holds Tryd.pinned (.plain (OpenSpec.upto fnConstantReferenceSpec)) fnConstantReferenceUptoCard

/-- THE SECOND FORM's CARD OF 'laws.FnConstantZero'. -/
def fnConstantZeroUptoCard : Claim7 := { stood := { row := fnConstantZeroUptoRow, standIns := [], harness := (true, "139931c75339390c7e97916e13fe35f3b5dfebc66dfa4496fed24a4e673c4bd4"), looks := true }, kinds := [], alts := [], laidByText := true, laidKinds := [.data, .data, .data], laidTests := true, laidLooks := .later }
def FnConstantZeroUptoCardSaid : Prop := Claim7.holds Tryd.pinned (.plain (OpenSpec.upto fnConstantZeroSpec)) fnConstantZeroUptoCard

/-- THE SECOND FORM's CARD OF 'laws.FnConstantChar'. -/
def fnConstantCharUptoCard : Claim7 := { stood := { row := fnConstantCharUptoRow, standIns := [], harness := (true, "139931c75339390c7e97916e13fe35f3b5dfebc66dfa4496fed24a4e673c4bd4"), looks := true }, kinds := [], alts := [], laidByText := true, laidKinds := [.data, .data, .data, .data, .pinned], laidTests := true, laidLooks := .later }
def FnConstantCharUptoCardSaid : Prop := Claim7.holds Tryd.pinned (.plain (OpenSpec.upto fnConstantCharSpec)) fnConstantCharUptoCard

/-- THE SECOND FORM's CARD OF 'laws.FnConstantUnsigned'. -/
def fnConstantUnsignedUptoCard : Claim7 := { stood := { row := fnConstantUnsignedUptoRow, standIns := [], harness := (true, "139931c75339390c7e97916e13fe35f3b5dfebc66dfa4496fed24a4e673c4bd4"), looks := true }, kinds := [], alts := [], laidByText := true, laidKinds := [.data, .data, .data, .data, .pinned], laidTests := true, laidLooks := .later }
def FnConstantUnsignedUptoCardSaid : Prop := Claim7.holds Tryd.pinned (.plain (OpenSpec.upto fnConstantUnsignedSpec)) fnConstantUnsignedUptoCard

/-- THE SECOND FORM's CARD OF 'laws.FnConstantMade'. -/
def fnConstantMadeUptoCard : Claim7 := { stood := { row := fnConstantMadeUptoRow, standIns := [], harness := (true, "139931c75339390c7e97916e13fe35f3b5dfebc66dfa4496fed24a4e673c4bd4"), looks := true }, kinds := [], alts := [], laidByText := true, laidKinds := [.data, .data, .data, .data, .pinned], laidTests := true, laidLooks := .later }
def FnConstantMadeUptoCardSaid : Prop := Claim7.holds Tryd.pinned (.plain (OpenSpec.upto fnConstantMadeSpec)) fnConstantMadeUptoCard
end Rows
end Go.Proofs.YtepcpmeblidkgaaDoor
