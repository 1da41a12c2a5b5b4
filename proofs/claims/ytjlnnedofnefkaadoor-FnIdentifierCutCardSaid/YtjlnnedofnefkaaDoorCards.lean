/-
  DERIVED. GIVEN WITH THE SEED: THE CARDS: each row of YtjlnnedofnefkaaDoorRows.lean that lists a variable, with what it lists TIED to the program's text (the seventh form; the later family's looks); each row that meets fmt, with fmt's text TOLD by the authors' own Lean function (tested against real Go, not proved from fmt's source: count such statements apart). THE CARD IS WHAT COUNTS. Prove the row's statement (the work); the ties are given (YtjlnnedofnefkaaDoorTie.lean); close each card by the builder's one call (the guide's Derived/Test/ToyasCard.lean, 'card_holds'). Laid BY PROGRAM, IN A SANDBOX (cutbox-door.mjs). By AI agents, Wed Nov 11 2026. No macro, syntax, notation, axiom, sorry.
-/
import Derived.Test.YtjlnnedofnefkaaDoorRows
import GoSem.ClaimSeven
namespace Go.Proofs.YtjlnnedofnefkaaDoor
namespace Rows

/-- THE TIED CARD OF 'laws.FnBasicText'. -/
def fnBasicTextCard : Claim7 := { stood := { row := fnBasicTextRow, standIns := [], harness := (true, "bc293a06fab1f32b037c24de6aa2eeabe357462c72466043d550060680b0f185"), looks := true }, kinds := [], alts := [], laidByText := true, laidKinds := [.mapped], laidTests := true, laidLooks := .later }
def FnBasicTextCardSaid : Prop := Claim7.holds Tryd.pinned (.plain (OpenSpec.ofChange fnBasicTextSpec)) fnBasicTextCard

/-- THE TIED CARD OF 'laws.FnBasicWidths'. -/
def fnBasicWidthsCard : Claim7 := { stood := { row := fnBasicWidthsRow, standIns := [], harness := (true, "bc293a06fab1f32b037c24de6aa2eeabe357462c72466043d550060680b0f185"), looks := true }, kinds := [], alts := [], laidByText := true, laidKinds := [.mapped], laidTests := true, laidLooks := .later }
def FnBasicWidthsCardSaid : Prop := Claim7.holds Tryd.pinned (.plain (OpenSpec.ofChange fnBasicWidthsSpec)) fnBasicWidthsCard

/-- THE TIED CARD OF 'laws.FnDecimalTwo'. -/
def fnDecimalTwoCard : Claim7 := { stood := { row := fnDecimalTwoRow, standIns := [], harness := (true, "bc293a06fab1f32b037c24de6aa2eeabe357462c72466043d550060680b0f185"), looks := true }, kinds := [], alts := [], laidByText := true, laidKinds := [.data, .data, .data], laidTests := true, laidLooks := .later }
def FnDecimalTwoCardSaid : Prop := Claim7.holds Tryd.pinned (.plain (OpenSpec.ofChange fnDecimalTwoSpec)) fnDecimalTwoCard

/-- THE TIED CARD OF 'laws.FnIdentifierPlain'. -/
def fnIdentifierPlainCard : Claim7 := { stood := { row := fnIdentifierPlainRow, standIns := [], harness := (true, "bc293a06fab1f32b037c24de6aa2eeabe357462c72466043d550060680b0f185"), looks := true }, kinds := [], alts := [], laidByText := true, laidKinds := [.data, .data, .data], laidTests := true, laidLooks := .later }
def FnIdentifierPlainCardSaid : Prop := Claim7.holds Tryd.pinned (.plain (OpenSpec.ofChange fnIdentifierPlainSpec)) fnIdentifierPlainCard

/-- THE TIED CARD OF 'laws.FnIdentifierCut'. -/
def fnIdentifierCutCard : Claim7 := { stood := { row := fnIdentifierCutRow, standIns := [], harness := (true, "bc293a06fab1f32b037c24de6aa2eeabe357462c72466043d550060680b0f185"), looks := true }, kinds := [], alts := [], laidByText := true, laidKinds := [.data, .data, .data, .data, .pinned], laidTests := true, laidLooks := .later }
def FnIdentifierCutCardSaid : Prop := Claim7.holds Tryd.pinned (.plain (OpenSpec.ofChange fnIdentifierCutSpec)) fnIdentifierCutCard

/-- THE SECOND FORM's CARD OF 'laws.FnBasicText'. -/
def fnBasicTextUptoCard : Claim7 := { stood := { row := fnBasicTextUptoRow, standIns := [], harness := (true, "bc293a06fab1f32b037c24de6aa2eeabe357462c72466043d550060680b0f185"), looks := true }, kinds := [], alts := [], laidByText := true, laidKinds := [.mapped], laidTests := true, laidLooks := .later }
def FnBasicTextUptoCardSaid : Prop := Claim7.holds Tryd.pinned (.plain (OpenSpec.upto fnBasicTextSpec)) fnBasicTextUptoCard

/-- THE SECOND FORM's CARD OF 'laws.FnBasicWidths'. -/
def fnBasicWidthsUptoCard : Claim7 := { stood := { row := fnBasicWidthsUptoRow, standIns := [], harness := (true, "bc293a06fab1f32b037c24de6aa2eeabe357462c72466043d550060680b0f185"), looks := true }, kinds := [], alts := [], laidByText := true, laidKinds := [.mapped], laidTests := true, laidLooks := .later }
def FnBasicWidthsUptoCardSaid : Prop := Claim7.holds Tryd.pinned (.plain (OpenSpec.upto fnBasicWidthsSpec)) fnBasicWidthsUptoCard

/-- THE SECOND FORM's CARD OF 'laws.FnDecimalTwo'. -/
def fnDecimalTwoUptoCard : Claim7 := { stood := { row := fnDecimalTwoUptoRow, standIns := [], harness := (true, "bc293a06fab1f32b037c24de6aa2eeabe357462c72466043d550060680b0f185"), looks := true }, kinds := [], alts := [], laidByText := true, laidKinds := [.data, .data, .data], laidTests := true, laidLooks := .later }
def FnDecimalTwoUptoCardSaid : Prop := Claim7.holds Tryd.pinned (.plain (OpenSpec.upto fnDecimalTwoSpec)) fnDecimalTwoUptoCard

/-- THE SECOND FORM's CARD OF 'laws.FnIdentifierPlain'. -/
def fnIdentifierPlainUptoCard : Claim7 := { stood := { row := fnIdentifierPlainUptoRow, standIns := [], harness := (true, "bc293a06fab1f32b037c24de6aa2eeabe357462c72466043d550060680b0f185"), looks := true }, kinds := [], alts := [], laidByText := true, laidKinds := [.data, .data, .data], laidTests := true, laidLooks := .later }
def FnIdentifierPlainUptoCardSaid : Prop := Claim7.holds Tryd.pinned (.plain (OpenSpec.upto fnIdentifierPlainSpec)) fnIdentifierPlainUptoCard

/-- THE SECOND FORM's CARD OF 'laws.FnIdentifierCut'. -/
def fnIdentifierCutUptoCard : Claim7 := { stood := { row := fnIdentifierCutUptoRow, standIns := [], harness := (true, "bc293a06fab1f32b037c24de6aa2eeabe357462c72466043d550060680b0f185"), looks := true }, kinds := [], alts := [], laidByText := true, laidKinds := [.data, .data, .data, .data, .pinned], laidTests := true, laidLooks := .later }
def FnIdentifierCutUptoCardSaid : Prop := Claim7.holds Tryd.pinned (.plain (OpenSpec.upto fnIdentifierCutSpec)) fnIdentifierCutUptoCard
end Rows
end Go.Proofs.YtjlnnedofnefkaaDoor
