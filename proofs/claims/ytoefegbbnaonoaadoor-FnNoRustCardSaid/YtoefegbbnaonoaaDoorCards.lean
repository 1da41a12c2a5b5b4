/-
  DERIVED. GIVEN WITH THE SEED: THE CARDS: each row of YtoefegbbnaonoaaDoorRows.lean that lists a variable, with what it lists TIED to the program's text (the seventh form; the later family's looks); each row that meets fmt, with fmt's text TOLD by the authors' own Lean function (tested against real Go, not proved from fmt's source: count such statements apart). THE CARD IS WHAT COUNTS. Prove the row's statement (the work); the ties are given (YtoefegbbnaonoaaDoorTie.lean); close each card by the builder's one call (the guide's Derived/Test/ToyasCard.lean, 'card_holds'). Laid BY PROGRAM, IN A SANDBOX (cutbox-door.mjs). By AI agents, Wed Nov 11 2026. No macro, syntax, notation, axiom, sorry.
-/
import Derived.Test.YtoefegbbnaonoaaDoorRows
import GoSem.ClaimSeven
namespace Go.Proofs.YtoefegbbnaonoaaDoor
namespace Rows

/-- THE TIED CARD OF 'laws.FnCutNumberRefused'. -/
def fnCutNumberRefusedCard : Claim7 := { stood := { row := fnCutNumberRefusedRow, standIns := [], harness := (true, "b14583c221ddb1176978385f8fb4f64d67dff13c95c93a7e905b8c9ad28117d3"), looks := true }, kinds := [], alts := [], laidByText := true, laidKinds := [.data, .data, .data, .sentinel, .mapped], laidTests := true, laidLooks := .later }
def FnCutNumberRefusedCardSaid : Prop := Claim7.holds Tryd.pinned (.plain (OpenSpec.ofChange fnCutNumberRefusedSpec)) fnCutNumberRefusedCard

/-- THE TIED CARD OF 'laws.FnNoRust'. -/
def fnNoRustCard : Claim7 := { stood := { row := fnNoRustRow, standIns := [], harness := (true, "b14583c221ddb1176978385f8fb4f64d67dff13c95c93a7e905b8c9ad28117d3"), looks := true }, kinds := [], alts := [], laidByText := true, laidKinds := [.data, .data, .data, .sentinel, .mapped], laidTests := true, laidLooks := .later }
def FnNoRustCardSaid : Prop := Claim7.holds Tryd.pinned (.plain (OpenSpec.ofChange fnNoRustSpec)) fnNoRustCard

/-- THE TIED CARD OF 'laws.FnUnknownRefused'. -/
def fnUnknownRefusedCard : Claim7 := { stood := { row := fnUnknownRefusedRow, standIns := [], harness := (true, "b14583c221ddb1176978385f8fb4f64d67dff13c95c93a7e905b8c9ad28117d3"), looks := true }, kinds := [], alts := [], laidByText := true, laidKinds := [.data, .data, .data, .sentinel, .mapped], laidTests := true, laidLooks := .later }
def FnUnknownRefusedCardSaid : Prop := Claim7.holds Tryd.pinned (.plain (OpenSpec.ofChange fnUnknownRefusedSpec)) fnUnknownRefusedCard

/-- THE TIED CARD OF 'laws.FnHugeNumberRefused'. -/
def fnHugeNumberRefusedCard : Claim7 := { stood := { row := fnHugeNumberRefusedRow, standIns := [], harness := (true, "b14583c221ddb1176978385f8fb4f64d67dff13c95c93a7e905b8c9ad28117d3"), looks := true }, kinds := [], alts := [], laidByText := true, laidKinds := [.data, .data, .data, .sentinel, .mapped], laidTests := true, laidLooks := .later }
def FnHugeNumberRefusedCardSaid : Prop := Claim7.holds Tryd.pinned (.plain (OpenSpec.ofChange fnHugeNumberRefusedSpec)) fnHugeNumberRefusedCard

/-- THE TIED CARD OF 'laws.FnBasicArgument'. -/
def fnBasicArgumentCard : Claim7 := { stood := { row := fnBasicArgumentRow, standIns := [], harness := (true, "b14583c221ddb1176978385f8fb4f64d67dff13c95c93a7e905b8c9ad28117d3"), looks := true }, kinds := [], alts := [], laidByText := true, laidKinds := [.data, .data, .data, .sentinel, .mapped], laidTests := true, laidLooks := .later }
def FnBasicArgumentCardSaid : Prop := Claim7.holds Tryd.pinned (.plain (OpenSpec.ofChange fnBasicArgumentSpec)) fnBasicArgumentCard

/-- THE TIED CARD OF 'laws.FnClosureNumber'. -/
def fnClosureNumberCard : Claim7 := { stood := { row := fnClosureNumberRow, standIns := [], harness := (true, "b14583c221ddb1176978385f8fb4f64d67dff13c95c93a7e905b8c9ad28117d3"), looks := true }, kinds := [], alts := [], laidByText := true, laidKinds := [.data, .data, .data, .data, .sentinel, .mapped, .pinned], laidTests := true, laidLooks := .later }
def FnClosureNumberCardSaid : Prop := Claim7.holds Tryd.pinned (.plain (OpenSpec.ofChange fnClosureNumberSpec)) fnClosureNumberCard

/-- THE SECOND FORM's CARD OF 'laws.FnCutNumberRefused'. -/
def fnCutNumberRefusedUptoCard : Claim7 := { stood := { row := fnCutNumberRefusedUptoRow, standIns := [], harness := (true, "b14583c221ddb1176978385f8fb4f64d67dff13c95c93a7e905b8c9ad28117d3"), looks := true }, kinds := [], alts := [], laidByText := true, laidKinds := [.data, .data, .data, .sentinel, .mapped], laidTests := true, laidLooks := .later }
def FnCutNumberRefusedUptoCardSaid : Prop := Claim7.holds Tryd.pinned (.plain (OpenSpec.upto fnCutNumberRefusedSpec)) fnCutNumberRefusedUptoCard

/-- THE SECOND FORM's CARD OF 'laws.FnNoRust'. -/
def fnNoRustUptoCard : Claim7 := { stood := { row := fnNoRustUptoRow, standIns := [], harness := (true, "b14583c221ddb1176978385f8fb4f64d67dff13c95c93a7e905b8c9ad28117d3"), looks := true }, kinds := [], alts := [], laidByText := true, laidKinds := [.data, .data, .data, .sentinel, .mapped], laidTests := true, laidLooks := .later }
def FnNoRustUptoCardSaid : Prop := Claim7.holds Tryd.pinned (.plain (OpenSpec.upto fnNoRustSpec)) fnNoRustUptoCard

/-- THE SECOND FORM's CARD OF 'laws.FnUnknownRefused'. -/
def fnUnknownRefusedUptoCard : Claim7 := { stood := { row := fnUnknownRefusedUptoRow, standIns := [], harness := (true, "b14583c221ddb1176978385f8fb4f64d67dff13c95c93a7e905b8c9ad28117d3"), looks := true }, kinds := [], alts := [], laidByText := true, laidKinds := [.data, .data, .data, .sentinel, .mapped], laidTests := true, laidLooks := .later }
def FnUnknownRefusedUptoCardSaid : Prop := Claim7.holds Tryd.pinned (.plain (OpenSpec.upto fnUnknownRefusedSpec)) fnUnknownRefusedUptoCard

/-- THE SECOND FORM's CARD OF 'laws.FnHugeNumberRefused'. -/
def fnHugeNumberRefusedUptoCard : Claim7 := { stood := { row := fnHugeNumberRefusedUptoRow, standIns := [], harness := (true, "b14583c221ddb1176978385f8fb4f64d67dff13c95c93a7e905b8c9ad28117d3"), looks := true }, kinds := [], alts := [], laidByText := true, laidKinds := [.data, .data, .data, .sentinel, .mapped], laidTests := true, laidLooks := .later }
def FnHugeNumberRefusedUptoCardSaid : Prop := Claim7.holds Tryd.pinned (.plain (OpenSpec.upto fnHugeNumberRefusedSpec)) fnHugeNumberRefusedUptoCard

/-- THE SECOND FORM's CARD OF 'laws.FnBasicArgument'. -/
def fnBasicArgumentUptoCard : Claim7 := { stood := { row := fnBasicArgumentUptoRow, standIns := [], harness := (true, "b14583c221ddb1176978385f8fb4f64d67dff13c95c93a7e905b8c9ad28117d3"), looks := true }, kinds := [], alts := [], laidByText := true, laidKinds := [.data, .data, .data, .sentinel, .mapped], laidTests := true, laidLooks := .later }
def FnBasicArgumentUptoCardSaid : Prop := Claim7.holds Tryd.pinned (.plain (OpenSpec.upto fnBasicArgumentSpec)) fnBasicArgumentUptoCard

/-- THE SECOND FORM's CARD OF 'laws.FnClosureNumber'. -/
def fnClosureNumberUptoCard : Claim7 := { stood := { row := fnClosureNumberUptoRow, standIns := [], harness := (true, "b14583c221ddb1176978385f8fb4f64d67dff13c95c93a7e905b8c9ad28117d3"), looks := true }, kinds := [], alts := [], laidByText := true, laidKinds := [.data, .data, .data, .data, .sentinel, .mapped, .pinned], laidTests := true, laidLooks := .later }
def FnClosureNumberUptoCardSaid : Prop := Claim7.holds Tryd.pinned (.plain (OpenSpec.upto fnClosureNumberSpec)) fnClosureNumberUptoCard
end Rows
end Go.Proofs.YtoefegbbnaonoaaDoor
