/-
  DERIVED. GIVEN WITH THE SEED: THE CARDS: each row of YtokjbdofpdncdaaDoorRows.lean that lists a variable, with what it lists TIED to the program's text (the seventh form; the later family's looks); each row that meets fmt, with fmt's text TOLD by the authors' own Lean function (tested against real Go, not proved from fmt's source: count such statements apart). THE CARD IS WHAT COUNTS. Prove the row's statement (the work); the ties are given (YtokjbdofpdncdaaDoorTie.lean); close each card by the builder's one call (the guide's Derived/Test/ToyasCard.lean, 'card_holds'). Laid BY PROGRAM, IN A SANDBOX (cutbox-door.mjs). By AI agents, Wed Nov 11 2026. No macro, syntax, notation, axiom, sorry.
-/
import Derived.Test.YtokjbdofpdncdaaDoorRows
import GoSem.ClaimSeven
namespace Go.Proofs.YtokjbdofpdncdaaDoor
namespace Rows

/-- THE TIED CARD OF 'laws.FnLegacyHashUnseen'. -/
def fnLegacyHashUnseenCard : Claim7 := { stood := { row := fnLegacyHashUnseenRow, standIns := [], harness := (true, "ce3cec0d808ea65d6aa800ffeaf17e434d222761c10f078f7d994ea8a1d1e7fb"), looks := true }, kinds := [], alts := [], laidByText := true, laidKinds := [.data, .data, .data], laidTests := true, laidLooks := .later }
def FnLegacyHashUnseenCardSaid : Prop := Claim7.holds Tryd.pinned (.plain (OpenSpec.ofChange fnLegacyHashUnseenSpec)) fnLegacyHashUnseenCard

/-- THE TIED CARD OF 'laws.FnConstantMade'. -/
def fnConstantMadeCard : Claim7 := { stood := { row := fnConstantMadeRow, standIns := [], harness := (true, "ce3cec0d808ea65d6aa800ffeaf17e434d222761c10f078f7d994ea8a1d1e7fb"), looks := true }, kinds := [], alts := [], laidByText := true, laidKinds := [.data, .data, .data, .data, .pinned], laidTests := true, laidLooks := .later }
def FnConstantMadeCardSaid : Prop := Claim7.holds Tryd.pinned (.plain (OpenSpec.ofChange fnConstantMadeSpec)) fnConstantMadeCard

/-- THE TIED CARD OF 'laws.FnBasicArgument'. -/
def fnBasicArgumentCard : Claim7 := { stood := { row := fnBasicArgumentRow, standIns := [], harness := (true, "ce3cec0d808ea65d6aa800ffeaf17e434d222761c10f078f7d994ea8a1d1e7fb"), looks := true }, kinds := [], alts := [], laidByText := true, laidKinds := [.data, .data, .data, .sentinel, .mapped], laidTests := true, laidLooks := .later }
def FnBasicArgumentCardSaid : Prop := Claim7.holds Tryd.pinned (.plain (OpenSpec.ofChange fnBasicArgumentSpec)) fnBasicArgumentCard

/-- THE SECOND FORM's CARD OF 'laws.FnLegacyHashUnseen'. -/
def fnLegacyHashUnseenUptoCard : Claim7 := { stood := { row := fnLegacyHashUnseenUptoRow, standIns := [], harness := (true, "ce3cec0d808ea65d6aa800ffeaf17e434d222761c10f078f7d994ea8a1d1e7fb"), looks := true }, kinds := [], alts := [], laidByText := true, laidKinds := [.data, .data, .data], laidTests := true, laidLooks := .later }
def FnLegacyHashUnseenUptoCardSaid : Prop := Claim7.holds Tryd.pinned (.plain (OpenSpec.upto fnLegacyHashUnseenSpec)) fnLegacyHashUnseenUptoCard

/-- THE SECOND FORM's CARD OF 'laws.FnConstantMade'. -/
def fnConstantMadeUptoCard : Claim7 := { stood := { row := fnConstantMadeUptoRow, standIns := [], harness := (true, "ce3cec0d808ea65d6aa800ffeaf17e434d222761c10f078f7d994ea8a1d1e7fb"), looks := true }, kinds := [], alts := [], laidByText := true, laidKinds := [.data, .data, .data, .data, .pinned], laidTests := true, laidLooks := .later }
def FnConstantMadeUptoCardSaid : Prop := Claim7.holds Tryd.pinned (.plain (OpenSpec.upto fnConstantMadeSpec)) fnConstantMadeUptoCard

/-- THE SECOND FORM's CARD OF 'laws.FnBasicArgument'. -/
def fnBasicArgumentUptoCard : Claim7 := { stood := { row := fnBasicArgumentUptoRow, standIns := [], harness := (true, "ce3cec0d808ea65d6aa800ffeaf17e434d222761c10f078f7d994ea8a1d1e7fb"), looks := true }, kinds := [], alts := [], laidByText := true, laidKinds := [.data, .data, .data, .sentinel, .mapped], laidTests := true, laidLooks := .later }
def FnBasicArgumentUptoCardSaid : Prop := Claim7.holds Tryd.pinned (.plain (OpenSpec.upto fnBasicArgumentSpec)) fnBasicArgumentUptoCard
end Rows
end Go.Proofs.YtokjbdofpdncdaaDoor
