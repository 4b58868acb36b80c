/-
  DERIVED. GIVEN WITH THE SEED: THE CARDS: each row of YtgaaehpmbkjhlaaGreatDoorRows.lean that lists a variable, with what it lists TIED to the program's text (the seventh form; the later family's looks); each row that meets fmt, with fmt's text TOLD by the authors' own Lean function (tested against real Go, not proved from fmt's source: count such statements apart). THE CARD IS WHAT COUNTS. Prove the row's statement (the work); the ties are given (YtgaaehpmbkjhlaaGreatDoorTie.lean); close each card by the builder's one call (the guide's Derived/Test/ToyasCard.lean, 'card_holds'). Laid BY PROGRAM, IN A SANDBOX (cutbox-door.mjs). By AI agents, Wed Nov 11 2026. No macro, syntax, notation, axiom, sorry.
-/
import Derived.Test.YtgaaehpmbkjhlaaGreatDoorRows
import GoSem.ClaimSeven
namespace Go.Proofs.YtgaaehpmbkjhlaaGreatDoor
namespace Rows

/-- THE TIED CARD OF 'laws.FnTold'. -/
def fnToldCard : Claim7 := { stood := { row := fnToldRow, standIns := [], harness := (true, "6561a7a18ea2a07cf4afdb8dc88f6900e09fcbee2f89921e347865e40952a629"), looks := true }, kinds := [], alts := [], laidByText := true, laidKinds := [.data, .data, .widerDeep, .widerDeep, .data, .data, .data, .data, .data, .sentinel, .sentinel, .sentinel, .pinned, .pinned], laidTests := true, laidLooks := .later }
def FnToldCardSaid : Prop := Claim7.holds Tryz.pinned (.plain (OpenSpec.ofChange fnToldSpec)) fnToldCard

/-- THE TIED CARD OF 'laws.FnValidate'. -/
def fnValidateCard : Claim7 := { stood := { row := fnValidateRow, standIns := [], harness := (true, "6561a7a18ea2a07cf4afdb8dc88f6900e09fcbee2f89921e347865e40952a629"), looks := true }, kinds := [], alts := [], laidByText := true, laidKinds := [.sentinel, .sentinel, .sentinel, .sentinel, .sentinel, .sentinel, .sentinel, .sentinel, .sentinel, .sentinel, .sentinel, .sentinel, .sentinel, .sentinel, .sentinel, .sentinel], laidTests := true, laidLooks := .later }
def FnValidateCardSaid : Prop := Claim7.holds Tryz.pinned (.plain (OpenSpec.ofChange fnValidateSpec)) fnValidateCard

/-- THE TIED CARD OF 'laws.FnTypes'. -/
def fnTypesCard : Claim7 := { stood := { row := fnTypesRow, standIns := [], harness := (true, "6561a7a18ea2a07cf4afdb8dc88f6900e09fcbee2f89921e347865e40952a629"), looks := true }, kinds := [], alts := [], laidByText := true, laidKinds := [.data, .data, .widerDeep, .widerDeep, .data, .data, .data, .data, .data, .sentinel, .sentinel, .sentinel, .sentinel, .sentinel, .sentinel, .sentinel, .sentinel, .sentinel, .sentinel, .sentinel, .sentinel, .sentinel, .sentinel, .sentinel, .sentinel, .sentinel, .sentinel, .pinned, .pinned], laidTests := true, laidLooks := .later }
def FnTypesCardSaid : Prop := Claim7.holds Tryz.pinned (.plain (OpenSpec.ofChange fnTypesSpec)) fnTypesCard

/-- THE SECOND FORM's CARD OF 'laws.FnTold'. -/
def fnToldUptoCard : Claim7 := { stood := { row := fnToldUptoRow, standIns := [], harness := (true, "6561a7a18ea2a07cf4afdb8dc88f6900e09fcbee2f89921e347865e40952a629"), looks := true }, kinds := [], alts := [], laidByText := true, laidKinds := [.data, .data, .widerDeep, .widerDeep, .data, .data, .data, .data, .data, .sentinel, .sentinel, .sentinel, .pinned, .pinned], laidTests := true, laidLooks := .later }
def FnToldUptoCardSaid : Prop := Claim7.holds Tryz.pinned (.plain (OpenSpec.upto fnToldSpec)) fnToldUptoCard

/-- THE SECOND FORM's CARD OF 'laws.FnValidate'. -/
def fnValidateUptoCard : Claim7 := { stood := { row := fnValidateUptoRow, standIns := [], harness := (true, "6561a7a18ea2a07cf4afdb8dc88f6900e09fcbee2f89921e347865e40952a629"), looks := true }, kinds := [], alts := [], laidByText := true, laidKinds := [.sentinel, .sentinel, .sentinel, .sentinel, .sentinel, .sentinel, .sentinel, .sentinel, .sentinel, .sentinel, .sentinel, .sentinel, .sentinel, .sentinel, .sentinel, .sentinel], laidTests := true, laidLooks := .later }
def FnValidateUptoCardSaid : Prop := Claim7.holds Tryz.pinned (.plain (OpenSpec.upto fnValidateSpec)) fnValidateUptoCard

/-- THE SECOND FORM's CARD OF 'laws.FnTypes'. -/
def fnTypesUptoCard : Claim7 := { stood := { row := fnTypesUptoRow, standIns := [], harness := (true, "6561a7a18ea2a07cf4afdb8dc88f6900e09fcbee2f89921e347865e40952a629"), looks := true }, kinds := [], alts := [], laidByText := true, laidKinds := [.data, .data, .widerDeep, .widerDeep, .data, .data, .data, .data, .data, .sentinel, .sentinel, .sentinel, .sentinel, .sentinel, .sentinel, .sentinel, .sentinel, .sentinel, .sentinel, .sentinel, .sentinel, .sentinel, .sentinel, .sentinel, .sentinel, .sentinel, .sentinel, .pinned, .pinned], laidTests := true, laidLooks := .later }
def FnTypesUptoCardSaid : Prop := Claim7.holds Tryz.pinned (.plain (OpenSpec.upto fnTypesSpec)) fnTypesUptoCard
end Rows
end Go.Proofs.YtgaaehpmbkjhlaaGreatDoor
