/-
  DERIVED. GIVEN WITH THE SEED: THE CARDS: each row of YtelonenjneonlaaGreatDoorRows.lean that lists a variable, with what it lists TIED to the program's text (the seventh form; the later family's looks); each row that meets fmt, with fmt's text TOLD by the authors' own Lean function (tested against real Go, not proved from fmt's source: count such statements apart). THE CARD IS WHAT COUNTS. Prove the row's statement (the work); the ties are given (YtelonenjneonlaaGreatDoorTie.lean); close each card by the builder's one call (the guide's Derived/Test/ToyasCard.lean, 'card_holds'). Laid BY PROGRAM, IN A SANDBOX (cutbox-door.mjs). By AI agents, Wed Nov 11 2026. No macro, syntax, notation, axiom, sorry.
-/
import Derived.Test.YtelonenjneonlaaGreatDoorRows
import GoSem.ClaimSeven
namespace Go.Proofs.YtelonenjneonlaaGreatDoor
namespace Rows

/-- THE TIED CARD OF 'laws.FnJrTyped'. -/
def fnJrTypedCard : Claim7 := { stood := { row := fnJrTypedRow, standIns := [], harness := (true, "88de855cb45ea1cdcd848b2bc95248a9d343815b0c079f923bd04b5abff55f6c"), looks := true }, kinds := [], alts := [], laidByText := true, laidKinds := [.data, .data, .widerDeep, .widerDeep, .data, .data, .data, .data, .data, .sentinel, .sentinel, .data, .data, .sentinel, .sentinel, .sentinel, .sentinel, .sentinel, .sentinel, .sentinel, .sentinel, .sentinel, .sentinel, .pinned, .pinned], laidTests := true, laidLooks := .later }
def FnJrTypedCardSaid : Prop := Claim7.holds Tryz.pinned (.plain (OpenSpec.ofChange fnJrTypedSpec)) fnJrTypedCard

/-- THE TIED CARD OF 'laws.FnGjJoinKeys'. -/
def fnGjJoinKeysCard : Claim7 := { stood := { row := fnGjJoinKeysRow, standIns := [], harness := (true, "88de855cb45ea1cdcd848b2bc95248a9d343815b0c079f923bd04b5abff55f6c"), looks := true }, kinds := [], alts := [], laidByText := true, laidKinds := [.data, .data, .widerDeep, .widerDeep, .data, .data, .data, .data, .data, .sentinel, .sentinel, .data, .pinned, .pinned], laidTests := true, laidLooks := .later }
def FnGjJoinKeysCardSaid : Prop := Claim7.holds Tryz.pinned (.plain (OpenSpec.ofChange fnGjJoinKeysSpec)) fnGjJoinKeysCard

/-- THE TIED CARD OF 'laws.FnGjFlattenText'. -/
def fnGjFlattenTextCard : Claim7 := { stood := { row := fnGjFlattenTextRow, standIns := [], harness := (true, "88de855cb45ea1cdcd848b2bc95248a9d343815b0c079f923bd04b5abff55f6c"), looks := true }, kinds := [], alts := [], laidByText := true, laidKinds := [.data, .data, .widerDeep, .widerDeep, .data, .data, .data, .data, .data, .data, .sentinel, .sentinel, .data, .pinned, .pinned, .pinned], laidTests := true, laidLooks := .later }
def FnGjFlattenTextCardSaid : Prop := Claim7.holds Tryz.pinned (.plain (OpenSpec.ofChange fnGjFlattenTextSpec)) fnGjFlattenTextCard

/-- THE SECOND FORM's CARD OF 'laws.FnJrTyped'. -/
def fnJrTypedUptoCard : Claim7 := { stood := { row := fnJrTypedUptoRow, standIns := [], harness := (true, "88de855cb45ea1cdcd848b2bc95248a9d343815b0c079f923bd04b5abff55f6c"), looks := true }, kinds := [], alts := [], laidByText := true, laidKinds := [.data, .data, .widerDeep, .widerDeep, .data, .data, .data, .data, .data, .sentinel, .sentinel, .data, .data, .sentinel, .sentinel, .sentinel, .sentinel, .sentinel, .sentinel, .sentinel, .sentinel, .sentinel, .sentinel, .pinned, .pinned], laidTests := true, laidLooks := .later }
def FnJrTypedUptoCardSaid : Prop := Claim7.holds Tryz.pinned (.plain (OpenSpec.upto fnJrTypedSpec)) fnJrTypedUptoCard

/-- THE SECOND FORM's CARD OF 'laws.FnGjJoinKeys'. -/
def fnGjJoinKeysUptoCard : Claim7 := { stood := { row := fnGjJoinKeysUptoRow, standIns := [], harness := (true, "88de855cb45ea1cdcd848b2bc95248a9d343815b0c079f923bd04b5abff55f6c"), looks := true }, kinds := [], alts := [], laidByText := true, laidKinds := [.data, .data, .widerDeep, .widerDeep, .data, .data, .data, .data, .data, .sentinel, .sentinel, .data, .pinned, .pinned], laidTests := true, laidLooks := .later }
def FnGjJoinKeysUptoCardSaid : Prop := Claim7.holds Tryz.pinned (.plain (OpenSpec.upto fnGjJoinKeysSpec)) fnGjJoinKeysUptoCard

/-- THE SECOND FORM's CARD OF 'laws.FnGjFlattenText'. -/
def fnGjFlattenTextUptoCard : Claim7 := { stood := { row := fnGjFlattenTextUptoRow, standIns := [], harness := (true, "88de855cb45ea1cdcd848b2bc95248a9d343815b0c079f923bd04b5abff55f6c"), looks := true }, kinds := [], alts := [], laidByText := true, laidKinds := [.data, .data, .widerDeep, .widerDeep, .data, .data, .data, .data, .data, .data, .sentinel, .sentinel, .data, .pinned, .pinned, .pinned], laidTests := true, laidLooks := .later }
def FnGjFlattenTextUptoCardSaid : Prop := Claim7.holds Tryz.pinned (.plain (OpenSpec.upto fnGjFlattenTextSpec)) fnGjFlattenTextUptoCard
end Rows
end Go.Proofs.YtelonenjneonlaaGreatDoor
