/-
  DERIVED. GIVEN WITH THE SEED: THE CARDS: each row of YtlgmlfhalgnppaaGreatDoorRows.lean that lists a variable, with what it lists TIED to the program's text (the seventh form; the later family's looks); each row that meets fmt, with fmt's text TOLD by the authors' own Lean function (tested against real Go, not proved from fmt's source: count such statements apart). THE CARD IS WHAT COUNTS. Prove the row's statement (the work); the ties are given (YtlgmlfhalgnppaaGreatDoorTie.lean); close each card by the builder's one call (the guide's Derived/Test/ToyasCard.lean, 'card_holds'). Laid BY PROGRAM, IN A SANDBOX (cutbox-door.mjs). By AI agents, Wed Nov 11 2026. No macro, syntax, notation, axiom, sorry.
-/
import Derived.Test.YtlgmlfhalgnppaaGreatDoorRows
import GoSem.ClaimSeven
namespace Go.Proofs.YtlgmlfhalgnppaaGreatDoor
namespace Rows

/-- THE TIED CARD OF 'laws.FnExtKind'. -/
def fnExtKindCard : Claim7 := { stood := { row := fnExtKindRow, standIns := [], harness := (true, "df12bdeff6b929eeac2ca0f26f7710d3395764b6993cb49c986eca9c206372a6"), looks := true }, kinds := [], alts := [], laidByText := true, laidKinds := [.data, .data, .widerDeep, .widerDeep, .data, .data, .data, .data, .data, .sentinel, .sentinel, .sentinel, .sentinel, .sentinel, .sentinel, .sentinel, .sentinel, .pinned, .pinned], laidTests := true, laidLooks := .later }
def FnExtKindCardSaid : Prop := Claim7.holds Tryz.pinned (.plain (OpenSpec.ofChange fnExtKindSpec)) fnExtKindCard

/-- THE SECOND FORM's CARD OF 'laws.FnExtKind'. -/
def fnExtKindUptoCard : Claim7 := { stood := { row := fnExtKindUptoRow, standIns := [], harness := (true, "df12bdeff6b929eeac2ca0f26f7710d3395764b6993cb49c986eca9c206372a6"), looks := true }, kinds := [], alts := [], laidByText := true, laidKinds := [.data, .data, .widerDeep, .widerDeep, .data, .data, .data, .data, .data, .sentinel, .sentinel, .sentinel, .sentinel, .sentinel, .sentinel, .sentinel, .sentinel, .pinned, .pinned], laidTests := true, laidLooks := .later }
def FnExtKindUptoCardSaid : Prop := Claim7.holds Tryz.pinned (.plain (OpenSpec.upto fnExtKindSpec)) fnExtKindUptoCard
end Rows
end Go.Proofs.YtlgmlfhalgnppaaGreatDoor
