/-
  DERIVED. GIVEN WITH THE SEED: THE CARDS: each row of YtkeakdjbidbegaaGreatDoorRows.lean that lists a variable, with what it lists TIED to the program's text (the seventh form; the later family's looks); each row that meets fmt, with fmt's text TOLD by the authors' own Lean function (tested against real Go, not proved from fmt's source: count such statements apart). THE CARD IS WHAT COUNTS. Prove the row's statement (the work); the ties are given (YtkeakdjbidbegaaGreatDoorTie.lean); close each card by the builder's one call (the guide's Derived/Test/ToyasCard.lean, 'card_holds'). Laid BY PROGRAM, IN A SANDBOX (cutbox-door.mjs). By AI agents, Wed Nov 11 2026. No macro, syntax, notation, axiom, sorry.
-/
import Derived.Test.YtkeakdjbidbegaaGreatDoorRows
import GoSem.ClaimSeven
namespace Go.Proofs.YtkeakdjbidbegaaGreatDoor
namespace Rows

/-- THE TIED CARD OF 'laws.FnTextElement'. -/
def fnTextElementCard : Claim7 := { stood := { row := fnTextElementRow, standIns := [], harness := (true, "1dea710ed617996673f664059e637fc60ba3a74452855f37dfad2a628fdf32bb"), looks := false }, kinds := [], alts := [], laidByText := true, laidKinds := [.data, .data, .data, .data, .data, .sentinel, .data, .data, .pinned, .pinned, .pinned], laidTests := true, laidLooks := .later }
def FnTextElementCardSaid : Prop := Claim7.holds Tryz.pinned (.plain (OpenSpec.ofChange fnTextElementSpec)) fnTextElementCard

/-- THE SECOND FORM's CARD OF 'laws.FnTextElement'. -/
def fnTextElementUptoCard : Claim7 := { stood := { row := fnTextElementUptoRow, standIns := [], harness := (true, "1dea710ed617996673f664059e637fc60ba3a74452855f37dfad2a628fdf32bb"), looks := false }, kinds := [], alts := [], laidByText := true, laidKinds := [.data, .data, .data, .data, .data, .sentinel, .data, .data, .pinned, .pinned, .pinned], laidTests := true, laidLooks := .later }
def FnTextElementUptoCardSaid : Prop := Claim7.holds Tryz.pinned (.plain (OpenSpec.upto fnTextElementSpec)) fnTextElementUptoCard
end Rows
end Go.Proofs.YtkeakdjbidbegaaGreatDoor
