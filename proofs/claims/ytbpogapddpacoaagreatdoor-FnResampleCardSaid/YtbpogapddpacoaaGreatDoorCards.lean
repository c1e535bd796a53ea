/-
  DERIVED. GIVEN WITH THE SEED: THE CARDS: each row of YtbpogapddpacoaaGreatDoorRows.lean that lists a variable, with what it lists TIED to the program's text (the seventh form; the later family's looks); each row that meets fmt, with fmt's text TOLD by the authors' own Lean function (tested against real Go, not proved from fmt's source: count such statements apart). THE CARD IS WHAT COUNTS. Prove the row's statement (the work); the ties are given (YtbpogapddpacoaaGreatDoorTie.lean); close each card by the builder's one call (the guide's Derived/Test/ToyasCard.lean, 'card_holds'). Laid BY PROGRAM, IN A SANDBOX (cutbox-door.mjs). By AI agents, Wed Nov 11 2026. No macro, syntax, notation, axiom, sorry.
-/
import Derived.Test.YtbpogapddpacoaaGreatDoorRows
import GoSem.ClaimSeven
namespace Go.Proofs.YtbpogapddpacoaaGreatDoor
namespace Rows

/-- THE TIED CARD OF 'laws.FnResample'. -/
def fnResampleCard : Claim7 := { stood := { row := fnResampleRow, standIns := [], harness := (true, "a25f6160a6f562e4d4fb7bfafe3fac65e2b0c9b835ca9b6355db9f66c012ba97"), looks := false }, kinds := [], alts := [], laidByText := true, laidKinds := [.data, .data, .data, .sentinel, .sentinel, .sentinel, .sentinel, .sentinel, .data, .data, .data, .data, .data, .data, .data, .data, .data, .data], laidTests := true, laidLooks := .later }
def FnResampleCardSaid : Prop := Claim7.holds Tryz.pinned (.plain (OpenSpec.ofChange fnResampleSpec)) fnResampleCard

/-- THE SECOND FORM's CARD OF 'laws.FnResample'. -/
def fnResampleUptoCard : Claim7 := { stood := { row := fnResampleUptoRow, standIns := [], harness := (true, "a25f6160a6f562e4d4fb7bfafe3fac65e2b0c9b835ca9b6355db9f66c012ba97"), looks := false }, kinds := [], alts := [], laidByText := true, laidKinds := [.data, .data, .data, .sentinel, .sentinel, .sentinel, .sentinel, .sentinel, .data, .data, .data, .data, .data, .data, .data, .data, .data, .data], laidTests := true, laidLooks := .later }
def FnResampleUptoCardSaid : Prop := Claim7.holds Tryz.pinned (.plain (OpenSpec.upto fnResampleSpec)) fnResampleUptoCard
end Rows
end Go.Proofs.YtbpogapddpacoaaGreatDoor
