/-
  DERIVED. GIVEN WITH THE SEED: THE CARDS: each row of YtknfakehijoogaaDoorRows.lean that lists a variable, with what it lists TIED to the program's text (the seventh form; the later family's looks); each row that meets fmt, with fmt's text TOLD by the authors' own Lean function (tested against real Go, not proved from fmt's source: count such statements apart). THE CARD IS WHAT COUNTS. Prove the row's statement (the work); the ties are given (YtknfakehijoogaaDoorTie.lean); close each card by the builder's one call (the guide's Derived/Test/ToyasCard.lean, 'card_holds'). Laid BY PROGRAM, IN A SANDBOX (cutbox-door.mjs). By AI agents, Wed Nov 11 2026. No macro, syntax, notation, axiom, sorry.
-/
import Derived.Test.YtknfakehijoogaaDoorRows
import GoSem.ClaimSeven
namespace Go.Proofs.YtknfakehijoogaaDoor
namespace Rows

/-- THE TIED CARD OF 'laws.FnPacketAny'. -/
def fnPacketAnyCard : Claim7 := { stood := { row := fnPacketAnyRow, standIns := [], harness := (true, "c54b90c47f41801e1c591dfcae4aa49e18f099bbd23bf7f9248210434ed18560"), looks := false }, kinds := [], alts := [], laidByText := true, laidKinds := [.sentinel, .sentinel, .sentinel], laidTests := true, laidLooks := .later }
def FnPacketAnyCardSaid : Prop := Claim7.holds Tryd.pinned (.plain (OpenSpec.ofChange fnPacketAnySpec)) fnPacketAnyCard

/-- THE TIED CARD OF 'laws.FnPacketBack'. -/
def fnPacketBackCard : Claim7 := { stood := { row := fnPacketBackRow, standIns := [], harness := (true, "c54b90c47f41801e1c591dfcae4aa49e18f099bbd23bf7f9248210434ed18560"), looks := false }, kinds := [], alts := [], laidByText := true, laidKinds := [.sentinel, .sentinel, .sentinel], laidTests := true, laidLooks := .later }
def FnPacketBackCardSaid : Prop := Claim7.holds Tryd.pinned (.plain (OpenSpec.ofChange fnPacketBackSpec)) fnPacketBackCard

/-- THE SECOND FORM's CARD OF 'laws.FnPacketAny'. -/
def fnPacketAnyUptoCard : Claim7 := { stood := { row := fnPacketAnyUptoRow, standIns := [], harness := (true, "c54b90c47f41801e1c591dfcae4aa49e18f099bbd23bf7f9248210434ed18560"), looks := false }, kinds := [], alts := [], laidByText := true, laidKinds := [.sentinel, .sentinel, .sentinel], laidTests := true, laidLooks := .later }
def FnPacketAnyUptoCardSaid : Prop := Claim7.holds Tryd.pinned (.plain (OpenSpec.upto fnPacketAnySpec)) fnPacketAnyUptoCard

/-- THE SECOND FORM's CARD OF 'laws.FnPacketBack'. -/
def fnPacketBackUptoCard : Claim7 := { stood := { row := fnPacketBackUptoRow, standIns := [], harness := (true, "c54b90c47f41801e1c591dfcae4aa49e18f099bbd23bf7f9248210434ed18560"), looks := false }, kinds := [], alts := [], laidByText := true, laidKinds := [.sentinel, .sentinel, .sentinel], laidTests := true, laidLooks := .later }
def FnPacketBackUptoCardSaid : Prop := Claim7.holds Tryd.pinned (.plain (OpenSpec.upto fnPacketBackSpec)) fnPacketBackUptoCard
end Rows
end Go.Proofs.YtknfakehijoogaaDoor
