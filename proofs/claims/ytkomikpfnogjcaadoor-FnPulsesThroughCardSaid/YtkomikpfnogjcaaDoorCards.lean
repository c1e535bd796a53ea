/-
  DERIVED. GIVEN WITH THE SEED: THE CARDS: each row of YtkomikpfnogjcaaDoorRows.lean that lists a variable, with what it lists TIED to the program's text (the seventh form; the later family's looks); each row that meets fmt, with fmt's text TOLD by the authors' own Lean function (tested against real Go, not proved from fmt's source: count such statements apart). THE CARD IS WHAT COUNTS. Prove the row's statement (the work); the ties are given (YtkomikpfnogjcaaDoorTie.lean); close each card by the builder's one call (the guide's Derived/Test/ToyasCard.lean, 'card_holds'). Laid BY PROGRAM, IN A SANDBOX (cutbox-door.mjs). By AI agents, Wed Nov 11 2026. No macro, syntax, notation, axiom, sorry.
-/
import Derived.Test.YtkomikpfnogjcaaDoorRows
import GoSem.ClaimSeven
namespace Go.Proofs.YtkomikpfnogjcaaDoor
namespace Rows

/-- THE TIED CARD OF 'laws.FnPulseIndex'. -/
def fnPulseIndexCard : Claim7 := { stood := { row := fnPulseIndexRow, standIns := [], harness := (true, "1fc2bc157427772c206fd0f601b9df9ca99e2f1eefb0c43dfe6aec29042c3cb0"), looks := false }, kinds := [], alts := [], laidByText := true, laidKinds := [.data, .data, .data], laidTests := true, laidLooks := .later }
def FnPulseIndexCardSaid : Prop := Claim7.holds Tryd.pinned (.plain (OpenSpec.ofChange fnPulseIndexSpec)) fnPulseIndexCard

/-- THE TIED CARD OF 'laws.FnPulseVector'. -/
def fnPulseVectorCard : Claim7 := { stood := { row := fnPulseVectorRow, standIns := [], harness := (true, "1fc2bc157427772c206fd0f601b9df9ca99e2f1eefb0c43dfe6aec29042c3cb0"), looks := false }, kinds := [], alts := [], laidByText := true, laidKinds := [.data, .data, .data], laidTests := true, laidLooks := .later }
def FnPulseVectorCardSaid : Prop := Claim7.holds Tryd.pinned (.plain (OpenSpec.ofChange fnPulseVectorSpec)) fnPulseVectorCard

/-- THE TIED CARD OF 'laws.FnPulsesThrough'. -/
def fnPulsesThroughCard : Claim7 := { stood := { row := fnPulsesThroughRow, standIns := [], harness := (true, "1fc2bc157427772c206fd0f601b9df9ca99e2f1eefb0c43dfe6aec29042c3cb0"), looks := false }, kinds := [], alts := [], laidByText := true, laidKinds := [.data, .data, .data], laidTests := true, laidLooks := .later }
def FnPulsesThroughCardSaid : Prop := Claim7.holds Tryd.pinned (.plain (OpenSpec.ofChange fnPulsesThroughSpec)) fnPulsesThroughCard

/-- THE SECOND FORM's CARD OF 'laws.FnPulseIndex'. -/
def fnPulseIndexUptoCard : Claim7 := { stood := { row := fnPulseIndexUptoRow, standIns := [], harness := (true, "1fc2bc157427772c206fd0f601b9df9ca99e2f1eefb0c43dfe6aec29042c3cb0"), looks := false }, kinds := [], alts := [], laidByText := true, laidKinds := [.data, .data, .data], laidTests := true, laidLooks := .later }
def FnPulseIndexUptoCardSaid : Prop := Claim7.holds Tryd.pinned (.plain (OpenSpec.upto fnPulseIndexSpec)) fnPulseIndexUptoCard

/-- THE SECOND FORM's CARD OF 'laws.FnPulseVector'. -/
def fnPulseVectorUptoCard : Claim7 := { stood := { row := fnPulseVectorUptoRow, standIns := [], harness := (true, "1fc2bc157427772c206fd0f601b9df9ca99e2f1eefb0c43dfe6aec29042c3cb0"), looks := false }, kinds := [], alts := [], laidByText := true, laidKinds := [.data, .data, .data], laidTests := true, laidLooks := .later }
def FnPulseVectorUptoCardSaid : Prop := Claim7.holds Tryd.pinned (.plain (OpenSpec.upto fnPulseVectorSpec)) fnPulseVectorUptoCard

/-- THE SECOND FORM's CARD OF 'laws.FnPulsesThrough'. -/
def fnPulsesThroughUptoCard : Claim7 := { stood := { row := fnPulsesThroughUptoRow, standIns := [], harness := (true, "1fc2bc157427772c206fd0f601b9df9ca99e2f1eefb0c43dfe6aec29042c3cb0"), looks := false }, kinds := [], alts := [], laidByText := true, laidKinds := [.data, .data, .data], laidTests := true, laidLooks := .later }
def FnPulsesThroughUptoCardSaid : Prop := Claim7.holds Tryd.pinned (.plain (OpenSpec.upto fnPulsesThroughSpec)) fnPulsesThroughUptoCard
end Rows
end Go.Proofs.YtkomikpfnogjcaaDoor
