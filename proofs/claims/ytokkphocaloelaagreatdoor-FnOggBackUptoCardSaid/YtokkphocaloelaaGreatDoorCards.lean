/-
  DERIVED. GIVEN WITH THE SEED: THE CARDS: each row of YtokkphocaloelaaGreatDoorRows.lean that lists a variable, with what it lists TIED to the program's text (the seventh form; the later family's looks); each row that meets fmt, with fmt's text TOLD by the authors' own Lean function (tested against real Go, not proved from fmt's source: count such statements apart). THE CARD IS WHAT COUNTS. Prove the row's statement (the work); the ties are given (YtokkphocaloelaaGreatDoorTie.lean); close each card by the builder's one call (the guide's Derived/Test/ToyasCard.lean, 'card_holds'). Laid BY PROGRAM, IN A SANDBOX (cutbox-door.mjs). By AI agents, Wed Nov 11 2026. No macro, syntax, notation, axiom, sorry.
-/
import Derived.Test.YtokkphocaloelaaGreatDoorRows
import GoSem.ClaimSeven
namespace Go.Proofs.YtokkphocaloelaaGreatDoor
namespace Rows

/-- THE TIED CARD OF 'laws.FnOggBack'. -/
def fnOggBackCard : Claim7 := { stood := { row := fnOggBackRow, standIns := [], harness := (true, "a38d98d244f4f0101359ce992d79285d106c35bf0800f827cb0fa3b9d72658c3"), looks := true }, kinds := [], alts := [], laidByText := true, laidKinds := [.data, .data, .data, .sentinel, .sentinel, .sentinel, .sentinel, .sentinel, .sentinel, .sentinel, .sentinel, .sentinel, .sentinel], laidTests := true, laidLooks := .later }
def FnOggBackCardSaid : Prop := Claim7.holds Tryz.pinned (.plain (OpenSpec.ofChange fnOggBackSpec)) fnOggBackCard

/-- THE TIED CARD OF 'laws.FnOggCut'. -/
def fnOggCutCard : Claim7 := { stood := { row := fnOggCutRow, standIns := [], harness := (true, "a38d98d244f4f0101359ce992d79285d106c35bf0800f827cb0fa3b9d72658c3"), looks := true }, kinds := [], alts := [], laidByText := true, laidKinds := [.data, .data, .data, .sentinel, .sentinel, .sentinel, .sentinel, .sentinel, .sentinel, .sentinel, .sentinel, .sentinel, .sentinel], laidTests := true, laidLooks := .later }
def FnOggCutCardSaid : Prop := Claim7.holds Tryz.pinned (.plain (OpenSpec.ofChange fnOggCutSpec)) fnOggCutCard

/-- THE TIED CARD OF 'laws.FnOggPages'. -/
def fnOggPagesCard : Claim7 := { stood := { row := fnOggPagesRow, standIns := [], harness := (true, "a38d98d244f4f0101359ce992d79285d106c35bf0800f827cb0fa3b9d72658c3"), looks := true }, kinds := [], alts := [], laidByText := true, laidKinds := [.data, .data, .data, .sentinel, .sentinel, .sentinel, .sentinel, .sentinel, .sentinel, .sentinel, .sentinel, .sentinel, .sentinel], laidTests := true, laidLooks := .later }
def FnOggPagesCardSaid : Prop := Claim7.holds Tryz.pinned (.plain (OpenSpec.ofChange fnOggPagesSpec)) fnOggPagesCard

/-- THE TIED CARD OF 'laws.FnHead'. -/
def fnHeadCard : Claim7 := { stood := { row := fnHeadRow, standIns := [], harness := (true, "a38d98d244f4f0101359ce992d79285d106c35bf0800f827cb0fa3b9d72658c3"), looks := true }, kinds := [], alts := [], laidByText := true, laidKinds := [.data, .data, .data, .data, .sentinel, .sentinel, .sentinel, .sentinel, .sentinel, .sentinel, .sentinel, .sentinel, .sentinel, .sentinel, .pinned, .pinned, .pinned, .pinned, .pinned, .pinned], laidTests := true, laidLooks := .later }
def FnHeadCardSaid : Prop := Claim7.holds Tryz.pinned (.plain (OpenSpec.ofChange fnHeadSpec)) fnHeadCard

/-- THE TIED CARD OF 'laws.FnHeadAny'. -/
def fnHeadAnyCard : Claim7 := { stood := { row := fnHeadAnyRow, standIns := [], harness := (true, "a38d98d244f4f0101359ce992d79285d106c35bf0800f827cb0fa3b9d72658c3"), looks := true }, kinds := [], alts := [], laidByText := true, laidKinds := [.data, .data, .data, .data, .sentinel, .sentinel, .sentinel, .sentinel, .sentinel, .sentinel, .sentinel, .sentinel, .sentinel, .sentinel, .pinned, .pinned, .pinned, .pinned, .pinned, .pinned], laidTests := true, laidLooks := .later }
def FnHeadAnyCardSaid : Prop := Claim7.holds Tryz.pinned (.plain (OpenSpec.ofChange fnHeadAnySpec)) fnHeadAnyCard

/-- THE SECOND FORM's CARD OF 'laws.FnOggBack'. -/
def fnOggBackUptoCard : Claim7 := { stood := { row := fnOggBackUptoRow, standIns := [], harness := (true, "a38d98d244f4f0101359ce992d79285d106c35bf0800f827cb0fa3b9d72658c3"), looks := true }, kinds := [], alts := [], laidByText := true, laidKinds := [.data, .data, .data, .sentinel, .sentinel, .sentinel, .sentinel, .sentinel, .sentinel, .sentinel, .sentinel, .sentinel, .sentinel], laidTests := true, laidLooks := .later }
def FnOggBackUptoCardSaid : Prop := Claim7.holds Tryz.pinned (.plain (OpenSpec.upto fnOggBackSpec)) fnOggBackUptoCard

/-- THE SECOND FORM's CARD OF 'laws.FnOggCut'. -/
def fnOggCutUptoCard : Claim7 := { stood := { row := fnOggCutUptoRow, standIns := [], harness := (true, "a38d98d244f4f0101359ce992d79285d106c35bf0800f827cb0fa3b9d72658c3"), looks := true }, kinds := [], alts := [], laidByText := true, laidKinds := [.data, .data, .data, .sentinel, .sentinel, .sentinel, .sentinel, .sentinel, .sentinel, .sentinel, .sentinel, .sentinel, .sentinel], laidTests := true, laidLooks := .later }
def FnOggCutUptoCardSaid : Prop := Claim7.holds Tryz.pinned (.plain (OpenSpec.upto fnOggCutSpec)) fnOggCutUptoCard

/-- THE SECOND FORM's CARD OF 'laws.FnOggPages'. -/
def fnOggPagesUptoCard : Claim7 := { stood := { row := fnOggPagesUptoRow, standIns := [], harness := (true, "a38d98d244f4f0101359ce992d79285d106c35bf0800f827cb0fa3b9d72658c3"), looks := true }, kinds := [], alts := [], laidByText := true, laidKinds := [.data, .data, .data, .sentinel, .sentinel, .sentinel, .sentinel, .sentinel, .sentinel, .sentinel, .sentinel, .sentinel, .sentinel], laidTests := true, laidLooks := .later }
def FnOggPagesUptoCardSaid : Prop := Claim7.holds Tryz.pinned (.plain (OpenSpec.upto fnOggPagesSpec)) fnOggPagesUptoCard

/-- THE SECOND FORM's CARD OF 'laws.FnHead'. -/
def fnHeadUptoCard : Claim7 := { stood := { row := fnHeadUptoRow, standIns := [], harness := (true, "a38d98d244f4f0101359ce992d79285d106c35bf0800f827cb0fa3b9d72658c3"), looks := true }, kinds := [], alts := [], laidByText := true, laidKinds := [.data, .data, .data, .data, .sentinel, .sentinel, .sentinel, .sentinel, .sentinel, .sentinel, .sentinel, .sentinel, .sentinel, .sentinel, .pinned, .pinned, .pinned, .pinned, .pinned, .pinned], laidTests := true, laidLooks := .later }
def FnHeadUptoCardSaid : Prop := Claim7.holds Tryz.pinned (.plain (OpenSpec.upto fnHeadSpec)) fnHeadUptoCard

/-- THE SECOND FORM's CARD OF 'laws.FnHeadAny'. -/
def fnHeadAnyUptoCard : Claim7 := { stood := { row := fnHeadAnyUptoRow, standIns := [], harness := (true, "a38d98d244f4f0101359ce992d79285d106c35bf0800f827cb0fa3b9d72658c3"), looks := true }, kinds := [], alts := [], laidByText := true, laidKinds := [.data, .data, .data, .data, .sentinel, .sentinel, .sentinel, .sentinel, .sentinel, .sentinel, .sentinel, .sentinel, .sentinel, .sentinel, .pinned, .pinned, .pinned, .pinned, .pinned, .pinned], laidTests := true, laidLooks := .later }
def FnHeadAnyUptoCardSaid : Prop := Claim7.holds Tryz.pinned (.plain (OpenSpec.upto fnHeadAnySpec)) fnHeadAnyUptoCard
end Rows
end Go.Proofs.YtokkphocaloelaaGreatDoor
