/-
  DERIVED. GIVEN WITH THE SEED: THE CARDS: each row of YteaapgijeehhfaaGreatDoorRows.lean that lists a variable, with what it lists TIED to the program's text (the seventh form; the later family's looks); each row that meets fmt, with fmt's text TOLD by the authors' own Lean function (tested against real Go, not proved from fmt's source: count such statements apart). THE CARD IS WHAT COUNTS. Prove the row's statement (the work); the ties are given (YteaapgijeehhfaaGreatDoorTie.lean); close each card by the builder's one call (the guide's Derived/Test/ToyasCard.lean, 'card_holds'). Laid BY PROGRAM, IN A SANDBOX (cutbox-door.mjs). By AI agents, Wed Nov 11 2026. No macro, syntax, notation, axiom, sorry.
-/
import Derived.Test.YteaapgijeehhfaaGreatDoorRows
import GoSem.ClaimSeven
namespace Go.Proofs.YteaapgijeehhfaaGreatDoor
namespace Rows

/-- THE TIED CARD OF 'laws.FnMatch'. -/
def fnMatchCard : Claim7 := { stood := { row := fnMatchRow, standIns := [], harness := (true, "6b113217f1b31393f04e423a0db8f50a99b4f1eb03b4d9ad32dfb37f241e64b1"), looks := true }, kinds := [], alts := [], laidByText := true, laidKinds := [.data, .data, .data, .data, .sentinel, .sentinel, .sentinel, .sentinel, .sentinel, .pinned, .pinned], laidTests := true, laidLooks := .later }
def FnMatchCardSaid : Prop := Claim7.holds Tryz.pinned (.plain (OpenSpec.ofChange fnMatchSpec)) fnMatchCard

/-- THE TIED CARD OF 'laws.FnNot'. -/
def fnNotCard : Claim7 := { stood := { row := fnNotRow, standIns := [], harness := (true, "6b113217f1b31393f04e423a0db8f50a99b4f1eb03b4d9ad32dfb37f241e64b1"), looks := true }, kinds := [], alts := [], laidByText := true, laidKinds := [.data, .data, .data, .data, .sentinel, .sentinel, .sentinel, .sentinel, .sentinel, .pinned, .pinned], laidTests := true, laidLooks := .later }
def FnNotCardSaid : Prop := Claim7.holds Tryz.pinned (.plain (OpenSpec.ofChange fnNotSpec)) fnNotCard

/-- THE TIED CARD OF 'laws.FnOr'. -/
def fnOrCard : Claim7 := { stood := { row := fnOrRow, standIns := [], harness := (true, "6b113217f1b31393f04e423a0db8f50a99b4f1eb03b4d9ad32dfb37f241e64b1"), looks := true }, kinds := [], alts := [], laidByText := true, laidKinds := [.data, .data, .data, .data, .sentinel, .sentinel, .sentinel, .sentinel, .sentinel, .pinned, .pinned], laidTests := true, laidLooks := .later }
def FnOrCardSaid : Prop := Claim7.holds Tryz.pinned (.plain (OpenSpec.ofChange fnOrSpec)) fnOrCard

/-- THE TIED CARD OF 'laws.FnSpaced'. -/
def fnSpacedCard : Claim7 := { stood := { row := fnSpacedRow, standIns := [], harness := (true, "6b113217f1b31393f04e423a0db8f50a99b4f1eb03b4d9ad32dfb37f241e64b1"), looks := true }, kinds := [], alts := [], laidByText := true, laidKinds := [.data, .data, .data, .data, .sentinel, .sentinel, .sentinel, .sentinel, .sentinel, .pinned, .pinned], laidTests := true, laidLooks := .later }
def FnSpacedCardSaid : Prop := Claim7.holds Tryz.pinned (.plain (OpenSpec.ofChange fnSpacedSpec)) fnSpacedCard

/-- THE TIED CARD OF 'laws.FnFilter'. -/
def fnFilterCard : Claim7 := { stood := { row := fnFilterRow, standIns := [], harness := (true, "6b113217f1b31393f04e423a0db8f50a99b4f1eb03b4d9ad32dfb37f241e64b1"), looks := true }, kinds := [], alts := [], laidByText := true, laidKinds := [.data, .data, .data, .data, .sentinel, .sentinel, .sentinel, .sentinel, .sentinel, .pinned, .pinned], laidTests := true, laidLooks := .later }
def FnFilterCardSaid : Prop := Claim7.holds Tryz.pinned (.plain (OpenSpec.ofChange fnFilterSpec)) fnFilterCard

/-- THE TIED CARD OF 'laws.FnQueryAll'. -/
def fnQueryAllCard : Claim7 := { stood := { row := fnQueryAllRow, standIns := [], harness := (true, "6b113217f1b31393f04e423a0db8f50a99b4f1eb03b4d9ad32dfb37f241e64b1"), looks := true }, kinds := [], alts := [], laidByText := true, laidKinds := [.data, .data, .data, .data, .sentinel, .sentinel, .sentinel, .sentinel, .sentinel, .pinned, .pinned], laidTests := true, laidLooks := .later }
def FnQueryAllCardSaid : Prop := Claim7.holds Tryz.pinned (.plain (OpenSpec.ofChange fnQueryAllSpec)) fnQueryAllCard

/-- THE TIED CARD OF 'laws.FnText'. -/
def fnTextCard : Claim7 := { stood := { row := fnTextRow, standIns := [], harness := (true, "6b113217f1b31393f04e423a0db8f50a99b4f1eb03b4d9ad32dfb37f241e64b1"), looks := true }, kinds := [], alts := [], laidByText := true, laidKinds := [.data, .data, .data, .data, .sentinel, .sentinel, .sentinel, .sentinel, .sentinel, .pinned, .pinned], laidTests := true, laidLooks := .later }
def FnTextCardSaid : Prop := Claim7.holds Tryz.pinned (.plain (OpenSpec.ofChange fnTextSpec)) fnTextCard

/-- THE SECOND FORM's CARD OF 'laws.FnMatch'. -/
def fnMatchUptoCard : Claim7 := { stood := { row := fnMatchUptoRow, standIns := [], harness := (true, "6b113217f1b31393f04e423a0db8f50a99b4f1eb03b4d9ad32dfb37f241e64b1"), looks := true }, kinds := [], alts := [], laidByText := true, laidKinds := [.data, .data, .data, .data, .sentinel, .sentinel, .sentinel, .sentinel, .sentinel, .pinned, .pinned], laidTests := true, laidLooks := .later }
def FnMatchUptoCardSaid : Prop := Claim7.holds Tryz.pinned (.plain (OpenSpec.upto fnMatchSpec)) fnMatchUptoCard

/-- THE SECOND FORM's CARD OF 'laws.FnNot'. -/
def fnNotUptoCard : Claim7 := { stood := { row := fnNotUptoRow, standIns := [], harness := (true, "6b113217f1b31393f04e423a0db8f50a99b4f1eb03b4d9ad32dfb37f241e64b1"), looks := true }, kinds := [], alts := [], laidByText := true, laidKinds := [.data, .data, .data, .data, .sentinel, .sentinel, .sentinel, .sentinel, .sentinel, .pinned, .pinned], laidTests := true, laidLooks := .later }
def FnNotUptoCardSaid : Prop := Claim7.holds Tryz.pinned (.plain (OpenSpec.upto fnNotSpec)) fnNotUptoCard

/-- THE SECOND FORM's CARD OF 'laws.FnOr'. -/
def fnOrUptoCard : Claim7 := { stood := { row := fnOrUptoRow, standIns := [], harness := (true, "6b113217f1b31393f04e423a0db8f50a99b4f1eb03b4d9ad32dfb37f241e64b1"), looks := true }, kinds := [], alts := [], laidByText := true, laidKinds := [.data, .data, .data, .data, .sentinel, .sentinel, .sentinel, .sentinel, .sentinel, .pinned, .pinned], laidTests := true, laidLooks := .later }
def FnOrUptoCardSaid : Prop := Claim7.holds Tryz.pinned (.plain (OpenSpec.upto fnOrSpec)) fnOrUptoCard

/-- THE SECOND FORM's CARD OF 'laws.FnSpaced'. -/
def fnSpacedUptoCard : Claim7 := { stood := { row := fnSpacedUptoRow, standIns := [], harness := (true, "6b113217f1b31393f04e423a0db8f50a99b4f1eb03b4d9ad32dfb37f241e64b1"), looks := true }, kinds := [], alts := [], laidByText := true, laidKinds := [.data, .data, .data, .data, .sentinel, .sentinel, .sentinel, .sentinel, .sentinel, .pinned, .pinned], laidTests := true, laidLooks := .later }
def FnSpacedUptoCardSaid : Prop := Claim7.holds Tryz.pinned (.plain (OpenSpec.upto fnSpacedSpec)) fnSpacedUptoCard

/-- THE SECOND FORM's CARD OF 'laws.FnFilter'. -/
def fnFilterUptoCard : Claim7 := { stood := { row := fnFilterUptoRow, standIns := [], harness := (true, "6b113217f1b31393f04e423a0db8f50a99b4f1eb03b4d9ad32dfb37f241e64b1"), looks := true }, kinds := [], alts := [], laidByText := true, laidKinds := [.data, .data, .data, .data, .sentinel, .sentinel, .sentinel, .sentinel, .sentinel, .pinned, .pinned], laidTests := true, laidLooks := .later }
def FnFilterUptoCardSaid : Prop := Claim7.holds Tryz.pinned (.plain (OpenSpec.upto fnFilterSpec)) fnFilterUptoCard

/-- THE SECOND FORM's CARD OF 'laws.FnQueryAll'. -/
def fnQueryAllUptoCard : Claim7 := { stood := { row := fnQueryAllUptoRow, standIns := [], harness := (true, "6b113217f1b31393f04e423a0db8f50a99b4f1eb03b4d9ad32dfb37f241e64b1"), looks := true }, kinds := [], alts := [], laidByText := true, laidKinds := [.data, .data, .data, .data, .sentinel, .sentinel, .sentinel, .sentinel, .sentinel, .pinned, .pinned], laidTests := true, laidLooks := .later }
def FnQueryAllUptoCardSaid : Prop := Claim7.holds Tryz.pinned (.plain (OpenSpec.upto fnQueryAllSpec)) fnQueryAllUptoCard

/-- THE SECOND FORM's CARD OF 'laws.FnText'. -/
def fnTextUptoCard : Claim7 := { stood := { row := fnTextUptoRow, standIns := [], harness := (true, "6b113217f1b31393f04e423a0db8f50a99b4f1eb03b4d9ad32dfb37f241e64b1"), looks := true }, kinds := [], alts := [], laidByText := true, laidKinds := [.data, .data, .data, .data, .sentinel, .sentinel, .sentinel, .sentinel, .sentinel, .pinned, .pinned], laidTests := true, laidLooks := .later }
def FnTextUptoCardSaid : Prop := Claim7.holds Tryz.pinned (.plain (OpenSpec.upto fnTextSpec)) fnTextUptoCard
end Rows
end Go.Proofs.YteaapgijeehhfaaGreatDoor
