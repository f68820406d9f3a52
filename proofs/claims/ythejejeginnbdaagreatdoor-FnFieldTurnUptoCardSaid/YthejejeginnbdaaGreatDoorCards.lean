/-
  DERIVED. GIVEN WITH THE SEED: THE CARDS: each row of YthejejeginnbdaaGreatDoorRows.lean that lists a variable, with what it lists TIED to the program's text (the seventh form; the later family's looks); each row that meets fmt, with fmt's text TOLD by the authors' own Lean function (tested against real Go, not proved from fmt's source: count such statements apart). THE CARD IS WHAT COUNTS. Prove the row's statement (the work); the ties are given (YthejejeginnbdaaGreatDoorTie.lean); close each card by the builder's one call (the guide's Derived/Test/ToyasCard.lean, 'card_holds'). Laid BY PROGRAM, IN A SANDBOX (cutbox-door.mjs). By AI agents, Wed Nov 11 2026. No macro, syntax, notation, axiom, sorry.
-/
import Derived.Test.YthejejeginnbdaaGreatDoorRows
import GoSem.ClaimSeven
namespace Go.Proofs.YthejejeginnbdaaGreatDoor
namespace Rows

/-- THE TIED CARD OF 'laws.FnFieldTerm'. -/
def fnFieldTermCard : Claim7 := { stood := { row := fnFieldTermRow, standIns := [], harness := (true, "8f12f2810968a7d1e82587050f02903a29e820454be4b651bc8d616415957802"), looks := false }, kinds := [], alts := [], laidByText := true, laidKinds := [.sentinel], laidTests := true, laidLooks := .later }
def FnFieldTermCardSaid : Prop := Claim7.holds Tryz.pinned (.plain (OpenSpec.ofChange fnFieldTermSpec)) fnFieldTermCard

/-- THE TIED CARD OF 'laws.FnFieldTurn'. -/
def fnFieldTurnCard : Claim7 := { stood := { row := fnFieldTurnRow, standIns := [], harness := (true, "8f12f2810968a7d1e82587050f02903a29e820454be4b651bc8d616415957802"), looks := false }, kinds := [], alts := [], laidByText := true, laidKinds := [.sentinel], laidTests := true, laidLooks := .later }
def FnFieldTurnCardSaid : Prop := Claim7.holds Tryz.pinned (.plain (OpenSpec.ofChange fnFieldTurnSpec)) fnFieldTurnCard

/-- THE SECOND FORM's CARD OF 'laws.FnFieldTerm'. -/
def fnFieldTermUptoCard : Claim7 := { stood := { row := fnFieldTermUptoRow, standIns := [], harness := (true, "8f12f2810968a7d1e82587050f02903a29e820454be4b651bc8d616415957802"), looks := false }, kinds := [], alts := [], laidByText := true, laidKinds := [.sentinel], laidTests := true, laidLooks := .later }
def FnFieldTermUptoCardSaid : Prop := Claim7.holds Tryz.pinned (.plain (OpenSpec.upto fnFieldTermSpec)) fnFieldTermUptoCard

/-- THE SECOND FORM's CARD OF 'laws.FnFieldTurn'. -/
def fnFieldTurnUptoCard : Claim7 := { stood := { row := fnFieldTurnUptoRow, standIns := [], harness := (true, "8f12f2810968a7d1e82587050f02903a29e820454be4b651bc8d616415957802"), looks := false }, kinds := [], alts := [], laidByText := true, laidKinds := [.sentinel], laidTests := true, laidLooks := .later }
def FnFieldTurnUptoCardSaid : Prop := Claim7.holds Tryz.pinned (.plain (OpenSpec.upto fnFieldTurnSpec)) fnFieldTurnUptoCard
end Rows
end Go.Proofs.YthejejeginnbdaaGreatDoor
