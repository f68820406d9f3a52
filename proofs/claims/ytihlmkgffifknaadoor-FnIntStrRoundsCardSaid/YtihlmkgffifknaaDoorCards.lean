/-
  DERIVED. GIVEN WITH THE SEED: THE CARDS: each row of YtihlmkgffifknaaDoorRows.lean that lists a variable, with what it lists TIED to the program's text (the seventh form; the later family's looks); each row that meets fmt, with fmt's text TOLD by the authors' own Lean function (tested against real Go, not proved from fmt's source: count such statements apart). THE CARD IS WHAT COUNTS. Prove the row's statement (the work); the ties are given (YtihlmkgffifknaaDoorTie.lean); close each card by the builder's one call (the guide's Derived/Test/ToyasCard.lean, 'card_holds'). Laid BY PROGRAM, IN A SANDBOX (cutbox-door.mjs). By AI agents, Wed Nov 11 2026. No macro, syntax, notation, axiom, sorry.
-/
import Derived.Test.YtihlmkgffifknaaDoorRows
import GoSem.ClaimSeven
namespace Go.Proofs.YtihlmkgffifknaaDoor
namespace Rows

/-- THE TIED CARD OF 'laws.FnIntStrReads'. -/
def fnIntStrReadsCard : Claim7 := { stood := { row := fnIntStrReadsRow, standIns := [], harness := (true, "9d65dd286dd5e743bcb9b1e5ea3988b1bc4f09240a97f7ddeba930bafccb4a5c"), looks := true }, kinds := [], alts := [], laidByText := true, laidKinds := [.sentinel, .sentinel, .sentinel, .sentinel], laidTests := true, laidLooks := .later }
def FnIntStrReadsCardSaid : Prop := Claim7.holds Tryd.pinned (.plain (OpenSpec.ofChange fnIntStrReadsSpec)) fnIntStrReadsCard

/-- THE TIED CARD OF 'laws.FnIntStrText'. -/
def fnIntStrTextCard : Claim7 := { stood := { row := fnIntStrTextRow, standIns := [], harness := (true, "9d65dd286dd5e743bcb9b1e5ea3988b1bc4f09240a97f7ddeba930bafccb4a5c"), looks := true }, kinds := [], alts := [], laidByText := true, laidKinds := [.data, .data, .data, .sentinel, .sentinel], laidTests := true, laidLooks := .later }
def FnIntStrTextCardSaid : Prop := Claim7.holds Tryd.pinned (.plain (OpenSpec.ofChange fnIntStrTextSpec)) fnIntStrTextCard

/-- THE TIED CARD OF 'laws.FnIntStrRounds'. -/
def fnIntStrRoundsCard : Claim7 := { stood := { row := fnIntStrRoundsRow, standIns := [], harness := (true, "9d65dd286dd5e743bcb9b1e5ea3988b1bc4f09240a97f7ddeba930bafccb4a5c"), looks := true }, kinds := [], alts := [], laidByText := true, laidKinds := [.data, .data, .data, .sentinel, .sentinel], laidTests := true, laidLooks := .later }
def FnIntStrRoundsCardSaid : Prop := Claim7.holds Tryd.pinned (.plain (OpenSpec.ofChange fnIntStrRoundsSpec)) fnIntStrRoundsCard

/-- THE TIED CARD OF 'laws.FnIntStrScaled'. -/
def fnIntStrScaledCard : Claim7 := { stood := { row := fnIntStrScaledRow, standIns := [], harness := (true, "9d65dd286dd5e743bcb9b1e5ea3988b1bc4f09240a97f7ddeba930bafccb4a5c"), looks := true }, kinds := [], alts := [], laidByText := true, laidKinds := [.data, .data, .data, .sentinel, .sentinel], laidTests := true, laidLooks := .later }
def FnIntStrScaledCardSaid : Prop := Claim7.holds Tryd.pinned (.plain (OpenSpec.ofChange fnIntStrScaledSpec)) fnIntStrScaledCard

/-- THE SECOND FORM's CARD OF 'laws.FnIntStrReads'. -/
def fnIntStrReadsUptoCard : Claim7 := { stood := { row := fnIntStrReadsUptoRow, standIns := [], harness := (true, "9d65dd286dd5e743bcb9b1e5ea3988b1bc4f09240a97f7ddeba930bafccb4a5c"), looks := true }, kinds := [], alts := [], laidByText := true, laidKinds := [.sentinel, .sentinel, .sentinel, .sentinel], laidTests := true, laidLooks := .later }
def FnIntStrReadsUptoCardSaid : Prop := Claim7.holds Tryd.pinned (.plain (OpenSpec.upto fnIntStrReadsSpec)) fnIntStrReadsUptoCard

/-- THE SECOND FORM's CARD OF 'laws.FnIntStrText'. -/
def fnIntStrTextUptoCard : Claim7 := { stood := { row := fnIntStrTextUptoRow, standIns := [], harness := (true, "9d65dd286dd5e743bcb9b1e5ea3988b1bc4f09240a97f7ddeba930bafccb4a5c"), looks := true }, kinds := [], alts := [], laidByText := true, laidKinds := [.data, .data, .data, .sentinel, .sentinel], laidTests := true, laidLooks := .later }
def FnIntStrTextUptoCardSaid : Prop := Claim7.holds Tryd.pinned (.plain (OpenSpec.upto fnIntStrTextSpec)) fnIntStrTextUptoCard

/-- THE SECOND FORM's CARD OF 'laws.FnIntStrRounds'. -/
def fnIntStrRoundsUptoCard : Claim7 := { stood := { row := fnIntStrRoundsUptoRow, standIns := [], harness := (true, "9d65dd286dd5e743bcb9b1e5ea3988b1bc4f09240a97f7ddeba930bafccb4a5c"), looks := true }, kinds := [], alts := [], laidByText := true, laidKinds := [.data, .data, .data, .sentinel, .sentinel], laidTests := true, laidLooks := .later }
def FnIntStrRoundsUptoCardSaid : Prop := Claim7.holds Tryd.pinned (.plain (OpenSpec.upto fnIntStrRoundsSpec)) fnIntStrRoundsUptoCard

/-- THE SECOND FORM's CARD OF 'laws.FnIntStrScaled'. -/
def fnIntStrScaledUptoCard : Claim7 := { stood := { row := fnIntStrScaledUptoRow, standIns := [], harness := (true, "9d65dd286dd5e743bcb9b1e5ea3988b1bc4f09240a97f7ddeba930bafccb4a5c"), looks := true }, kinds := [], alts := [], laidByText := true, laidKinds := [.data, .data, .data, .sentinel, .sentinel], laidTests := true, laidLooks := .later }
def FnIntStrScaledUptoCardSaid : Prop := Claim7.holds Tryd.pinned (.plain (OpenSpec.upto fnIntStrScaledSpec)) fnIntStrScaledUptoCard
end Rows
end Go.Proofs.YtihlmkgffifknaaDoor
