/-
  DERIVED. GIVEN WITH THE SEED: THE CARDS: each row of YtnopoobidhaccaaDoorRows.lean that lists a variable, with what it lists TIED to the program's text (the seventh form; the later family's looks); each row that meets fmt, with fmt's text TOLD by the authors' own Lean function (tested against real Go, not proved from fmt's source: count such statements apart). THE CARD IS WHAT COUNTS. Prove the row's statement (the work); the ties are given (YtnopoobidhaccaaDoorTie.lean); close each card by the builder's one call (the guide's Derived/Test/ToyasCard.lean, 'card_holds'). Laid BY PROGRAM, IN A SANDBOX (cutbox-door.mjs). By AI agents, Wed Nov 11 2026. No macro, syntax, notation, axiom, sorry.
-/
import Derived.Test.YtnopoobidhaccaaDoorRows
import GoSem.ClaimSeven
namespace Go.Proofs.YtnopoobidhaccaaDoor
namespace Rows

/-- THE TIED CARD OF 'laws.FnPathText'. -/
def fnPathTextCard : Claim7 := { stood := { row := fnPathTextRow, standIns := [], harness := (true, "5fae71e9dc57283299aa14c0a9c73af581d92c60e8c7a8c1c8b385dba32aa451"), looks := true }, kinds := [], alts := [], laidByText := true, laidKinds := [.data, .data, .data, .sentinel], laidTests := true, laidLooks := .later }
def FnPathTextCardSaid : Prop := Claim7.holds Tryd.pinned (.plain (OpenSpec.ofChange fnPathTextSpec)) fnPathTextCard

/-- THE TIED CARD OF 'laws.FnPortsBack'. -/
def fnPortsBackCard : Claim7 := { stood := { row := fnPortsBackRow, standIns := [], harness := (true, "5fae71e9dc57283299aa14c0a9c73af581d92c60e8c7a8c1c8b385dba32aa451"), looks := true }, kinds := [], alts := [], laidByText := true, laidKinds := [.data, .data, .data, .data, .sentinel, .sentinel, .pinned], laidTests := true, laidLooks := .later }
def FnPortsBackCardSaid : Prop := Claim7.holds Tryd.pinned (.plain (OpenSpec.ofChange fnPortsBackSpec)) fnPortsBackCard

/-- THE SECOND FORM's CARD OF 'laws.FnPathText'. -/
def fnPathTextUptoCard : Claim7 := { stood := { row := fnPathTextUptoRow, standIns := [], harness := (true, "5fae71e9dc57283299aa14c0a9c73af581d92c60e8c7a8c1c8b385dba32aa451"), looks := true }, kinds := [], alts := [], laidByText := true, laidKinds := [.data, .data, .data, .sentinel], laidTests := true, laidLooks := .later }
def FnPathTextUptoCardSaid : Prop := Claim7.holds Tryd.pinned (.plain (OpenSpec.upto fnPathTextSpec)) fnPathTextUptoCard

/-- THE SECOND FORM's CARD OF 'laws.FnPortsBack'. -/
def fnPortsBackUptoCard : Claim7 := { stood := { row := fnPortsBackUptoRow, standIns := [], harness := (true, "5fae71e9dc57283299aa14c0a9c73af581d92c60e8c7a8c1c8b385dba32aa451"), looks := true }, kinds := [], alts := [], laidByText := true, laidKinds := [.data, .data, .data, .data, .sentinel, .sentinel, .pinned], laidTests := true, laidLooks := .later }
def FnPortsBackUptoCardSaid : Prop := Claim7.holds Tryd.pinned (.plain (OpenSpec.upto fnPortsBackSpec)) fnPortsBackUptoCard
end Rows
end Go.Proofs.YtnopoobidhaccaaDoor
