/-
  DERIVED. GIVEN WITH THE SEED: THE CARDS: each row of YtlhbmifffmegeaaDoorRows.lean that lists a variable, with what it lists TIED to the program's text (the seventh form; the later family's looks); each row that meets fmt, with fmt's text TOLD by the authors' own Lean function (tested against real Go, not proved from fmt's source: count such statements apart). THE CARD IS WHAT COUNTS. Prove the row's statement (the work); the ties are given (YtlhbmifffmegeaaDoorTie.lean); close each card by the builder's one call (the guide's Derived/Test/ToyasCard.lean, 'card_holds'). Laid BY PROGRAM, IN A SANDBOX (cutbox-door.mjs). By AI agents, Wed Nov 11 2026. No macro, syntax, notation, axiom, sorry.
-/
import Derived.Test.YtlhbmifffmegeaaDoorRows
import GoSem.ClaimSeven
namespace Go.Proofs.YtlhbmifffmegeaaDoor
namespace Rows

/-- THE TIED CARD OF 'laws.FnNeedEqual'. -/
def fnNeedEqualCard : Claim7 := { stood := { row := fnNeedEqualRow, standIns := [], harness := (true, "4dccc129be38d20e3ba8d93b8f5839885eac46d75eefa2640b38c0e9523828ba"), looks := true }, kinds := [], alts := [], laidByText := true, laidKinds := [.data, .data, .data, .sentinel, .sentinel], laidTests := true, laidLooks := .later }
def FnNeedEqualCardSaid : Prop := Claim7.holds Tryd.pinned (.plain (OpenSpec.ofChange fnNeedEqualSpec)) fnNeedEqualCard

/-- THE TIED CARD OF 'laws.FnNeedMatch'. -/
def fnNeedMatchCard : Claim7 := { stood := { row := fnNeedMatchRow, standIns := [], harness := (true, "4dccc129be38d20e3ba8d93b8f5839885eac46d75eefa2640b38c0e9523828ba"), looks := true }, kinds := [], alts := [], laidByText := true, laidKinds := [.data, .data, .data, .sentinel, .sentinel], laidTests := true, laidLooks := .later }
def FnNeedMatchCardSaid : Prop := Claim7.holds Tryd.pinned (.plain (OpenSpec.ofChange fnNeedMatchSpec)) fnNeedMatchCard

/-- THE TIED CARD OF 'laws.FnLabelToMap'. -/
def fnLabelToMapCard : Claim7 := { stood := { row := fnLabelToMapRow, standIns := [], harness := (true, "4dccc129be38d20e3ba8d93b8f5839885eac46d75eefa2640b38c0e9523828ba"), looks := true }, kinds := [], alts := [], laidByText := true, laidKinds := [.data, .pinned], laidTests := true, laidLooks := .later }
def FnLabelToMapCardSaid : Prop := Claim7.holds Tryd.pinned (.plain (OpenSpec.ofChange fnLabelToMapSpec)) fnLabelToMapCard

/-- THE SECOND FORM's CARD OF 'laws.FnNeedEqual'. -/
def fnNeedEqualUptoCard : Claim7 := { stood := { row := fnNeedEqualUptoRow, standIns := [], harness := (true, "4dccc129be38d20e3ba8d93b8f5839885eac46d75eefa2640b38c0e9523828ba"), looks := true }, kinds := [], alts := [], laidByText := true, laidKinds := [.data, .data, .data, .sentinel, .sentinel], laidTests := true, laidLooks := .later }
def FnNeedEqualUptoCardSaid : Prop := Claim7.holds Tryd.pinned (.plain (OpenSpec.upto fnNeedEqualSpec)) fnNeedEqualUptoCard

/-- THE SECOND FORM's CARD OF 'laws.FnNeedMatch'. -/
def fnNeedMatchUptoCard : Claim7 := { stood := { row := fnNeedMatchUptoRow, standIns := [], harness := (true, "4dccc129be38d20e3ba8d93b8f5839885eac46d75eefa2640b38c0e9523828ba"), looks := true }, kinds := [], alts := [], laidByText := true, laidKinds := [.data, .data, .data, .sentinel, .sentinel], laidTests := true, laidLooks := .later }
def FnNeedMatchUptoCardSaid : Prop := Claim7.holds Tryd.pinned (.plain (OpenSpec.upto fnNeedMatchSpec)) fnNeedMatchUptoCard

/-- THE SECOND FORM's CARD OF 'laws.FnLabelToMap'. -/
def fnLabelToMapUptoCard : Claim7 := { stood := { row := fnLabelToMapUptoRow, standIns := [], harness := (true, "4dccc129be38d20e3ba8d93b8f5839885eac46d75eefa2640b38c0e9523828ba"), looks := true }, kinds := [], alts := [], laidByText := true, laidKinds := [.data, .pinned], laidTests := true, laidLooks := .later }
def FnLabelToMapUptoCardSaid : Prop := Claim7.holds Tryd.pinned (.plain (OpenSpec.upto fnLabelToMapSpec)) fnLabelToMapUptoCard
end Rows
end Go.Proofs.YtlhbmifffmegeaaDoor
