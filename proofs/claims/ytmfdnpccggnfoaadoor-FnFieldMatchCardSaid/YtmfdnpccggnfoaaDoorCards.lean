/-
  DERIVED. GIVEN WITH THE SEED: THE CARDS: each row of YtmfdnpccggnfoaaDoorRows.lean that lists a variable, with what it lists TIED to the program's text (the seventh form; the later family's looks); each row that meets fmt, with fmt's text TOLD by the authors' own Lean function (tested against real Go, not proved from fmt's source: count such statements apart). THE CARD IS WHAT COUNTS. Prove the row's statement (the work); the ties are given (YtmfdnpccggnfoaaDoorTie.lean); close each card by the builder's one call (the guide's Derived/Test/ToyasCard.lean, 'card_holds'). Laid BY PROGRAM, IN A SANDBOX (cutbox-door.mjs). By AI agents, Wed Nov 11 2026. No macro, syntax, notation, axiom, sorry.
-/
import Derived.Test.YtmfdnpccggnfoaaDoorRows
import GoSem.ClaimSeven
namespace Go.Proofs.YtmfdnpccggnfoaaDoor
namespace Rows

/-- THE TIED CARD OF 'laws.FnFieldMatch'. -/
def fnFieldMatchCard : Claim7 := { stood := { row := fnFieldMatchRow, standIns := [], harness := (true, "746ef22eced22d3ead1816284162eadbef828e01652e93e0bfac6ae129062e5f"), looks := false }, kinds := [], alts := [], laidByText := true, laidKinds := [.sentinel], laidTests := true, laidLooks := .later }
def FnFieldMatchCardSaid : Prop := Claim7.holds Tryd.pinned (.plain (OpenSpec.ofChange fnFieldMatchSpec)) fnFieldMatchCard

/-- THE SECOND FORM's CARD OF 'laws.FnFieldMatch'. -/
def fnFieldMatchUptoCard : Claim7 := { stood := { row := fnFieldMatchUptoRow, standIns := [], harness := (true, "746ef22eced22d3ead1816284162eadbef828e01652e93e0bfac6ae129062e5f"), looks := false }, kinds := [], alts := [], laidByText := true, laidKinds := [.sentinel], laidTests := true, laidLooks := .later }
def FnFieldMatchUptoCardSaid : Prop := Claim7.holds Tryd.pinned (.plain (OpenSpec.upto fnFieldMatchSpec)) fnFieldMatchUptoCard
end Rows
end Go.Proofs.YtmfdnpccggnfoaaDoor
