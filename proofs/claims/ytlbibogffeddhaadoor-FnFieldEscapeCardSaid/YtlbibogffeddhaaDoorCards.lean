/-
  DERIVED. GIVEN WITH THE SEED: THE CARDS: each row of YtlbibogffeddhaaDoorRows.lean that lists a variable, with what it lists TIED to the program's text (the seventh form; the later family's looks); each row that meets fmt, with fmt's text TOLD by the authors' own Lean function (tested against real Go, not proved from fmt's source: count such statements apart). THE CARD IS WHAT COUNTS. Prove the row's statement (the work); the ties are given (YtlbibogffeddhaaDoorTie.lean); close each card by the builder's one call (the guide's Derived/Test/ToyasCard.lean, 'card_holds'). Laid BY PROGRAM, IN A SANDBOX (cutbox-door.mjs). By AI agents, Wed Nov 11 2026. No macro, syntax, notation, axiom, sorry.
-/
import Derived.Test.YtlbibogffeddhaaDoorRows
import GoSem.ClaimSeven
namespace Go.Proofs.YtlbibogffeddhaaDoor
namespace Rows

/-- THE TIED CARD OF 'laws.FnFieldEscape'. -/
def fnFieldEscapeCard : Claim7 := { stood := { row := fnFieldEscapeRow, standIns := [], harness := (true, "7c9731d493e540c3373df14ade292154f52637435e8d6af1195845819f7e8bb3"), looks := false }, kinds := [], alts := [], laidByText := true, laidKinds := [.sentinel], laidTests := true, laidLooks := .later }
def FnFieldEscapeCardSaid : Prop := Claim7.holds Tryd.pinned (.plain (OpenSpec.ofChange fnFieldEscapeSpec)) fnFieldEscapeCard

/-- THE SECOND FORM's CARD OF 'laws.FnFieldEscape'. -/
def fnFieldEscapeUptoCard : Claim7 := { stood := { row := fnFieldEscapeUptoRow, standIns := [], harness := (true, "7c9731d493e540c3373df14ade292154f52637435e8d6af1195845819f7e8bb3"), looks := false }, kinds := [], alts := [], laidByText := true, laidKinds := [.sentinel], laidTests := true, laidLooks := .later }
def FnFieldEscapeUptoCardSaid : Prop := Claim7.holds Tryd.pinned (.plain (OpenSpec.upto fnFieldEscapeSpec)) fnFieldEscapeUptoCard
end Rows
end Go.Proofs.YtlbibogffeddhaaDoor
