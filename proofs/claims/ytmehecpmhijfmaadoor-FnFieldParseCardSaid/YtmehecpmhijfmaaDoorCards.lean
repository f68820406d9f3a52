/-
  DERIVED. GIVEN WITH THE SEED: THE CARDS: each row of YtmehecpmhijfmaaDoorRows.lean that lists a variable, with what it lists TIED to the program's text (the seventh form; the later family's looks); each row that meets fmt, with fmt's text TOLD by the authors' own Lean function (tested against real Go, not proved from fmt's source: count such statements apart). THE CARD IS WHAT COUNTS. Prove the row's statement (the work); the ties are given (YtmehecpmhijfmaaDoorTie.lean); close each card by the builder's one call (the guide's Derived/Test/ToyasCard.lean, 'card_holds'). Laid BY PROGRAM, IN A SANDBOX (cutbox-door.mjs). By AI agents, Wed Nov 11 2026. No macro, syntax, notation, axiom, sorry.
-/
import Derived.Test.YtmehecpmhijfmaaDoorRows
import GoSem.ClaimSeven
namespace Go.Proofs.YtmehecpmhijfmaaDoor
namespace Rows

/-- THE TIED CARD OF 'laws.FnFieldParse'. -/
def fnFieldParseCard : Claim7 := { stood := { row := fnFieldParseRow, standIns := [], harness := (true, "a056b40ead3af2424ca2faad7f6d76ecf66de3d13a6bd9cbe38cf56022809ac2"), looks := false }, kinds := [], alts := [], laidByText := true, laidKinds := [.sentinel], laidTests := true, laidLooks := .later }
def FnFieldParseCardSaid : Prop := Claim7.holds Tryd.pinned (.plain (OpenSpec.ofChange fnFieldParseSpec)) fnFieldParseCard

/-- THE SECOND FORM's CARD OF 'laws.FnFieldParse'. -/
def fnFieldParseUptoCard : Claim7 := { stood := { row := fnFieldParseUptoRow, standIns := [], harness := (true, "a056b40ead3af2424ca2faad7f6d76ecf66de3d13a6bd9cbe38cf56022809ac2"), looks := false }, kinds := [], alts := [], laidByText := true, laidKinds := [.sentinel], laidTests := true, laidLooks := .later }
def FnFieldParseUptoCardSaid : Prop := Claim7.holds Tryd.pinned (.plain (OpenSpec.upto fnFieldParseSpec)) fnFieldParseUptoCard
end Rows
end Go.Proofs.YtmehecpmhijfmaaDoor
