/-
  DERIVED. GIVEN WITH THE SEED: THE CARDS: each row of YtomoefldmgfaoaaDoorRows.lean that lists a variable, with what it lists TIED to the program's text (the seventh form; the later family's looks); each row that meets fmt, with fmt's text TOLD by the authors' own Lean function (tested against real Go, not proved from fmt's source: count such statements apart). THE CARD IS WHAT COUNTS. Prove the row's statement (the work); the ties are given (YtomoefldmgfaoaaDoorTie.lean); close each card by the builder's one call (the guide's Derived/Test/ToyasCard.lean, 'card_holds'). Laid BY PROGRAM, IN A SANDBOX (cutbox-door.mjs). By AI agents, Wed Nov 11 2026. No macro, syntax, notation, axiom, sorry.
-/
import Derived.Test.YtomoefldmgfaoaaDoorRows
import GoSem.ClaimSeven
namespace Go.Proofs.YtomoefldmgfaoaaDoor
namespace Rows

/-- THE TIED CARD OF 'laws.FnVersionMake'. -/
def fnVersionMakeCard : Claim7 := { stood := { row := fnVersionMakeRow, standIns := [], harness := (true, "8c2b2973ef6b460e58757e778917b858808f434f566d7d1973b5dd3b3187d5ab"), looks := true }, kinds := [], alts := [], laidByText := true, laidKinds := [.data, .data, .data, .sentinel], laidTests := true, laidLooks := .later }
def FnVersionMakeCardSaid : Prop := Claim7.holds Tryd.pinned (.plain (OpenSpec.ofChange fnVersionMakeSpec)) fnVersionMakeCard

/-- THE TIED CARD OF 'laws.FnVersionMade'. -/
def fnVersionMadeCard : Claim7 := { stood := { row := fnVersionMadeRow, standIns := [], harness := (true, "8c2b2973ef6b460e58757e778917b858808f434f566d7d1973b5dd3b3187d5ab"), looks := true }, kinds := [], alts := [], laidByText := true, laidKinds := [.data, .data, .data, .sentinel, .sentinel, .sentinel], laidTests := true, laidLooks := .later }
def FnVersionMadeCardSaid : Prop := Claim7.holds Tryd.pinned (.plain (OpenSpec.ofChange fnVersionMadeSpec)) fnVersionMadeCard

/-- THE TIED CARD OF 'laws.FnVersionParse'. -/
def fnVersionParseCard : Claim7 := { stood := { row := fnVersionParseRow, standIns := [], harness := (true, "8c2b2973ef6b460e58757e778917b858808f434f566d7d1973b5dd3b3187d5ab"), looks := true }, kinds := [], alts := [], laidByText := true, laidKinds := [.data, .data, .data, .sentinel, .sentinel, .sentinel], laidTests := true, laidLooks := .later }
def FnVersionParseCardSaid : Prop := Claim7.holds Tryd.pinned (.plain (OpenSpec.ofChange fnVersionParseSpec)) fnVersionParseCard

/-- THE TIED CARD OF 'laws.FnVersionSteps'. -/
def fnVersionStepsCard : Claim7 := { stood := { row := fnVersionStepsRow, standIns := [], harness := (true, "8c2b2973ef6b460e58757e778917b858808f434f566d7d1973b5dd3b3187d5ab"), looks := true }, kinds := [], alts := [], laidByText := true, laidKinds := [.data, .data, .data, .sentinel, .sentinel, .sentinel], laidTests := true, laidLooks := .later }
def FnVersionStepsCardSaid : Prop := Claim7.holds Tryd.pinned (.plain (OpenSpec.ofChange fnVersionStepsSpec)) fnVersionStepsCard

/-- THE TIED CARD OF 'laws.FnVersionHighest'. -/
def fnVersionHighestCard : Claim7 := { stood := { row := fnVersionHighestRow, standIns := [], harness := (true, "8c2b2973ef6b460e58757e778917b858808f434f566d7d1973b5dd3b3187d5ab"), looks := true }, kinds := [], alts := [], laidByText := true, laidKinds := [.data, .data, .data, .sentinel, .sentinel, .sentinel], laidTests := true, laidLooks := .later }
def FnVersionHighestCardSaid : Prop := Claim7.holds Tryd.pinned (.plain (OpenSpec.ofChange fnVersionHighestSpec)) fnVersionHighestCard

/-- THE TIED CARD OF 'laws.FnKubeOrders'. -/
def fnKubeOrdersCard : Claim7 := { stood := { row := fnKubeOrdersRow, standIns := [], harness := (true, "8c2b2973ef6b460e58757e778917b858808f434f566d7d1973b5dd3b3187d5ab"), looks := true }, kinds := [], alts := [], laidByText := true, laidKinds := [.data, .data, .data, .sentinel, .sentinel, .sentinel], laidTests := true, laidLooks := .later }
def FnKubeOrdersCardSaid : Prop := Claim7.holds Tryd.pinned (.plain (OpenSpec.ofChange fnKubeOrdersSpec)) fnKubeOrdersCard

/-- THE SECOND FORM's CARD OF 'laws.FnVersionMake'. -/
def fnVersionMakeUptoCard : Claim7 := { stood := { row := fnVersionMakeUptoRow, standIns := [], harness := (true, "8c2b2973ef6b460e58757e778917b858808f434f566d7d1973b5dd3b3187d5ab"), looks := true }, kinds := [], alts := [], laidByText := true, laidKinds := [.data, .data, .data, .sentinel], laidTests := true, laidLooks := .later }
def FnVersionMakeUptoCardSaid : Prop := Claim7.holds Tryd.pinned (.plain (OpenSpec.upto fnVersionMakeSpec)) fnVersionMakeUptoCard

/-- THE SECOND FORM's CARD OF 'laws.FnVersionMade'. -/
def fnVersionMadeUptoCard : Claim7 := { stood := { row := fnVersionMadeUptoRow, standIns := [], harness := (true, "8c2b2973ef6b460e58757e778917b858808f434f566d7d1973b5dd3b3187d5ab"), looks := true }, kinds := [], alts := [], laidByText := true, laidKinds := [.data, .data, .data, .sentinel, .sentinel, .sentinel], laidTests := true, laidLooks := .later }
def FnVersionMadeUptoCardSaid : Prop := Claim7.holds Tryd.pinned (.plain (OpenSpec.upto fnVersionMadeSpec)) fnVersionMadeUptoCard

/-- THE SECOND FORM's CARD OF 'laws.FnVersionParse'. -/
def fnVersionParseUptoCard : Claim7 := { stood := { row := fnVersionParseUptoRow, standIns := [], harness := (true, "8c2b2973ef6b460e58757e778917b858808f434f566d7d1973b5dd3b3187d5ab"), looks := true }, kinds := [], alts := [], laidByText := true, laidKinds := [.data, .data, .data, .sentinel, .sentinel, .sentinel], laidTests := true, laidLooks := .later }
def FnVersionParseUptoCardSaid : Prop := Claim7.holds Tryd.pinned (.plain (OpenSpec.upto fnVersionParseSpec)) fnVersionParseUptoCard

/-- THE SECOND FORM's CARD OF 'laws.FnVersionSteps'. -/
def fnVersionStepsUptoCard : Claim7 := { stood := { row := fnVersionStepsUptoRow, standIns := [], harness := (true, "8c2b2973ef6b460e58757e778917b858808f434f566d7d1973b5dd3b3187d5ab"), looks := true }, kinds := [], alts := [], laidByText := true, laidKinds := [.data, .data, .data, .sentinel, .sentinel, .sentinel], laidTests := true, laidLooks := .later }
def FnVersionStepsUptoCardSaid : Prop := Claim7.holds Tryd.pinned (.plain (OpenSpec.upto fnVersionStepsSpec)) fnVersionStepsUptoCard

/-- THE SECOND FORM's CARD OF 'laws.FnVersionHighest'. -/
def fnVersionHighestUptoCard : Claim7 := { stood := { row := fnVersionHighestUptoRow, standIns := [], harness := (true, "8c2b2973ef6b460e58757e778917b858808f434f566d7d1973b5dd3b3187d5ab"), looks := true }, kinds := [], alts := [], laidByText := true, laidKinds := [.data, .data, .data, .sentinel, .sentinel, .sentinel], laidTests := true, laidLooks := .later }
def FnVersionHighestUptoCardSaid : Prop := Claim7.holds Tryd.pinned (.plain (OpenSpec.upto fnVersionHighestSpec)) fnVersionHighestUptoCard

/-- THE SECOND FORM's CARD OF 'laws.FnKubeOrders'. -/
def fnKubeOrdersUptoCard : Claim7 := { stood := { row := fnKubeOrdersUptoRow, standIns := [], harness := (true, "8c2b2973ef6b460e58757e778917b858808f434f566d7d1973b5dd3b3187d5ab"), looks := true }, kinds := [], alts := [], laidByText := true, laidKinds := [.data, .data, .data, .sentinel, .sentinel, .sentinel], laidTests := true, laidLooks := .later }
def FnKubeOrdersUptoCardSaid : Prop := Claim7.holds Tryd.pinned (.plain (OpenSpec.upto fnKubeOrdersSpec)) fnKubeOrdersUptoCard
end Rows
end Go.Proofs.YtomoefldmgfaoaaDoor
