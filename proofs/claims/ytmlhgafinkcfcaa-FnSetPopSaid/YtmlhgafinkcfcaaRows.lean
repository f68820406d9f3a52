/-
  No cell of these rows narrows 'for every input' (looked for: loops, veiled, ifaces, maps, wideKeys, modest, calm, conditions, laid).
  DERIVED. THE GIVEN ROWS OF THIS SEAT. 5 by the template 'for every input the law returns true; each argument reads behind the call as it read before'; 0 by the template 'total and deterministic' (their statements: YtmlhgafinkcfcaaTotals.lean).
  GIVEN WITH THE SEED: the statements are not yours to turn. If you find one false, say at which input.
  Laid BY PROGRAM, IN A SANDBOX (cutbox-rows.mjs): the forced cells as the released guide's own fill.sh prints them over the translation b8c055088e5efccc… (all of the seat's roots in one cut). By AI agents, Wed Nov 11 2026. No macro, syntax, notation, axiom, sorry.
-/
import Derived.Test.YtmlhgafinkcfcaaChecked
import GoSem.Claim
import GoSem.ClaimJoined
import GoSem.ClaimMapViews
import Derived.JoinedTies
import Derived.KernelRfl
namespace Go.Proofs.Ytmlhgafinkcfcaa
/- THE CELL 'sum', in the pinned program and in every row, IS THE sha256 OF THE DUMP (.gsa) THAT YtmlhgafinkcfcaaProg.lean LOADS. Nothing in Lean hashes anything: it is a label: what it is worth is what the hold of that sum in a sandbox is worth. -/
noncomputable def Try.pinned : Pinned := { name := "ytmlhgafinkcfcaa", sum := "b8c055088e5efccc9f3bae39433b64541a97095e676146dbe6ab3d097ac64f0f", checked := Try.checked }
namespace Rows
def none {H : Type} : Left H := { results := [], args := [] }

/-- 'laws.FnIntSetSays': WHATEVER THE INPUT: true; the input reads as it did. -/
def fnIntSetSaysSpec : ChangeSpec := { name := "fnIntSetSays", fn := fun _ => fun
  | [d1, d2, d3, d4] => { results := [.lit (.bool true)], args := [d1, d2, d3, d4] }
  | _ => none }
def fnIntSetSaysRow : OpenClaim := { program := "ytmlhgafinkcfcaa", sum := "b8c055088e5efccc9f3bae39433b64541a97095e676146dbe6ab3d097ac64f0f", func := "pub-stockroom/laws.FnIntSetSays", spec := "fnIntSetSays", recurses := true, apart := false }
def FnIntSetSaysSaid : Prop := fnIntSetSaysRow.holds Try.pinned (OpenSpec.ofChange fnIntSetSaysSpec)

/-- ITS FALSE NEIGHBOUR: 'it returns false'. Refute it at one input. -/
def fnIntSetSaysWrong : ChangeSpec := { name := "fnIntSetSays", fn := fun _ => fun
  | [d1, d2, d3, d4] => { results := [.lit (.bool false)], args := [d1, d2, d3, d4] }
  | _ => none }
def FnIntSetSaysWrongFalsely : Prop := fnIntSetSaysRow.holds Try.pinned (OpenSpec.ofChange fnIntSetSaysWrong)

/-- 'laws.FnIntSets': WHATEVER THE INPUT: true; the input reads as it did. -/
def fnIntSetsSpec : ChangeSpec := { name := "fnIntSets", fn := fun _ => fun
  | [d1, d2, d3, d4] => { results := [.lit (.bool true)], args := [d1, d2, d3, d4] }
  | _ => none }
def fnIntSetsRow : OpenClaim := { program := "ytmlhgafinkcfcaa", sum := "b8c055088e5efccc9f3bae39433b64541a97095e676146dbe6ab3d097ac64f0f", func := "pub-stockroom/laws.FnIntSets", spec := "fnIntSets", recurses := true, apart := false }
def FnIntSetsSaid : Prop := fnIntSetsRow.holds Try.pinned (OpenSpec.ofChange fnIntSetsSpec)

/-- ITS FALSE NEIGHBOUR: 'it returns false'. Refute it at one input. -/
def fnIntSetsWrong : ChangeSpec := { name := "fnIntSets", fn := fun _ => fun
  | [d1, d2, d3, d4] => { results := [.lit (.bool false)], args := [d1, d2, d3, d4] }
  | _ => none }
def FnIntSetsWrongFalsely : Prop := fnIntSetsRow.holds Try.pinned (OpenSpec.ofChange fnIntSetsWrong)

/-- 'laws.FnSetPop': WHATEVER THE INPUT: true; the input reads as it did. -/
def fnSetPopSpec : ChangeSpec := { name := "fnSetPop", fn := fun _ => fun
  | [d] => { results := [.lit (.bool true)], args := [d] }
  | _ => none }
def fnSetPopRow : OpenClaim := { program := "ytmlhgafinkcfcaa", sum := "b8c055088e5efccc9f3bae39433b64541a97095e676146dbe6ab3d097ac64f0f", func := "pub-stockroom/laws.FnSetPop", spec := "fnSetPop", recurses := true, apart := false }
def FnSetPopSaid : Prop := fnSetPopRow.holds Try.pinned (OpenSpec.ofChange fnSetPopSpec)

/-- ITS FALSE NEIGHBOUR: 'it returns false'. Refute it at one input. -/
def fnSetPopWrong : ChangeSpec := { name := "fnSetPop", fn := fun _ => fun
  | [d] => { results := [.lit (.bool false)], args := [d] }
  | _ => none }
def FnSetPopWrongFalsely : Prop := fnSetPopRow.holds Try.pinned (OpenSpec.ofChange fnSetPopWrong)

/-- 'laws.FnOrderAgain': WHATEVER THE INPUT: true; the input reads as it did. -/
def fnOrderAgainSpec : ChangeSpec := { name := "fnOrderAgain", fn := fun _ => fun
  | [d1, d2, d3] => { results := [.lit (.bool true)], args := [d1, d2, d3] }
  | _ => none }
def fnOrderAgainRow : OpenClaim := { program := "ytmlhgafinkcfcaa", sum := "b8c055088e5efccc9f3bae39433b64541a97095e676146dbe6ab3d097ac64f0f", func := "pub-stockroom/laws.FnOrderAgain", spec := "fnOrderAgain", unfollowed := true, recurses := true, apart := false }
def FnOrderAgainSaid : Prop := fnOrderAgainRow.holds Try.pinned (OpenSpec.ofChange fnOrderAgainSpec)

/-- ITS FALSE NEIGHBOUR: 'it returns false'. Refute it at one input. -/
def fnOrderAgainWrong : ChangeSpec := { name := "fnOrderAgain", fn := fun _ => fun
  | [d1, d2, d3] => { results := [.lit (.bool false)], args := [d1, d2, d3] }
  | _ => none }
def FnOrderAgainWrongFalsely : Prop := fnOrderAgainRow.holds Try.pinned (OpenSpec.ofChange fnOrderAgainWrong)

/-- 'laws.FnOrderMerges': WHATEVER THE INPUT: true; the input reads as it did. -/
def fnOrderMergesSpec : ChangeSpec := { name := "fnOrderMerges", fn := fun _ => fun
  | [d] => { results := [.lit (.bool true)], args := [d] }
  | _ => none }
def fnOrderMergesRow : OpenClaim := { program := "ytmlhgafinkcfcaa", sum := "b8c055088e5efccc9f3bae39433b64541a97095e676146dbe6ab3d097ac64f0f", func := "pub-stockroom/laws.FnOrderMerges", spec := "fnOrderMerges", unfollowed := true, recurses := true, apart := false }
def FnOrderMergesSaid : Prop := fnOrderMergesRow.holds Try.pinned (OpenSpec.ofChange fnOrderMergesSpec)

/-- ITS FALSE NEIGHBOUR: 'it returns false'. Refute it at one input. -/
def fnOrderMergesWrong : ChangeSpec := { name := "fnOrderMerges", fn := fun _ => fun
  | [d] => { results := [.lit (.bool false)], args := [d] }
  | _ => none }
def FnOrderMergesWrongFalsely : Prop := fnOrderMergesRow.holds Try.pinned (OpenSpec.ofChange fnOrderMergesWrong)

/- THE SECOND FORM. 'bulk': how many values and letters a reading holds, each counted each time it is reached (what is shared counts as often as it is met; a slice's spare places count too). A statement '..UptoSaid' is the law's where the arguments, and the package variables that the reading takes, are together of bulk at most 1048576: NARROWER than '..Said'. Prove '..Said' where nothing that the law and all that it calls make is longer than what came in: it says more and counts as full. Else prove '..UptoSaid'. A law counts once. -/
mutual
def uptoBulk {H : Type} : DataW H → Nat
  | .lit (.string bytes) => bytes.length + 1
  | .lit _ => 1
  | .nil => 1
  | .ptr d => uptoBulk d + 1
  | .slice elems spare => uptoBulkAll elems + uptoBulkAll spare + 1
  | .agg parts => uptoBulkAll parts + 1
  | .iface _ d => uptoBulk d + 1
  | .map entries => uptoBulkEntries entries + 1
  | .held _ => 1
def uptoBulkAll {H : Type} : List (DataW H) → Nat
  | [] => 0
  | d :: r => uptoBulk d + uptoBulkAll r
def uptoBulkEntries {H : Type} : List (Lit × DataW H) → Nat
  | [] => 0
  | x :: r => uptoBulkEntry x + uptoBulkEntries r
def uptoBulkEntry {H : Type} : Lit × DataW H → Nat
  | (.string bytes, d) => bytes.length + uptoBulk d + 1
  | (_, d) => uptoBulk d + 1
 end
def uptoSmall : (H : Type) → List (DataW H) → Bool := fun _ ds => decide (uptoBulkAll ds ≤ 1048576)
def OpenSpec.upto (s : _root_.Go.ChangeSpec) : _root_.Go.OpenSpec := { _root_.Go.OpenSpec.ofChange s with cond := some uptoSmall }

/-- 'laws.FnIntSetSays', WHERE WHAT IT READS IS OF BULK AT MOST 1048576: true; the input reads as it did. -/
def fnIntSetSaysUptoRow : OpenClaim := { program := "ytmlhgafinkcfcaa", sum := "b8c055088e5efccc9f3bae39433b64541a97095e676146dbe6ab3d097ac64f0f", func := "pub-stockroom/laws.FnIntSetSays", spec := "fnIntSetSays", recurses := true, apart := false, narrowed := true }
def FnIntSetSaysUptoSaid : Prop := fnIntSetSaysUptoRow.holds Try.pinned (OpenSpec.upto fnIntSetSaysSpec)

/-- 'laws.FnIntSets', WHERE WHAT IT READS IS OF BULK AT MOST 1048576: true; the input reads as it did. -/
def fnIntSetsUptoRow : OpenClaim := { program := "ytmlhgafinkcfcaa", sum := "b8c055088e5efccc9f3bae39433b64541a97095e676146dbe6ab3d097ac64f0f", func := "pub-stockroom/laws.FnIntSets", spec := "fnIntSets", recurses := true, apart := false, narrowed := true }
def FnIntSetsUptoSaid : Prop := fnIntSetsUptoRow.holds Try.pinned (OpenSpec.upto fnIntSetsSpec)

/-- 'laws.FnSetPop', WHERE WHAT IT READS IS OF BULK AT MOST 1048576: true; the input reads as it did. -/
def fnSetPopUptoRow : OpenClaim := { program := "ytmlhgafinkcfcaa", sum := "b8c055088e5efccc9f3bae39433b64541a97095e676146dbe6ab3d097ac64f0f", func := "pub-stockroom/laws.FnSetPop", spec := "fnSetPop", recurses := true, apart := false, narrowed := true }
def FnSetPopUptoSaid : Prop := fnSetPopUptoRow.holds Try.pinned (OpenSpec.upto fnSetPopSpec)

/-- 'laws.FnOrderAgain', WHERE WHAT IT READS IS OF BULK AT MOST 1048576: true; the input reads as it did. -/
def fnOrderAgainUptoRow : OpenClaim := { program := "ytmlhgafinkcfcaa", sum := "b8c055088e5efccc9f3bae39433b64541a97095e676146dbe6ab3d097ac64f0f", func := "pub-stockroom/laws.FnOrderAgain", spec := "fnOrderAgain", unfollowed := true, recurses := true, apart := false, narrowed := true }
def FnOrderAgainUptoSaid : Prop := fnOrderAgainUptoRow.holds Try.pinned (OpenSpec.upto fnOrderAgainSpec)

/-- 'laws.FnOrderMerges', WHERE WHAT IT READS IS OF BULK AT MOST 1048576: true; the input reads as it did. -/
def fnOrderMergesUptoRow : OpenClaim := { program := "ytmlhgafinkcfcaa", sum := "b8c055088e5efccc9f3bae39433b64541a97095e676146dbe6ab3d097ac64f0f", func := "pub-stockroom/laws.FnOrderMerges", spec := "fnOrderMerges", unfollowed := true, recurses := true, apart := false, narrowed := true }
def FnOrderMergesUptoSaid : Prop := fnOrderMergesUptoRow.holds Try.pinned (OpenSpec.upto fnOrderMergesSpec)

end Rows
end Go.Proofs.Ytmlhgafinkcfcaa
