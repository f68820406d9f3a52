/-
  No cell of these rows narrows 'for every input' (looked for: loops, veiled, ifaces, maps, wideKeys, modest, calm, conditions, laid).
  DERIVED. THE GIVEN ROWS OF THIS SEAT. 7 by the template 'for every input the law returns true; each argument reads behind the call as it read before'; 0 by the template 'total and deterministic' (their statements: YtpaihcikeieliaaTotals.lean).
  GIVEN WITH THE SEED: the statements are not yours to turn. If you find one false, say at which input.
  Laid BY PROGRAM, IN A SANDBOX (cutbox-rows.mjs): the forced cells as the released guide's own fill.sh prints them over the translation d2aeb16ab24f086d… (all of the seat's roots in one cut). By AI agents, Wed Nov 11 2026. No macro, syntax, notation, axiom, sorry.
-/
import Derived.Test.YtpaihcikeieliaaChecked
import GoSem.Claim
import GoSem.ClaimJoined
import GoSem.ClaimMapViews
import Derived.JoinedTies
import Derived.KernelRfl
namespace Go.Proofs.Ytpaihcikeieliaa
/- THE CELL 'sum', in the pinned program and in every row, IS THE sha256 OF THE DUMP (.gsa) THAT YtpaihcikeieliaaProg.lean LOADS. Nothing in Lean hashes anything: it is a label: what it is worth is what the hold of that sum in a sandbox is worth. -/
noncomputable def Try.pinned : Pinned := { name := "ytpaihcikeieliaa", sum := "d2aeb16ab24f086d5a02aa5d4551d4feb1f2e68b5d59103860f1571284861074", checked := Try.checked }
namespace Rows
def none {H : Type} : Left H := { results := [], args := [] }

/-- 'laws.FnKindFor': WHATEVER THE INPUT: true; the input reads as it did. -/
def fnKindForSpec : ChangeSpec := { name := "fnKindFor", fn := fun _ => fun
  | [d1, d2, d3] => { results := [.lit (.bool true)], args := [d1, d2, d3] }
  | _ => none }
def fnKindForRow : OpenClaim := { program := "ytpaihcikeieliaa", sum := "d2aeb16ab24f086d5a02aa5d4551d4feb1f2e68b5d59103860f1571284861074", func := "pub-stockroom/laws.FnKindFor", spec := "fnKindFor", apart := false }
def FnKindForSaid : Prop := fnKindForRow.holds Try.pinned (OpenSpec.ofChange fnKindForSpec)

/-- ITS FALSE NEIGHBOUR: 'it returns false'. Refute it at one input. -/
def fnKindForWrong : ChangeSpec := { name := "fnKindFor", fn := fun _ => fun
  | [d1, d2, d3] => { results := [.lit (.bool false)], args := [d1, d2, d3] }
  | _ => none }
def FnKindForWrongFalsely : Prop := fnKindForRow.holds Try.pinned (OpenSpec.ofChange fnKindForWrong)

/-- 'laws.FnNamed': WHATEVER THE INPUT: true; the input reads as it did. -/
def fnNamedSpec : ChangeSpec := { name := "fnNamed", fn := fun _ => fun
  | [d1, d2, d3] => { results := [.lit (.bool true)], args := [d1, d2, d3] }
  | _ => none }
def fnNamedRow : OpenClaim := { program := "ytpaihcikeieliaa", sum := "d2aeb16ab24f086d5a02aa5d4551d4feb1f2e68b5d59103860f1571284861074", func := "pub-stockroom/laws.FnNamed", spec := "fnNamed", apart := false }
def FnNamedSaid : Prop := fnNamedRow.holds Try.pinned (OpenSpec.ofChange fnNamedSpec)

/-- ITS FALSE NEIGHBOUR: 'it returns false'. Refute it at one input. -/
def fnNamedWrong : ChangeSpec := { name := "fnNamed", fn := fun _ => fun
  | [d1, d2, d3] => { results := [.lit (.bool false)], args := [d1, d2, d3] }
  | _ => none }
def FnNamedWrongFalsely : Prop := fnNamedRow.holds Try.pinned (OpenSpec.ofChange fnNamedWrong)

/-- 'laws.FnResourceVersion': WHATEVER THE INPUT: true; the input reads as it did. -/
def fnResourceVersionSpec : ChangeSpec := { name := "fnResourceVersion", fn := fun _ => fun
  | [d1, d2] => { results := [.lit (.bool true)], args := [d1, d2] }
  | _ => none }
def fnResourceVersionRow : OpenClaim := { program := "ytpaihcikeieliaa", sum := "d2aeb16ab24f086d5a02aa5d4551d4feb1f2e68b5d59103860f1571284861074", func := "pub-stockroom/laws.FnResourceVersion", spec := "fnResourceVersion", inPlace := ["internal/bytealg.abigen_runtime_cmpstring"], apart := false }
def FnResourceVersionSaid : Prop := fnResourceVersionRow.holds Try.pinned (OpenSpec.ofChange fnResourceVersionSpec)

/-- ITS FALSE NEIGHBOUR: 'it returns false'. Refute it at one input. -/
def fnResourceVersionWrong : ChangeSpec := { name := "fnResourceVersion", fn := fun _ => fun
  | [d1, d2] => { results := [.lit (.bool false)], args := [d1, d2] }
  | _ => none }
def FnResourceVersionWrongFalsely : Prop := fnResourceVersionRow.holds Try.pinned (OpenSpec.ofChange fnResourceVersionWrong)

/-- 'laws.FnGroupVersion': WHATEVER THE INPUT: true; the input reads as it did. -/
def fnGroupVersionSpec : ChangeSpec := { name := "fnGroupVersion", fn := fun _ => fun
  | [d1, d2, d3] => { results := [.lit (.bool true)], args := [d1, d2, d3] }
  | _ => none }
def fnGroupVersionRow : OpenClaim := { program := "ytpaihcikeieliaa", sum := "d2aeb16ab24f086d5a02aa5d4551d4feb1f2e68b5d59103860f1571284861074", func := "pub-stockroom/laws.FnGroupVersion", spec := "fnGroupVersion", apart := false }
def FnGroupVersionSaid : Prop := fnGroupVersionRow.holds Try.pinned (OpenSpec.ofChange fnGroupVersionSpec)

/-- ITS FALSE NEIGHBOUR: 'it returns false'. Refute it at one input. -/
def fnGroupVersionWrong : ChangeSpec := { name := "fnGroupVersion", fn := fun _ => fun
  | [d1, d2, d3] => { results := [.lit (.bool false)], args := [d1, d2, d3] }
  | _ => none }
def FnGroupVersionWrongFalsely : Prop := fnGroupVersionRow.holds Try.pinned (OpenSpec.ofChange fnGroupVersionWrong)

/-- 'laws.FnKindOf': WHATEVER THE INPUT: true; the input reads as it did. -/
def fnKindOfSpec : ChangeSpec := { name := "fnKindOf", fn := fun _ => fun
  | [d1, d2] => { results := [.lit (.bool true)], args := [d1, d2] }
  | _ => none }
def fnKindOfRow : OpenClaim := { program := "ytpaihcikeieliaa", sum := "d2aeb16ab24f086d5a02aa5d4551d4feb1f2e68b5d59103860f1571284861074", func := "pub-stockroom/laws.FnKindOf", spec := "fnKindOf", apart := false }
def FnKindOfSaid : Prop := fnKindOfRow.holds Try.pinned (OpenSpec.ofChange fnKindOfSpec)

/-- ITS FALSE NEIGHBOUR: 'it returns false'. Refute it at one input. -/
def fnKindOfWrong : ChangeSpec := { name := "fnKindOf", fn := fun _ => fun
  | [d1, d2] => { results := [.lit (.bool false)], args := [d1, d2] }
  | _ => none }
def FnKindOfWrongFalsely : Prop := fnKindOfRow.holds Try.pinned (OpenSpec.ofChange fnKindOfWrong)

/-- 'laws.FnArg': WHATEVER THE INPUT: true; the input reads as it did. -/
def fnArgSpec : ChangeSpec := { name := "fnArg", fn := fun _ => fun
  | [d] => { results := [.lit (.bool true)], args := [d] }
  | _ => none }
def fnArgRow : OpenClaim := { program := "ytpaihcikeieliaa", sum := "d2aeb16ab24f086d5a02aa5d4551d4feb1f2e68b5d59103860f1571284861074", func := "pub-stockroom/laws.FnArg", spec := "fnArg", apart := false }
def FnArgSaid : Prop := fnArgRow.holds Try.pinned (OpenSpec.ofChange fnArgSpec)

/-- ITS FALSE NEIGHBOUR: 'it returns false'. Refute it at one input. -/
def fnArgWrong : ChangeSpec := { name := "fnArg", fn := fun _ => fun
  | [d] => { results := [.lit (.bool false)], args := [d] }
  | _ => none }
def FnArgWrongFalsely : Prop := fnArgRow.holds Try.pinned (OpenSpec.ofChange fnArgWrong)

/-- 'laws.FnKindTexts': WHATEVER THE INPUT: true; the input reads as it did. -/
def fnKindTextsSpec : ChangeSpec := { name := "fnKindTexts", fn := fun _ => fun
  | [d] => { results := [.lit (.bool true)], args := [d] }
  | _ => none }
def fnKindTextsRow : OpenClaim := { program := "ytpaihcikeieliaa", sum := "d2aeb16ab24f086d5a02aa5d4551d4feb1f2e68b5d59103860f1571284861074", func := "pub-stockroom/laws.FnKindTexts", spec := "fnKindTexts", inPlace := ["internal/abi.NoEscape", "internal/bytealg.MakeNoZero"], apart := false }
def FnKindTextsSaid : Prop := fnKindTextsRow.holds Try.pinned (OpenSpec.ofChange fnKindTextsSpec)

/-- ITS FALSE NEIGHBOUR: 'it returns false'. Refute it at one input. -/
def fnKindTextsWrong : ChangeSpec := { name := "fnKindTexts", fn := fun _ => fun
  | [d] => { results := [.lit (.bool false)], args := [d] }
  | _ => none }
def FnKindTextsWrongFalsely : Prop := fnKindTextsRow.holds Try.pinned (OpenSpec.ofChange fnKindTextsWrong)

/- THE SECOND FORM. 'bulk': how many values and letters a reading holds, each counted each time it is reached (what is shared counts as often as it is met; a slice's spare places count too). A statement '..UptoSaid' is the law's where the arguments, and the package variables that the reading takes, are together of bulk at most 1048576: NARROWER than '..Said'. Prove '..Said' where nothing that the law and all that it calls make is longer than what came in: it says more and counts as full. Else prove '..UptoSaid'. A law counts once. -/
mutual
def uptoBulk {H : Type} : DataW H → Nat
  | .lit (.string bytes) => bytes.length + 1
  | .lit _ => 1
  | .nil => 1
  | .ptr d => uptoBulk d + 1
  | .slice elems spare => uptoBulkAll elems + uptoBulkAll spare + 1
  | .agg parts => uptoBulkAll parts + 1
  | .iface _ d => uptoBulk d + 1
  | .map entries => uptoBulkEntries entries + 1
  | .held _ => 1
def uptoBulkAll {H : Type} : List (DataW H) → Nat
  | [] => 0
  | d :: r => uptoBulk d + uptoBulkAll r
def uptoBulkEntries {H : Type} : List (Lit × DataW H) → Nat
  | [] => 0
  | x :: r => uptoBulkEntry x + uptoBulkEntries r
def uptoBulkEntry {H : Type} : Lit × DataW H → Nat
  | (.string bytes, d) => bytes.length + uptoBulk d + 1
  | (_, d) => uptoBulk d + 1
 end
def uptoSmall : (H : Type) → List (DataW H) → Bool := fun _ ds => decide (uptoBulkAll ds ≤ 1048576)
def OpenSpec.upto (s : _root_.Go.ChangeSpec) : _root_.Go.OpenSpec := { _root_.Go.OpenSpec.ofChange s with cond := some uptoSmall }

/-- 'laws.FnKindFor', WHERE WHAT IT READS IS OF BULK AT MOST 1048576: true; the input reads as it did. -/
def fnKindForUptoRow : OpenClaim := { program := "ytpaihcikeieliaa", sum := "d2aeb16ab24f086d5a02aa5d4551d4feb1f2e68b5d59103860f1571284861074", func := "pub-stockroom/laws.FnKindFor", spec := "fnKindFor", apart := false, narrowed := true }
def FnKindForUptoSaid : Prop := fnKindForUptoRow.holds Try.pinned (OpenSpec.upto fnKindForSpec)

/-- 'laws.FnNamed', WHERE WHAT IT READS IS OF BULK AT MOST 1048576: true; the input reads as it did. -/
def fnNamedUptoRow : OpenClaim := { program := "ytpaihcikeieliaa", sum := "d2aeb16ab24f086d5a02aa5d4551d4feb1f2e68b5d59103860f1571284861074", func := "pub-stockroom/laws.FnNamed", spec := "fnNamed", apart := false, narrowed := true }
def FnNamedUptoSaid : Prop := fnNamedUptoRow.holds Try.pinned (OpenSpec.upto fnNamedSpec)

/-- 'laws.FnResourceVersion', WHERE WHAT IT READS IS OF BULK AT MOST 1048576: true; the input reads as it did. -/
def fnResourceVersionUptoRow : OpenClaim := { program := "ytpaihcikeieliaa", sum := "d2aeb16ab24f086d5a02aa5d4551d4feb1f2e68b5d59103860f1571284861074", func := "pub-stockroom/laws.FnResourceVersion", spec := "fnResourceVersion", inPlace := ["internal/bytealg.abigen_runtime_cmpstring"], apart := false, narrowed := true }
def FnResourceVersionUptoSaid : Prop := fnResourceVersionUptoRow.holds Try.pinned (OpenSpec.upto fnResourceVersionSpec)

/-- 'laws.FnGroupVersion', WHERE WHAT IT READS IS OF BULK AT MOST 1048576: true; the input reads as it did. -/
def fnGroupVersionUptoRow : OpenClaim := { program := "ytpaihcikeieliaa", sum := "d2aeb16ab24f086d5a02aa5d4551d4feb1f2e68b5d59103860f1571284861074", func := "pub-stockroom/laws.FnGroupVersion", spec := "fnGroupVersion", apart := false, narrowed := true }
def FnGroupVersionUptoSaid : Prop := fnGroupVersionUptoRow.holds Try.pinned (OpenSpec.upto fnGroupVersionSpec)

/-- 'laws.FnKindOf', WHERE WHAT IT READS IS OF BULK AT MOST 1048576: true; the input reads as it did. -/
def fnKindOfUptoRow : OpenClaim := { program := "ytpaihcikeieliaa", sum := "d2aeb16ab24f086d5a02aa5d4551d4feb1f2e68b5d59103860f1571284861074", func := "pub-stockroom/laws.FnKindOf", spec := "fnKindOf", apart := false, narrowed := true }
def FnKindOfUptoSaid : Prop := fnKindOfUptoRow.holds Try.pinned (OpenSpec.upto fnKindOfSpec)

/-- 'laws.FnArg', WHERE WHAT IT READS IS OF BULK AT MOST 1048576: true; the input reads as it did. -/
def fnArgUptoRow : OpenClaim := { program := "ytpaihcikeieliaa", sum := "d2aeb16ab24f086d5a02aa5d4551d4feb1f2e68b5d59103860f1571284861074", func := "pub-stockroom/laws.FnArg", spec := "fnArg", apart := false, narrowed := true }
def FnArgUptoSaid : Prop := fnArgUptoRow.holds Try.pinned (OpenSpec.upto fnArgSpec)

/-- 'laws.FnKindTexts', WHERE WHAT IT READS IS OF BULK AT MOST 1048576: true; the input reads as it did. -/
def fnKindTextsUptoRow : OpenClaim := { program := "ytpaihcikeieliaa", sum := "d2aeb16ab24f086d5a02aa5d4551d4feb1f2e68b5d59103860f1571284861074", func := "pub-stockroom/laws.FnKindTexts", spec := "fnKindTexts", inPlace := ["internal/abi.NoEscape", "internal/bytealg.MakeNoZero"], apart := false, narrowed := true }
def FnKindTextsUptoSaid : Prop := fnKindTextsUptoRow.holds Try.pinned (OpenSpec.upto fnKindTextsSpec)

end Rows
end Go.Proofs.Ytpaihcikeieliaa
