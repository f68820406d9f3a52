/-
  No cell of these rows narrows 'for every input' (looked for: loops, veiled, ifaces, maps, wideKeys, modest, calm, conditions, laid).
  DERIVED. THE GIVEN ROWS OF THIS SEAT. 5 by the template 'for every input the law returns true; each argument reads behind the call as it read before'; 0 by the template 'total and deterministic' (their statements: YtgidpggooclebaaTotals.lean).
  GIVEN WITH THE SEED: the statements are not yours to turn. If you find one false, say at which input.
  Laid BY PROGRAM, IN A SANDBOX (cutbox-rows.mjs): the forced cells as the released guide's own fill.sh prints them over the translation 91fcf1c7fd360094… (all of the seat's roots in one cut). By AI agents, Wed Nov 11 2026. No macro, syntax, notation, axiom, sorry.
-/
import Derived.Test.YtgidpggooclebaaChecked
import GoSem.Claim
import GoSem.ClaimJoined
import GoSem.ClaimMapViews
import Derived.JoinedTies
import Derived.KernelRfl
namespace Go.Proofs.Ytgidpggooclebaa
/- THE CELL 'sum', in the pinned program and in every row, IS THE sha256 OF THE DUMP (.gsa) THAT YtgidpggooclebaaProg.lean LOADS. Nothing in Lean hashes anything: it is a label: what it is worth is what the hold of that sum in a sandbox is worth. -/
noncomputable def Try.pinned : Pinned := { name := "ytgidpggooclebaa", sum := "91fcf1c7fd3600949a7c722e53a6722761eb5e00455c8a0f7d5f9fb8b12e7a5d", checked := Try.checked }
namespace Rows
def none {H : Type} : Left H := { results := [], args := [] }

/-- 'laws.FnScaleProducts': WHATEVER THE INPUT: true; the input reads as it did. -/
def fnScaleProductsSpec : ChangeSpec := { name := "fnScaleProducts", fn := fun _ => fun
  | [d1, d2] => { results := [.lit (.bool true)], args := [d1, d2] }
  | _ => none }
def fnScaleProductsRow : OpenClaim := { program := "ytgidpggooclebaa", sum := "91fcf1c7fd3600949a7c722e53a6722761eb5e00455c8a0f7d5f9fb8b12e7a5d", func := "pub-stockroom/laws.FnScaleProducts", spec := "fnScaleProducts", apart := false }
def FnScaleProductsSaid : Prop := fnScaleProductsRow.holds Try.pinned (OpenSpec.ofChange fnScaleProductsSpec)

/-- ITS FALSE NEIGHBOUR: 'it returns false'. Refute it at one input. -/
def fnScaleProductsWrong : ChangeSpec := { name := "fnScaleProducts", fn := fun _ => fun
  | [d1, d2] => { results := [.lit (.bool false)], args := [d1, d2] }
  | _ => none }
def FnScaleProductsWrongFalsely : Prop := fnScaleProductsRow.holds Try.pinned (OpenSpec.ofChange fnScaleProductsWrong)

/-- 'laws.FnFieldSplit': WHATEVER THE INPUT: true; the input reads as it did. -/
def fnFieldSplitSpec : ChangeSpec := { name := "fnFieldSplit", fn := fun _ => fun
  | [d] => { results := [.lit (.bool true)], args := [d] }
  | _ => none }
def fnFieldSplitRow : OpenClaim := { program := "ytgidpggooclebaa", sum := "91fcf1c7fd3600949a7c722e53a6722761eb5e00455c8a0f7d5f9fb8b12e7a5d", func := "pub-stockroom/laws.FnFieldSplit", spec := "fnFieldSplit", apart := false }
def FnFieldSplitSaid : Prop := fnFieldSplitRow.holds Try.pinned (OpenSpec.ofChange fnFieldSplitSpec)

/-- ITS FALSE NEIGHBOUR: 'it returns false'. Refute it at one input. -/
def fnFieldSplitWrong : ChangeSpec := { name := "fnFieldSplit", fn := fun _ => fun
  | [d] => { results := [.lit (.bool false)], args := [d] }
  | _ => none }
def FnFieldSplitWrongFalsely : Prop := fnFieldSplitRow.holds Try.pinned (OpenSpec.ofChange fnFieldSplitWrong)

/-- 'laws.FnScaleDowns': WHATEVER THE INPUT: true; the input reads as it did. -/
def fnScaleDownsSpec : ChangeSpec := { name := "fnScaleDowns", fn := fun _ => fun
  | [d1, d2] => { results := [.lit (.bool true)], args := [d1, d2] }
  | _ => none }
def fnScaleDownsRow : OpenClaim := { program := "ytgidpggooclebaa", sum := "91fcf1c7fd3600949a7c722e53a6722761eb5e00455c8a0f7d5f9fb8b12e7a5d", func := "pub-stockroom/laws.FnScaleDowns", spec := "fnScaleDowns", apart := false }
def FnScaleDownsSaid : Prop := fnScaleDownsRow.holds Try.pinned (OpenSpec.ofChange fnScaleDownsSpec)

/-- ITS FALSE NEIGHBOUR: 'it returns false'. Refute it at one input. -/
def fnScaleDownsWrong : ChangeSpec := { name := "fnScaleDowns", fn := fun _ => fun
  | [d1, d2] => { results := [.lit (.bool false)], args := [d1, d2] }
  | _ => none }
def FnScaleDownsWrongFalsely : Prop := fnScaleDownsRow.holds Try.pinned (OpenSpec.ofChange fnScaleDownsWrong)

/-- 'laws.FnScaleFactors': WHATEVER THE INPUT: true; the input reads as it did. -/
def fnScaleFactorsSpec : ChangeSpec := { name := "fnScaleFactors", fn := fun _ => fun
  | [d1, d2] => { results := [.lit (.bool true)], args := [d1, d2] }
  | _ => none }
def fnScaleFactorsRow : OpenClaim := { program := "ytgidpggooclebaa", sum := "91fcf1c7fd3600949a7c722e53a6722761eb5e00455c8a0f7d5f9fb8b12e7a5d", func := "pub-stockroom/laws.FnScaleFactors", spec := "fnScaleFactors", apart := false }
def FnScaleFactorsSaid : Prop := fnScaleFactorsRow.holds Try.pinned (OpenSpec.ofChange fnScaleFactorsSpec)

/-- ITS FALSE NEIGHBOUR: 'it returns false'. Refute it at one input. -/
def fnScaleFactorsWrong : ChangeSpec := { name := "fnScaleFactors", fn := fun _ => fun
  | [d1, d2] => { results := [.lit (.bool false)], args := [d1, d2] }
  | _ => none }
def FnScaleFactorsWrongFalsely : Prop := fnScaleFactorsRow.holds Try.pinned (OpenSpec.ofChange fnScaleFactorsWrong)

/-- 'laws.FnScheme': WHATEVER THE INPUT: true; the input reads as it did. -/
def fnSchemeSpec : ChangeSpec := { name := "fnScheme", fn := fun _ => fun
  | [d] => { results := [.lit (.bool true)], args := [d] }
  | _ => none }
def fnSchemeRow : OpenClaim := { program := "ytgidpggooclebaa", sum := "91fcf1c7fd3600949a7c722e53a6722761eb5e00455c8a0f7d5f9fb8b12e7a5d", func := "pub-stockroom/laws.FnScheme", spec := "fnScheme", apart := false }
def FnSchemeSaid : Prop := fnSchemeRow.holds Try.pinned (OpenSpec.ofChange fnSchemeSpec)

/-- ITS FALSE NEIGHBOUR: 'it returns false'. Refute it at one input. -/
def fnSchemeWrong : ChangeSpec := { name := "fnScheme", fn := fun _ => fun
  | [d] => { results := [.lit (.bool false)], args := [d] }
  | _ => none }
def FnSchemeWrongFalsely : Prop := fnSchemeRow.holds Try.pinned (OpenSpec.ofChange fnSchemeWrong)

/- THE SECOND FORM. 'bulk': how many values and letters a reading holds, each counted each time it is reached (what is shared counts as often as it is met; a slice's spare places count too). A statement '..UptoSaid' is the law's where the arguments, and the package variables that the reading takes, are together of bulk at most 1048576: NARROWER than '..Said'. Prove '..Said' where nothing that the law and all that it calls make is longer than what came in: it says more and counts as full. Else prove '..UptoSaid'. A law counts once. -/
mutual
def uptoBulk {H : Type} : DataW H → Nat
  | .lit (.string bytes) => bytes.length + 1
  | .lit _ => 1
  | .nil => 1
  | .ptr d => uptoBulk d + 1
  | .slice elems spare => uptoBulkAll elems + uptoBulkAll spare + 1
  | .agg parts => uptoBulkAll parts + 1
  | .iface _ d => uptoBulk d + 1
  | .map entries => uptoBulkEntries entries + 1
  | .held _ => 1
def uptoBulkAll {H : Type} : List (DataW H) → Nat
  | [] => 0
  | d :: r => uptoBulk d + uptoBulkAll r
def uptoBulkEntries {H : Type} : List (Lit × DataW H) → Nat
  | [] => 0
  | x :: r => uptoBulkEntry x + uptoBulkEntries r
def uptoBulkEntry {H : Type} : Lit × DataW H → Nat
  | (.string bytes, d) => bytes.length + uptoBulk d + 1
  | (_, d) => uptoBulk d + 1
 end
def uptoSmall : (H : Type) → List (DataW H) → Bool := fun _ ds => decide (uptoBulkAll ds ≤ 1048576)
def OpenSpec.upto (s : _root_.Go.ChangeSpec) : _root_.Go.OpenSpec := { _root_.Go.OpenSpec.ofChange s with cond := some uptoSmall }

/-- 'laws.FnScaleProducts', WHERE WHAT IT READS IS OF BULK AT MOST 1048576: true; the input reads as it did. -/
def fnScaleProductsUptoRow : OpenClaim := { program := "ytgidpggooclebaa", sum := "91fcf1c7fd3600949a7c722e53a6722761eb5e00455c8a0f7d5f9fb8b12e7a5d", func := "pub-stockroom/laws.FnScaleProducts", spec := "fnScaleProducts", apart := false, narrowed := true }
def FnScaleProductsUptoSaid : Prop := fnScaleProductsUptoRow.holds Try.pinned (OpenSpec.upto fnScaleProductsSpec)

/-- 'laws.FnFieldSplit', WHERE WHAT IT READS IS OF BULK AT MOST 1048576: true; the input reads as it did. -/
def fnFieldSplitUptoRow : OpenClaim := { program := "ytgidpggooclebaa", sum := "91fcf1c7fd3600949a7c722e53a6722761eb5e00455c8a0f7d5f9fb8b12e7a5d", func := "pub-stockroom/laws.FnFieldSplit", spec := "fnFieldSplit", apart := false, narrowed := true }
def FnFieldSplitUptoSaid : Prop := fnFieldSplitUptoRow.holds Try.pinned (OpenSpec.upto fnFieldSplitSpec)

/-- 'laws.FnScaleDowns', WHERE WHAT IT READS IS OF BULK AT MOST 1048576: true; the input reads as it did. -/
def fnScaleDownsUptoRow : OpenClaim := { program := "ytgidpggooclebaa", sum := "91fcf1c7fd3600949a7c722e53a6722761eb5e00455c8a0f7d5f9fb8b12e7a5d", func := "pub-stockroom/laws.FnScaleDowns", spec := "fnScaleDowns", apart := false, narrowed := true }
def FnScaleDownsUptoSaid : Prop := fnScaleDownsUptoRow.holds Try.pinned (OpenSpec.upto fnScaleDownsSpec)

/-- 'laws.FnScaleFactors', WHERE WHAT IT READS IS OF BULK AT MOST 1048576: true; the input reads as it did. -/
def fnScaleFactorsUptoRow : OpenClaim := { program := "ytgidpggooclebaa", sum := "91fcf1c7fd3600949a7c722e53a6722761eb5e00455c8a0f7d5f9fb8b12e7a5d", func := "pub-stockroom/laws.FnScaleFactors", spec := "fnScaleFactors", apart := false, narrowed := true }
def FnScaleFactorsUptoSaid : Prop := fnScaleFactorsUptoRow.holds Try.pinned (OpenSpec.upto fnScaleFactorsSpec)

/-- 'laws.FnScheme', WHERE WHAT IT READS IS OF BULK AT MOST 1048576: true; the input reads as it did. -/
def fnSchemeUptoRow : OpenClaim := { program := "ytgidpggooclebaa", sum := "91fcf1c7fd3600949a7c722e53a6722761eb5e00455c8a0f7d5f9fb8b12e7a5d", func := "pub-stockroom/laws.FnScheme", spec := "fnScheme", apart := false, narrowed := true }
def FnSchemeUptoSaid : Prop := fnSchemeUptoRow.holds Try.pinned (OpenSpec.upto fnSchemeSpec)

end Rows
end Go.Proofs.Ytgidpggooclebaa
