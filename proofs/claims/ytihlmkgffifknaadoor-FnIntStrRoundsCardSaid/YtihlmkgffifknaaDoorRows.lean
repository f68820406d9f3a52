/-
  NARROWER THAN 'FOR EVERY INPUT', by the rows' own cells (each row's printed sentence says how): FnIntStrReads: laid · FnIntStrText: laid · FnIntStrRounds: laid · FnIntStrScaled: laid.
  DERIVED. THE GIVEN ROWS OF THIS SEAT. 4 by the template 'for every input the law returns true; each argument reads behind the call as it read before'; 0 by the template 'total and deterministic' (their statements: YtihlmkgffifknaaDoorTotals.lean).
  GIVEN WITH THE SEED: the statements are not yours to turn. If you find one false, say at which input.
  Laid BY PROGRAM, IN A SANDBOX (cutbox-rows.mjs): the forced cells as the released guide's own fill.sh prints them over the translation daf9f38847421946… (all of the seat's roots in one cut). By AI agents, Wed Nov 11 2026. No macro, syntax, notation, axiom, sorry.
-/
import Derived.Test.YtihlmkgffifknaaDoorChecked
import GoSem.Claim
import GoSem.ClaimJoined
import GoSem.ClaimMapViews
import Derived.JoinedTies
import Derived.KernelRfl
namespace Go.Proofs.YtihlmkgffifknaaDoor
/- THE CELL 'sum', in the pinned program and in every row, IS THE sha256 OF THE DUMP (.gsa) THAT YtihlmkgffifknaaDoorProg.lean LOADS. Nothing in Lean hashes anything: it is a label: what it is worth is what the hold of that sum in a sandbox is worth. -/
noncomputable def Tryd.pinned : Pinned := { name := "ytihlmkgffifknaadoor", sum := "daf9f38847421946687c59c959371965d89bae0c80a263e90ee4338d2d9f18f6", checked := Tryd.checked }
namespace Rows
def none {H : Type} : Left H := { results := [], args := [] }

/- WHAT THE LISTED PACKAGE-LEVEL VARIABLES READ AS WHEN THE CALL BEGINS. Each datum BY PROGRAM (the guide's laid-datum.mjs) off the statement by which the dump's own 'gosem.cut.vars' lays the variable. In a bare row this is a premise. The card (YtihlmkgffifknaaDoorCards.lean) ties it to the program's text. -/
def laid_io_ErrUnexpectedEOF {H : Type} : DataW H := .iface "*errors.errorString" (.ptr (.agg [.lit (.string [117, 110, 101, 120, 112, 101, 99, 116, 101, 100, 32, 69, 79, 70])]))
def laid_pub_stockroom_pub_apimachinery_pkg_util_intstr_ErrInvalidLengthGenerated {H : Type} : DataW H := .iface "*errors.errorString" (.ptr (.agg [.lit (.string [112, 114, 111, 116, 111, 58, 32, 110, 101, 103, 97, 116, 105, 118, 101, 32, 108, 101, 110, 103, 116, 104, 32, 102, 111, 117, 110, 100, 32, 100, 117, 114, 105, 110, 103, 32, 117, 110, 109, 97, 114, 115, 104, 97, 108, 105, 110, 103])]))
def laid_pub_stockroom_pub_apimachinery_pkg_util_intstr_ErrIntOverflowGenerated {H : Type} : DataW H := .iface "*errors.errorString" (.ptr (.agg [.lit (.string [112, 114, 111, 116, 111, 58, 32, 105, 110, 116, 101, 103, 101, 114, 32, 111, 118, 101, 114, 102, 108, 111, 119])]))
def laid_pub_stockroom_pub_apimachinery_pkg_util_intstr_ErrUnexpectedEndOfGroupGenerated {H : Type} : DataW H := .iface "*errors.errorString" (.ptr (.agg [.lit (.string [112, 114, 111, 116, 111, 58, 32, 117, 110, 101, 120, 112, 101, 99, 116, 101, 100, 32, 101, 110, 100, 32, 111, 102, 32, 103, 114, 111, 117, 112])]))
def laid_math_bits_deBruijn32tab {H : Type} : DataW H := .agg [.lit (.int .u8 0), .lit (.int .u8 1), .lit (.int .u8 28), .lit (.int .u8 2), .lit (.int .u8 29), .lit (.int .u8 14), .lit (.int .u8 24), .lit (.int .u8 3), .lit (.int .u8 30), .lit (.int .u8 22), .lit (.int .u8 20), .lit (.int .u8 15), .lit (.int .u8 25), .lit (.int .u8 17), .lit (.int .u8 4), .lit (.int .u8 8), .lit (.int .u8 31), .lit (.int .u8 27), .lit (.int .u8 13), .lit (.int .u8 23), .lit (.int .u8 21), .lit (.int .u8 19), .lit (.int .u8 16), .lit (.int .u8 7), .lit (.int .u8 26), .lit (.int .u8 12), .lit (.int .u8 18), .lit (.int .u8 6), .lit (.int .u8 11), .lit (.int .u8 5), .lit (.int .u8 10), .lit (.int .u8 9)]
def laid_math_bits_deBruijn64tab {H : Type} : DataW H := .agg [.lit (.int .u8 0), .lit (.int .u8 1), .lit (.int .u8 56), .lit (.int .u8 2), .lit (.int .u8 57), .lit (.int .u8 49), .lit (.int .u8 28), .lit (.int .u8 3), .lit (.int .u8 61), .lit (.int .u8 58), .lit (.int .u8 42), .lit (.int .u8 50), .lit (.int .u8 38), .lit (.int .u8 29), .lit (.int .u8 17), .lit (.int .u8 4), .lit (.int .u8 62), .lit (.int .u8 47), .lit (.int .u8 59), .lit (.int .u8 36), .lit (.int .u8 45), .lit (.int .u8 43), .lit (.int .u8 51), .lit (.int .u8 22), .lit (.int .u8 53), .lit (.int .u8 39), .lit (.int .u8 33), .lit (.int .u8 30), .lit (.int .u8 24), .lit (.int .u8 18), .lit (.int .u8 12), .lit (.int .u8 5), .lit (.int .u8 63), .lit (.int .u8 55), .lit (.int .u8 48), .lit (.int .u8 27), .lit (.int .u8 60), .lit (.int .u8 41), .lit (.int .u8 37), .lit (.int .u8 16), .lit (.int .u8 46), .lit (.int .u8 35), .lit (.int .u8 44), .lit (.int .u8 21), .lit (.int .u8 52), .lit (.int .u8 32), .lit (.int .u8 23), .lit (.int .u8 11), .lit (.int .u8 54), .lit (.int .u8 26), .lit (.int .u8 40), .lit (.int .u8 15), .lit (.int .u8 34), .lit (.int .u8 20), .lit (.int .u8 31), .lit (.int .u8 10), .lit (.int .u8 25), .lit (.int .u8 14), .lit (.int .u8 19), .lit (.int .u8 9), .lit (.int .u8 13), .lit (.int .u8 8), .lit (.int .u8 7), .lit (.int .u8 6)]
def laid_internal_strconv_uint64pow10 {H : Type} : DataW H := .agg [.lit (.int .u64 1), .lit (.int .u64 10), .lit (.int .u64 100), .lit (.int .u64 1000), .lit (.int .u64 10000), .lit (.int .u64 100000), .lit (.int .u64 1000000), .lit (.int .u64 10000000), .lit (.int .u64 100000000), .lit (.int .u64 1000000000), .lit (.int .u64 10000000000), .lit (.int .u64 100000000000), .lit (.int .u64 1000000000000), .lit (.int .u64 10000000000000), .lit (.int .u64 100000000000000), .lit (.int .u64 1000000000000000), .lit (.int .u64 10000000000000000), .lit (.int .u64 100000000000000000), .lit (.int .u64 1000000000000000000), .lit (.int .u64 10000000000000000000)]
def laid_strconv_ErrRange {H : Type} : DataW H := .iface "*errors.errorString" (.ptr (.agg [.lit (.string [118, 97, 108, 117, 101, 32, 111, 117, 116, 32, 111, 102, 32, 114, 97, 110, 103, 101])]))
def laid_strconv_ErrSyntax {H : Type} : DataW H := .iface "*errors.errorString" (.ptr (.agg [.lit (.string [105, 110, 118, 97, 108, 105, 100, 32, 115, 121, 110, 116, 97, 120])]))

/-- 'laws.FnIntStrReads': WHATEVER THE INPUT: true; the input reads as it did. -/
def fnIntStrReadsSpec : ChangeSpec := { name := "fnIntStrReads", fn := fun _ => fun
  | [d] => { results := [.lit (.bool true)], args := [d] }
  | _ => none }
def fnIntStrReadsRow : OpenClaim := { program := "ytihlmkgffifknaadoor", sum := "daf9f38847421946687c59c959371965d89bae0c80a263e90ee4338d2d9f18f6", func := "pub-stockroom/laws.FnIntStrReads", spec := "fnIntStrReads", named := ["pub-stockroom/pub/apimachinery/pkg/util/intstr.ErrIntOverflowGenerated", "io.ErrUnexpectedEOF", "pub-stockroom/pub/apimachinery/pkg/util/intstr.ErrInvalidLengthGenerated", "pub-stockroom/pub/apimachinery/pkg/util/intstr.ErrUnexpectedEndOfGroupGenerated"], apart := false, laid := [("io.ErrUnexpectedEOF", laid_io_ErrUnexpectedEOF), ("pub-stockroom/pub/apimachinery/pkg/util/intstr.ErrInvalidLengthGenerated", laid_pub_stockroom_pub_apimachinery_pkg_util_intstr_ErrInvalidLengthGenerated), ("pub-stockroom/pub/apimachinery/pkg/util/intstr.ErrIntOverflowGenerated", laid_pub_stockroom_pub_apimachinery_pkg_util_intstr_ErrIntOverflowGenerated), ("pub-stockroom/pub/apimachinery/pkg/util/intstr.ErrUnexpectedEndOfGroupGenerated", laid_pub_stockroom_pub_apimachinery_pkg_util_intstr_ErrUnexpectedEndOfGroupGenerated)] }
def FnIntStrReadsSaid : Prop := fnIntStrReadsRow.holds Tryd.pinned (OpenSpec.ofChange fnIntStrReadsSpec)

/-- ITS FALSE NEIGHBOUR: 'it returns false'. Refute it at one input. -/
def fnIntStrReadsWrong : ChangeSpec := { name := "fnIntStrReads", fn := fun _ => fun
  | [d] => { results := [.lit (.bool false)], args := [d] }
  | _ => none }
def FnIntStrReadsWrongFalsely : Prop := fnIntStrReadsRow.holds Tryd.pinned (OpenSpec.ofChange fnIntStrReadsWrong)

/-- 'laws.FnIntStrText': WHATEVER THE INPUT: true; the input reads as it did. -/
def fnIntStrTextSpec : ChangeSpec := { name := "fnIntStrText", fn := fun _ => fun
  | [d1, d2] => { results := [.lit (.bool true)], args := [d1, d2] }
  | _ => none }
def fnIntStrTextRow : OpenClaim := { program := "ytihlmkgffifknaadoor", sum := "daf9f38847421946687c59c959371965d89bae0c80a263e90ee4338d2d9f18f6", func := "pub-stockroom/laws.FnIntStrText", spec := "fnIntStrText", named := ["strconv.ErrSyntax", "strconv.ErrRange", "internal/strconv.uint64pow10", "math/bits.deBruijn32tab", "math/bits.deBruijn64tab"], apart := false, laid := [("math/bits.deBruijn32tab", laid_math_bits_deBruijn32tab), ("math/bits.deBruijn64tab", laid_math_bits_deBruijn64tab), ("internal/strconv.uint64pow10", laid_internal_strconv_uint64pow10), ("strconv.ErrRange", laid_strconv_ErrRange), ("strconv.ErrSyntax", laid_strconv_ErrSyntax)] }
def FnIntStrTextSaid : Prop := fnIntStrTextRow.holds Tryd.pinned (OpenSpec.ofChange fnIntStrTextSpec)

/-- ITS FALSE NEIGHBOUR: 'it returns false'. Refute it at one input. -/
def fnIntStrTextWrong : ChangeSpec := { name := "fnIntStrText", fn := fun _ => fun
  | [d1, d2] => { results := [.lit (.bool false)], args := [d1, d2] }
  | _ => none }
def FnIntStrTextWrongFalsely : Prop := fnIntStrTextRow.holds Tryd.pinned (OpenSpec.ofChange fnIntStrTextWrong)

/-- 'laws.FnIntStrRounds': WHATEVER THE INPUT: true; the input reads as it did. -/
def fnIntStrRoundsSpec : ChangeSpec := { name := "fnIntStrRounds", fn := fun _ => fun
  | [d1, d2, d3] => { results := [.lit (.bool true)], args := [d1, d2, d3] }
  | _ => none }
def fnIntStrRoundsRow : OpenClaim := { program := "ytihlmkgffifknaadoor", sum := "daf9f38847421946687c59c959371965d89bae0c80a263e90ee4338d2d9f18f6", func := "pub-stockroom/laws.FnIntStrRounds", spec := "fnIntStrRounds", inPlace := ["math.archCeil", "math.archFloor", "math.Float64bits", "math.Float64frombits", "math.archTrunc"], unfollowed := true, recurses := true, named := ["strconv.ErrSyntax", "strconv.ErrRange", "internal/strconv.uint64pow10", "math/bits.deBruijn32tab", "math/bits.deBruijn64tab"], apart := false, laid := [("math/bits.deBruijn32tab", laid_math_bits_deBruijn32tab), ("math/bits.deBruijn64tab", laid_math_bits_deBruijn64tab), ("internal/strconv.uint64pow10", laid_internal_strconv_uint64pow10), ("strconv.ErrRange", laid_strconv_ErrRange), ("strconv.ErrSyntax", laid_strconv_ErrSyntax)] }
def FnIntStrRoundsSaid : Prop := fnIntStrRoundsRow.holds Tryd.pinned (OpenSpec.ofChange fnIntStrRoundsSpec)

/-- ITS FALSE NEIGHBOUR: 'it returns false'. Refute it at one input. -/
def fnIntStrRoundsWrong : ChangeSpec := { name := "fnIntStrRounds", fn := fun _ => fun
  | [d1, d2, d3] => { results := [.lit (.bool false)], args := [d1, d2, d3] }
  | _ => none }
def FnIntStrRoundsWrongFalsely : Prop := fnIntStrRoundsRow.holds Tryd.pinned (OpenSpec.ofChange fnIntStrRoundsWrong)

/-- 'laws.FnIntStrScaled': WHATEVER THE INPUT: true; the input reads as it did. -/
def fnIntStrScaledSpec : ChangeSpec := { name := "fnIntStrScaled", fn := fun _ => fun
  | [d1, d2, d3] => { results := [.lit (.bool true)], args := [d1, d2, d3] }
  | _ => none }
def fnIntStrScaledRow : OpenClaim := { program := "ytihlmkgffifknaadoor", sum := "daf9f38847421946687c59c959371965d89bae0c80a263e90ee4338d2d9f18f6", func := "pub-stockroom/laws.FnIntStrScaled", spec := "fnIntStrScaled", inPlace := ["math.archCeil", "math.archFloor", "math.Float64bits", "math.Float64frombits", "math.archTrunc"], named := ["strconv.ErrSyntax", "strconv.ErrRange", "internal/strconv.uint64pow10", "math/bits.deBruijn32tab", "math/bits.deBruijn64tab"], apart := false, laid := [("math/bits.deBruijn32tab", laid_math_bits_deBruijn32tab), ("math/bits.deBruijn64tab", laid_math_bits_deBruijn64tab), ("internal/strconv.uint64pow10", laid_internal_strconv_uint64pow10), ("strconv.ErrRange", laid_strconv_ErrRange), ("strconv.ErrSyntax", laid_strconv_ErrSyntax)] }
def FnIntStrScaledSaid : Prop := fnIntStrScaledRow.holds Tryd.pinned (OpenSpec.ofChange fnIntStrScaledSpec)

/-- ITS FALSE NEIGHBOUR: 'it returns false'. Refute it at one input. -/
def fnIntStrScaledWrong : ChangeSpec := { name := "fnIntStrScaled", fn := fun _ => fun
  | [d1, d2, d3] => { results := [.lit (.bool false)], args := [d1, d2, d3] }
  | _ => none }
def FnIntStrScaledWrongFalsely : Prop := fnIntStrScaledRow.holds Tryd.pinned (OpenSpec.ofChange fnIntStrScaledWrong)

/- THE SECOND FORM. 'bulk': how many values and letters a reading holds, each counted each time it is reached (what is shared counts as often as it is met; a slice's spare places count too). A statement '..UptoSaid' is the law's where the arguments, and the package variables that the reading takes, are together of bulk at most 1048576: NARROWER than '..Said'. Prove '..Said' where nothing that the law and all that it calls make is longer than what came in: it says more and counts as full. Else prove '..UptoSaid'. A law counts once. -/
mutual
def uptoBulk {H : Type} : DataW H → Nat
  | .lit (.string bytes) => bytes.length + 1
  | .lit _ => 1
  | .nil => 1
  | .ptr d => uptoBulk d + 1
  | .slice elems spare => uptoBulkAll elems + uptoBulkAll spare + 1
  | .agg parts => uptoBulkAll parts + 1
  | .iface _ d => uptoBulk d + 1
  | .map entries => uptoBulkEntries entries + 1
  | .held _ => 1
def uptoBulkAll {H : Type} : List (DataW H) → Nat
  | [] => 0
  | d :: r => uptoBulk d + uptoBulkAll r
def uptoBulkEntries {H : Type} : List (Lit × DataW H) → Nat
  | [] => 0
  | x :: r => uptoBulkEntry x + uptoBulkEntries r
def uptoBulkEntry {H : Type} : Lit × DataW H → Nat
  | (.string bytes, d) => bytes.length + uptoBulk d + 1
  | (_, d) => uptoBulk d + 1
 end
def uptoSmall : (H : Type) → List (DataW H) → Bool := fun _ ds => decide (uptoBulkAll ds ≤ 1048576)
def OpenSpec.upto (s : _root_.Go.ChangeSpec) : _root_.Go.OpenSpec := { _root_.Go.OpenSpec.ofChange s with cond := some uptoSmall }

/-- 'laws.FnIntStrReads', WHERE WHAT IT READS IS OF BULK AT MOST 1048576: true; the input reads as it did. -/
def fnIntStrReadsUptoRow : OpenClaim := { program := "ytihlmkgffifknaadoor", sum := "daf9f38847421946687c59c959371965d89bae0c80a263e90ee4338d2d9f18f6", func := "pub-stockroom/laws.FnIntStrReads", spec := "fnIntStrReads", named := ["pub-stockroom/pub/apimachinery/pkg/util/intstr.ErrIntOverflowGenerated", "io.ErrUnexpectedEOF", "pub-stockroom/pub/apimachinery/pkg/util/intstr.ErrInvalidLengthGenerated", "pub-stockroom/pub/apimachinery/pkg/util/intstr.ErrUnexpectedEndOfGroupGenerated"], apart := false, laid := [("io.ErrUnexpectedEOF", laid_io_ErrUnexpectedEOF), ("pub-stockroom/pub/apimachinery/pkg/util/intstr.ErrInvalidLengthGenerated", laid_pub_stockroom_pub_apimachinery_pkg_util_intstr_ErrInvalidLengthGenerated), ("pub-stockroom/pub/apimachinery/pkg/util/intstr.ErrIntOverflowGenerated", laid_pub_stockroom_pub_apimachinery_pkg_util_intstr_ErrIntOverflowGenerated), ("pub-stockroom/pub/apimachinery/pkg/util/intstr.ErrUnexpectedEndOfGroupGenerated", laid_pub_stockroom_pub_apimachinery_pkg_util_intstr_ErrUnexpectedEndOfGroupGenerated)], narrowed := true }
def FnIntStrReadsUptoSaid : Prop := fnIntStrReadsUptoRow.holds Tryd.pinned (OpenSpec.upto fnIntStrReadsSpec)

/-- 'laws.FnIntStrText', WHERE WHAT IT READS IS OF BULK AT MOST 1048576: true; the input reads as it did. -/
def fnIntStrTextUptoRow : OpenClaim := { program := "ytihlmkgffifknaadoor", sum := "daf9f38847421946687c59c959371965d89bae0c80a263e90ee4338d2d9f18f6", func := "pub-stockroom/laws.FnIntStrText", spec := "fnIntStrText", named := ["strconv.ErrSyntax", "strconv.ErrRange", "internal/strconv.uint64pow10", "math/bits.deBruijn32tab", "math/bits.deBruijn64tab"], apart := false, laid := [("math/bits.deBruijn32tab", laid_math_bits_deBruijn32tab), ("math/bits.deBruijn64tab", laid_math_bits_deBruijn64tab), ("internal/strconv.uint64pow10", laid_internal_strconv_uint64pow10), ("strconv.ErrRange", laid_strconv_ErrRange), ("strconv.ErrSyntax", laid_strconv_ErrSyntax)], narrowed := true }
def FnIntStrTextUptoSaid : Prop := fnIntStrTextUptoRow.holds Tryd.pinned (OpenSpec.upto fnIntStrTextSpec)

/-- 'laws.FnIntStrRounds', WHERE WHAT IT READS IS OF BULK AT MOST 1048576: true; the input reads as it did. -/
def fnIntStrRoundsUptoRow : OpenClaim := { program := "ytihlmkgffifknaadoor", sum := "daf9f38847421946687c59c959371965d89bae0c80a263e90ee4338d2d9f18f6", func := "pub-stockroom/laws.FnIntStrRounds", spec := "fnIntStrRounds", inPlace := ["math.archCeil", "math.archFloor", "math.Float64bits", "math.Float64frombits", "math.archTrunc"], unfollowed := true, recurses := true, named := ["strconv.ErrSyntax", "strconv.ErrRange", "internal/strconv.uint64pow10", "math/bits.deBruijn32tab", "math/bits.deBruijn64tab"], apart := false, laid := [("math/bits.deBruijn32tab", laid_math_bits_deBruijn32tab), ("math/bits.deBruijn64tab", laid_math_bits_deBruijn64tab), ("internal/strconv.uint64pow10", laid_internal_strconv_uint64pow10), ("strconv.ErrRange", laid_strconv_ErrRange), ("strconv.ErrSyntax", laid_strconv_ErrSyntax)], narrowed := true }
def FnIntStrRoundsUptoSaid : Prop := fnIntStrRoundsUptoRow.holds Tryd.pinned (OpenSpec.upto fnIntStrRoundsSpec)

/-- 'laws.FnIntStrScaled', WHERE WHAT IT READS IS OF BULK AT MOST 1048576: true; the input reads as it did. -/
def fnIntStrScaledUptoRow : OpenClaim := { program := "ytihlmkgffifknaadoor", sum := "daf9f38847421946687c59c959371965d89bae0c80a263e90ee4338d2d9f18f6", func := "pub-stockroom/laws.FnIntStrScaled", spec := "fnIntStrScaled", inPlace := ["math.archCeil", "math.archFloor", "math.Float64bits", "math.Float64frombits", "math.archTrunc"], named := ["strconv.ErrSyntax", "strconv.ErrRange", "internal/strconv.uint64pow10", "math/bits.deBruijn32tab", "math/bits.deBruijn64tab"], apart := false, laid := [("math/bits.deBruijn32tab", laid_math_bits_deBruijn32tab), ("math/bits.deBruijn64tab", laid_math_bits_deBruijn64tab), ("internal/strconv.uint64pow10", laid_internal_strconv_uint64pow10), ("strconv.ErrRange", laid_strconv_ErrRange), ("strconv.ErrSyntax", laid_strconv_ErrSyntax)], narrowed := true }
def FnIntStrScaledUptoSaid : Prop := fnIntStrScaledUptoRow.holds Tryd.pinned (OpenSpec.upto fnIntStrScaledSpec)

end Rows
end Go.Proofs.YtihlmkgffifknaaDoor
