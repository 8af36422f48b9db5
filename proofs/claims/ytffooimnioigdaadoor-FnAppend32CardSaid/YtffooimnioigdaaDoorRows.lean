/-
  NARROWER THAN 'FOR EVERY INPUT', by the rows' own cells (each row's printed sentence says how): FnNegative32: laid · FnNegative64: laid · FnCapitals: laid · FnAppend32: laid · FnAppend64: laid · FnAppendTwice: laid · FnComplexJoined: laid · FnComplexJoined32: laid.
  DERIVED. THE GIVEN ROWS OF THIS SEAT. 8 by the template 'for every input the law returns true; each argument reads behind the call as it read before'; 0 by the template 'total and deterministic' (their statements: YtffooimnioigdaaDoorTotals.lean).
  GIVEN WITH THE SEED: the statements are not yours to turn. If you find one false, say at which input.
  Laid BY PROGRAM, IN A SANDBOX (cutbox-rows.mjs): the forced cells as the released guide's own fill.sh prints them over the translation 102c15fa0400abc8… (all of the seat's roots in one cut). By AI agents, Wed Nov 11 2026. No macro, syntax, notation, axiom, sorry.
-/
import Derived.Test.YtffooimnioigdaaDoorChecked
import GoSem.PinnedTables
import GoSem.Claim
import GoSem.ClaimJoined
import GoSem.ClaimMapViews
import Derived.JoinedTies
import Derived.KernelRfl
namespace Go.Proofs.YtffooimnioigdaaDoor
/- THE CELL 'sum', in the pinned program and in every row, IS THE sha256 OF THE DUMP (.gsa) THAT YtffooimnioigdaaDoorProg.lean LOADS. Nothing in Lean hashes anything: it is a label: what it is worth is what the hold of that sum in a sandbox is worth. -/
noncomputable def Tryd.pinned : Pinned := { name := "ytffooimnioigdaadoor", sum := "102c15fa0400abc8186641adc3b817966a75c32a1ffab1ecea49ee71c9ed3860", checked := Tryd.checked }
namespace Rows
def none {H : Type} : Left H := { results := [], args := [] }

/- WHAT THE LISTED PACKAGE-LEVEL VARIABLES READ AS WHEN THE CALL BEGINS. Each datum BY PROGRAM (the guide's laid-datum.mjs) off the statement by which the dump's own 'gosem.cut.vars' lays the variable. In a bare row this is a premise. The card (YtffooimnioigdaaDoorCards.lean) ties it to the program's text. -/
def laid_math_bits_deBruijn32tab {H : Type} : DataW H := .agg [.lit (.int .u8 0), .lit (.int .u8 1), .lit (.int .u8 28), .lit (.int .u8 2), .lit (.int .u8 29), .lit (.int .u8 14), .lit (.int .u8 24), .lit (.int .u8 3), .lit (.int .u8 30), .lit (.int .u8 22), .lit (.int .u8 20), .lit (.int .u8 15), .lit (.int .u8 25), .lit (.int .u8 17), .lit (.int .u8 4), .lit (.int .u8 8), .lit (.int .u8 31), .lit (.int .u8 27), .lit (.int .u8 13), .lit (.int .u8 23), .lit (.int .u8 21), .lit (.int .u8 19), .lit (.int .u8 16), .lit (.int .u8 7), .lit (.int .u8 26), .lit (.int .u8 12), .lit (.int .u8 18), .lit (.int .u8 6), .lit (.int .u8 11), .lit (.int .u8 5), .lit (.int .u8 10), .lit (.int .u8 9)]
def laid_math_bits_deBruijn64tab {H : Type} : DataW H := .agg [.lit (.int .u8 0), .lit (.int .u8 1), .lit (.int .u8 56), .lit (.int .u8 2), .lit (.int .u8 57), .lit (.int .u8 49), .lit (.int .u8 28), .lit (.int .u8 3), .lit (.int .u8 61), .lit (.int .u8 58), .lit (.int .u8 42), .lit (.int .u8 50), .lit (.int .u8 38), .lit (.int .u8 29), .lit (.int .u8 17), .lit (.int .u8 4), .lit (.int .u8 62), .lit (.int .u8 47), .lit (.int .u8 59), .lit (.int .u8 36), .lit (.int .u8 45), .lit (.int .u8 43), .lit (.int .u8 51), .lit (.int .u8 22), .lit (.int .u8 53), .lit (.int .u8 39), .lit (.int .u8 33), .lit (.int .u8 30), .lit (.int .u8 24), .lit (.int .u8 18), .lit (.int .u8 12), .lit (.int .u8 5), .lit (.int .u8 63), .lit (.int .u8 55), .lit (.int .u8 48), .lit (.int .u8 27), .lit (.int .u8 60), .lit (.int .u8 41), .lit (.int .u8 37), .lit (.int .u8 16), .lit (.int .u8 46), .lit (.int .u8 35), .lit (.int .u8 44), .lit (.int .u8 21), .lit (.int .u8 52), .lit (.int .u8 32), .lit (.int .u8 23), .lit (.int .u8 11), .lit (.int .u8 54), .lit (.int .u8 26), .lit (.int .u8 40), .lit (.int .u8 15), .lit (.int .u8 34), .lit (.int .u8 20), .lit (.int .u8 31), .lit (.int .u8 10), .lit (.int .u8 25), .lit (.int .u8 14), .lit (.int .u8 19), .lit (.int .u8 9), .lit (.int .u8 13), .lit (.int .u8 8), .lit (.int .u8 7), .lit (.int .u8 6)]
def laid_internal_strconv_optimize {H : Type} : DataW H := .lit (.bool true)
def laid_internal_strconv_uint64pow10 {H : Type} : DataW H := .agg [.lit (.int .u64 1), .lit (.int .u64 10), .lit (.int .u64 100), .lit (.int .u64 1000), .lit (.int .u64 10000), .lit (.int .u64 100000), .lit (.int .u64 1000000), .lit (.int .u64 10000000), .lit (.int .u64 100000000), .lit (.int .u64 1000000000), .lit (.int .u64 10000000000), .lit (.int .u64 100000000000), .lit (.int .u64 1000000000000), .lit (.int .u64 10000000000000), .lit (.int .u64 100000000000000), .lit (.int .u64 1000000000000000), .lit (.int .u64 10000000000000000), .lit (.int .u64 100000000000000000), .lit (.int .u64 1000000000000000000), .lit (.int .u64 10000000000000000000)]
/-- One of Go's own tables, pinned by name: the form's constant. -/
def laid_internal_strconv_leftcheats : DataW Unit := Go.Pinned.leftcheats
/-- One of Go's own tables, pinned by name: the form's constant. -/
def laid_internal_strconv_pow10Tab : DataW Unit := Go.Pinned.pow10Tab

/-- 'laws.FnNegative32': WHATEVER THE INPUT: true; the input reads as it did. -/
def fnNegative32Spec : ChangeSpec := { name := "fnNegative32", fn := fun _ => fun
  | [d1, d2, d3] => { results := [.lit (.bool true)], args := [d1, d2, d3] }
  | _ => none }
def fnNegative32Row : OpenClaim := { program := "ytffooimnioigdaadoor", sum := "102c15fa0400abc8186641adc3b817966a75c32a1ffab1ecea49ee71c9ed3860", func := "loop.example/lib-g03212/laws.FnNegative32", spec := "fnNegative32", inPlace := ["math.Float32frombits", "internal/strconv.float32bits", "internal/strconv.float64bits"], named := ["internal/strconv.optimize", "internal/strconv.uint64pow10", "math/bits.deBruijn32tab", "math/bits.deBruijn64tab", "internal/strconv.pow10Tab", "internal/strconv.leftcheats"], apart := false, laid := [("math/bits.deBruijn32tab", laid_math_bits_deBruijn32tab), ("math/bits.deBruijn64tab", laid_math_bits_deBruijn64tab), ("internal/strconv.optimize", laid_internal_strconv_optimize), ("internal/strconv.uint64pow10", laid_internal_strconv_uint64pow10), ("internal/strconv.leftcheats", laid_internal_strconv_leftcheats), ("internal/strconv.pow10Tab", laid_internal_strconv_pow10Tab)] }
def FnNegative32Said : Prop := fnNegative32Row.holds Tryd.pinned (OpenSpec.ofChange fnNegative32Spec)

/-- ITS FALSE NEIGHBOUR: 'it returns false'. Refute it at one input. -/
def fnNegative32Wrong : ChangeSpec := { name := "fnNegative32", fn := fun _ => fun
  | [d1, d2, d3] => { results := [.lit (.bool false)], args := [d1, d2, d3] }
  | _ => none }
def FnNegative32WrongFalsely : Prop := fnNegative32Row.holds Tryd.pinned (OpenSpec.ofChange fnNegative32Wrong)

/-- 'laws.FnNegative64': WHATEVER THE INPUT: true; the input reads as it did. -/
def fnNegative64Spec : ChangeSpec := { name := "fnNegative64", fn := fun _ => fun
  | [d1, d2, d3] => { results := [.lit (.bool true)], args := [d1, d2, d3] }
  | _ => none }
def fnNegative64Row : OpenClaim := { program := "ytffooimnioigdaadoor", sum := "102c15fa0400abc8186641adc3b817966a75c32a1ffab1ecea49ee71c9ed3860", func := "loop.example/lib-g03212/laws.FnNegative64", spec := "fnNegative64", inPlace := ["math.Float64frombits", "internal/strconv.float32bits", "internal/strconv.float64bits"], named := ["internal/strconv.optimize", "internal/strconv.uint64pow10", "math/bits.deBruijn32tab", "math/bits.deBruijn64tab", "internal/strconv.pow10Tab", "internal/strconv.leftcheats"], apart := false, laid := [("math/bits.deBruijn32tab", laid_math_bits_deBruijn32tab), ("math/bits.deBruijn64tab", laid_math_bits_deBruijn64tab), ("internal/strconv.optimize", laid_internal_strconv_optimize), ("internal/strconv.uint64pow10", laid_internal_strconv_uint64pow10), ("internal/strconv.leftcheats", laid_internal_strconv_leftcheats), ("internal/strconv.pow10Tab", laid_internal_strconv_pow10Tab)] }
def FnNegative64Said : Prop := fnNegative64Row.holds Tryd.pinned (OpenSpec.ofChange fnNegative64Spec)

/-- ITS FALSE NEIGHBOUR: 'it returns false'. Refute it at one input. -/
def fnNegative64Wrong : ChangeSpec := { name := "fnNegative64", fn := fun _ => fun
  | [d1, d2, d3] => { results := [.lit (.bool false)], args := [d1, d2, d3] }
  | _ => none }
def FnNegative64WrongFalsely : Prop := fnNegative64Row.holds Tryd.pinned (OpenSpec.ofChange fnNegative64Wrong)

/-- 'laws.FnCapitals': WHATEVER THE INPUT: true; the input reads as it did. -/
def fnCapitalsSpec : ChangeSpec := { name := "fnCapitals", fn := fun _ => fun
  | [d1, d2, d3] => { results := [.lit (.bool true)], args := [d1, d2, d3] }
  | _ => none }
def fnCapitalsRow : OpenClaim := { program := "ytffooimnioigdaadoor", sum := "102c15fa0400abc8186641adc3b817966a75c32a1ffab1ecea49ee71c9ed3860", func := "loop.example/lib-g03212/laws.FnCapitals", spec := "fnCapitals", inPlace := ["math.Float64frombits", "internal/strconv.float32bits", "internal/strconv.float64bits", "math.Float32frombits"], named := ["internal/strconv.optimize", "internal/strconv.uint64pow10", "math/bits.deBruijn32tab", "math/bits.deBruijn64tab", "internal/strconv.pow10Tab", "internal/strconv.leftcheats"], apart := false, laid := [("math/bits.deBruijn32tab", laid_math_bits_deBruijn32tab), ("math/bits.deBruijn64tab", laid_math_bits_deBruijn64tab), ("internal/strconv.optimize", laid_internal_strconv_optimize), ("internal/strconv.uint64pow10", laid_internal_strconv_uint64pow10), ("internal/strconv.leftcheats", laid_internal_strconv_leftcheats), ("internal/strconv.pow10Tab", laid_internal_strconv_pow10Tab)] }
def FnCapitalsSaid : Prop := fnCapitalsRow.holds Tryd.pinned (OpenSpec.ofChange fnCapitalsSpec)

/-- ITS FALSE NEIGHBOUR: 'it returns false'. Refute it at one input. -/
def fnCapitalsWrong : ChangeSpec := { name := "fnCapitals", fn := fun _ => fun
  | [d1, d2, d3] => { results := [.lit (.bool false)], args := [d1, d2, d3] }
  | _ => none }
def FnCapitalsWrongFalsely : Prop := fnCapitalsRow.holds Tryd.pinned (OpenSpec.ofChange fnCapitalsWrong)

/-- 'laws.FnAppend32': WHATEVER THE INPUT: true; the input reads as it did. -/
def fnAppend32Spec : ChangeSpec := { name := "fnAppend32", fn := fun _ => fun
  | [d1, d2, d3, d4] => { results := [.lit (.bool true)], args := [d1, d2, d3, d4] }
  | _ => none }
def fnAppend32Row : OpenClaim := { program := "ytffooimnioigdaadoor", sum := "102c15fa0400abc8186641adc3b817966a75c32a1ffab1ecea49ee71c9ed3860", func := "loop.example/lib-g03212/laws.FnAppend32", spec := "fnAppend32", inPlace := ["math.Float32frombits", "internal/strconv.float32bits", "internal/strconv.float64bits"], named := ["internal/strconv.optimize", "internal/strconv.uint64pow10", "math/bits.deBruijn32tab", "math/bits.deBruijn64tab", "internal/strconv.pow10Tab", "internal/strconv.leftcheats"], apart := false, laid := [("math/bits.deBruijn32tab", laid_math_bits_deBruijn32tab), ("math/bits.deBruijn64tab", laid_math_bits_deBruijn64tab), ("internal/strconv.optimize", laid_internal_strconv_optimize), ("internal/strconv.uint64pow10", laid_internal_strconv_uint64pow10), ("internal/strconv.leftcheats", laid_internal_strconv_leftcheats), ("internal/strconv.pow10Tab", laid_internal_strconv_pow10Tab)] }
def FnAppend32Said : Prop := fnAppend32Row.holds Tryd.pinned (OpenSpec.ofChange fnAppend32Spec)

/-- ITS FALSE NEIGHBOUR: 'it returns false'. Refute it at one input. -/
def fnAppend32Wrong : ChangeSpec := { name := "fnAppend32", fn := fun _ => fun
  | [d1, d2, d3, d4] => { results := [.lit (.bool false)], args := [d1, d2, d3, d4] }
  | _ => none }
def FnAppend32WrongFalsely : Prop := fnAppend32Row.holds Tryd.pinned (OpenSpec.ofChange fnAppend32Wrong)

/-- 'laws.FnAppend64': WHATEVER THE INPUT: true; the input reads as it did. -/
def fnAppend64Spec : ChangeSpec := { name := "fnAppend64", fn := fun _ => fun
  | [d1, d2, d3, d4] => { results := [.lit (.bool true)], args := [d1, d2, d3, d4] }
  | _ => none }
def fnAppend64Row : OpenClaim := { program := "ytffooimnioigdaadoor", sum := "102c15fa0400abc8186641adc3b817966a75c32a1ffab1ecea49ee71c9ed3860", func := "loop.example/lib-g03212/laws.FnAppend64", spec := "fnAppend64", inPlace := ["math.Float64frombits", "internal/strconv.float32bits", "internal/strconv.float64bits"], named := ["internal/strconv.optimize", "internal/strconv.uint64pow10", "math/bits.deBruijn32tab", "math/bits.deBruijn64tab", "internal/strconv.pow10Tab", "internal/strconv.leftcheats"], apart := false, laid := [("math/bits.deBruijn32tab", laid_math_bits_deBruijn32tab), ("math/bits.deBruijn64tab", laid_math_bits_deBruijn64tab), ("internal/strconv.optimize", laid_internal_strconv_optimize), ("internal/strconv.uint64pow10", laid_internal_strconv_uint64pow10), ("internal/strconv.leftcheats", laid_internal_strconv_leftcheats), ("internal/strconv.pow10Tab", laid_internal_strconv_pow10Tab)] }
def FnAppend64Said : Prop := fnAppend64Row.holds Tryd.pinned (OpenSpec.ofChange fnAppend64Spec)

/-- ITS FALSE NEIGHBOUR: 'it returns false'. Refute it at one input. -/
def fnAppend64Wrong : ChangeSpec := { name := "fnAppend64", fn := fun _ => fun
  | [d1, d2, d3, d4] => { results := [.lit (.bool false)], args := [d1, d2, d3, d4] }
  | _ => none }
def FnAppend64WrongFalsely : Prop := fnAppend64Row.holds Tryd.pinned (OpenSpec.ofChange fnAppend64Wrong)

/-- 'laws.FnAppendTwice': WHATEVER THE INPUT: true; the input reads as it did. -/
def fnAppendTwiceSpec : ChangeSpec := { name := "fnAppendTwice", fn := fun _ => fun
  | [d1, d2, d3, d4, d5] => { results := [.lit (.bool true)], args := [d1, d2, d3, d4, d5] }
  | _ => none }
def fnAppendTwiceRow : OpenClaim := { program := "ytffooimnioigdaadoor", sum := "102c15fa0400abc8186641adc3b817966a75c32a1ffab1ecea49ee71c9ed3860", func := "loop.example/lib-g03212/laws.FnAppendTwice", spec := "fnAppendTwice", inPlace := ["math.Float64frombits", "internal/strconv.float32bits", "internal/strconv.float64bits", "math.Float32frombits"], named := ["internal/strconv.optimize", "internal/strconv.uint64pow10", "math/bits.deBruijn32tab", "math/bits.deBruijn64tab", "internal/strconv.pow10Tab", "internal/strconv.leftcheats"], apart := false, laid := [("math/bits.deBruijn32tab", laid_math_bits_deBruijn32tab), ("math/bits.deBruijn64tab", laid_math_bits_deBruijn64tab), ("internal/strconv.optimize", laid_internal_strconv_optimize), ("internal/strconv.uint64pow10", laid_internal_strconv_uint64pow10), ("internal/strconv.leftcheats", laid_internal_strconv_leftcheats), ("internal/strconv.pow10Tab", laid_internal_strconv_pow10Tab)] }
def FnAppendTwiceSaid : Prop := fnAppendTwiceRow.holds Tryd.pinned (OpenSpec.ofChange fnAppendTwiceSpec)

/-- ITS FALSE NEIGHBOUR: 'it returns false'. Refute it at one input. -/
def fnAppendTwiceWrong : ChangeSpec := { name := "fnAppendTwice", fn := fun _ => fun
  | [d1, d2, d3, d4, d5] => { results := [.lit (.bool false)], args := [d1, d2, d3, d4, d5] }
  | _ => none }
def FnAppendTwiceWrongFalsely : Prop := fnAppendTwiceRow.holds Tryd.pinned (OpenSpec.ofChange fnAppendTwiceWrong)

/-- 'laws.FnComplexJoined': WHATEVER THE INPUT: true; the input reads as it did. -/
def fnComplexJoinedSpec : ChangeSpec := { name := "fnComplexJoined", fn := fun _ => fun
  | [d1, d2, d3, d4] => { results := [.lit (.bool true)], args := [d1, d2, d3, d4] }
  | _ => none }
def fnComplexJoinedRow : OpenClaim := { program := "ytffooimnioigdaadoor", sum := "102c15fa0400abc8186641adc3b817966a75c32a1ffab1ecea49ee71c9ed3860", func := "loop.example/lib-g03212/laws.FnComplexJoined", spec := "fnComplexJoined", inPlace := ["math.Float64frombits", "internal/strconv.float32bits", "internal/strconv.float64bits"], named := ["internal/strconv.optimize", "internal/strconv.uint64pow10", "math/bits.deBruijn32tab", "math/bits.deBruijn64tab", "internal/strconv.pow10Tab", "internal/strconv.leftcheats"], apart := false, laid := [("math/bits.deBruijn32tab", laid_math_bits_deBruijn32tab), ("math/bits.deBruijn64tab", laid_math_bits_deBruijn64tab), ("internal/strconv.optimize", laid_internal_strconv_optimize), ("internal/strconv.uint64pow10", laid_internal_strconv_uint64pow10), ("internal/strconv.leftcheats", laid_internal_strconv_leftcheats), ("internal/strconv.pow10Tab", laid_internal_strconv_pow10Tab)] }
def FnComplexJoinedSaid : Prop := fnComplexJoinedRow.holds Tryd.pinned (OpenSpec.ofChange fnComplexJoinedSpec)

/-- ITS FALSE NEIGHBOUR: 'it returns false'. Refute it at one input. -/
def fnComplexJoinedWrong : ChangeSpec := { name := "fnComplexJoined", fn := fun _ => fun
  | [d1, d2, d3, d4] => { results := [.lit (.bool false)], args := [d1, d2, d3, d4] }
  | _ => none }
def FnComplexJoinedWrongFalsely : Prop := fnComplexJoinedRow.holds Tryd.pinned (OpenSpec.ofChange fnComplexJoinedWrong)

/-- 'laws.FnComplexJoined32': WHATEVER THE INPUT: true; the input reads as it did. -/
def fnComplexJoined32Spec : ChangeSpec := { name := "fnComplexJoined32", fn := fun _ => fun
  | [d1, d2, d3, d4] => { results := [.lit (.bool true)], args := [d1, d2, d3, d4] }
  | _ => none }
def fnComplexJoined32Row : OpenClaim := { program := "ytffooimnioigdaadoor", sum := "102c15fa0400abc8186641adc3b817966a75c32a1ffab1ecea49ee71c9ed3860", func := "loop.example/lib-g03212/laws.FnComplexJoined32", spec := "fnComplexJoined32", inPlace := ["math.Float32frombits", "internal/strconv.float32bits", "internal/strconv.float64bits"], named := ["internal/strconv.optimize", "internal/strconv.uint64pow10", "math/bits.deBruijn32tab", "math/bits.deBruijn64tab", "internal/strconv.pow10Tab", "internal/strconv.leftcheats"], apart := false, laid := [("math/bits.deBruijn32tab", laid_math_bits_deBruijn32tab), ("math/bits.deBruijn64tab", laid_math_bits_deBruijn64tab), ("internal/strconv.optimize", laid_internal_strconv_optimize), ("internal/strconv.uint64pow10", laid_internal_strconv_uint64pow10), ("internal/strconv.leftcheats", laid_internal_strconv_leftcheats), ("internal/strconv.pow10Tab", laid_internal_strconv_pow10Tab)] }
def FnComplexJoined32Said : Prop := fnComplexJoined32Row.holds Tryd.pinned (OpenSpec.ofChange fnComplexJoined32Spec)

/-- ITS FALSE NEIGHBOUR: 'it returns false'. Refute it at one input. -/
def fnComplexJoined32Wrong : ChangeSpec := { name := "fnComplexJoined32", fn := fun _ => fun
  | [d1, d2, d3, d4] => { results := [.lit (.bool false)], args := [d1, d2, d3, d4] }
  | _ => none }
def FnComplexJoined32WrongFalsely : Prop := fnComplexJoined32Row.holds Tryd.pinned (OpenSpec.ofChange fnComplexJoined32Wrong)

/- THE SECOND FORM. 'bulk': how many values and letters a reading holds, each counted each time it is reached (what is shared counts as often as it is met; a slice's spare places count too). A statement '..UptoSaid' is the law's where the arguments, and the package variables that the reading takes, are together of bulk at most 1048576: NARROWER than '..Said'. Prove '..Said' where nothing that the law and all that it calls make is longer than what came in: it says more and counts as full. Else prove '..UptoSaid'. A law counts once. -/
mutual
def uptoBulk {H : Type} : DataW H → Nat
  | .lit (.string bytes) => bytes.length + 1
  | .lit _ => 1
  | .nil => 1
  | .ptr d => uptoBulk d + 1
  | .slice elems spare => uptoBulkAll elems + uptoBulkAll spare + 1
  | .agg parts => uptoBulkAll parts + 1
  | .iface _ d => uptoBulk d + 1
  | .map entries => uptoBulkEntries entries + 1
  | .held _ => 1
def uptoBulkAll {H : Type} : List (DataW H) → Nat
  | [] => 0
  | d :: r => uptoBulk d + uptoBulkAll r
def uptoBulkEntries {H : Type} : List (Lit × DataW H) → Nat
  | [] => 0
  | x :: r => uptoBulkEntry x + uptoBulkEntries r
def uptoBulkEntry {H : Type} : Lit × DataW H → Nat
  | (.string bytes, d) => bytes.length + uptoBulk d + 1
  | (_, d) => uptoBulk d + 1
 end
def uptoSmall : (H : Type) → List (DataW H) → Bool := fun _ ds => decide (uptoBulkAll ds ≤ 1048576)
def OpenSpec.upto (s : _root_.Go.ChangeSpec) : _root_.Go.OpenSpec := { _root_.Go.OpenSpec.ofChange s with cond := some uptoSmall }

/-- 'laws.FnNegative32', WHERE WHAT IT READS IS OF BULK AT MOST 1048576: true; the input reads as it did. -/
def fnNegative32UptoRow : OpenClaim := { program := "ytffooimnioigdaadoor", sum := "102c15fa0400abc8186641adc3b817966a75c32a1ffab1ecea49ee71c9ed3860", func := "loop.example/lib-g03212/laws.FnNegative32", spec := "fnNegative32", inPlace := ["math.Float32frombits", "internal/strconv.float32bits", "internal/strconv.float64bits"], named := ["internal/strconv.optimize", "internal/strconv.uint64pow10", "math/bits.deBruijn32tab", "math/bits.deBruijn64tab", "internal/strconv.pow10Tab", "internal/strconv.leftcheats"], apart := false, laid := [("math/bits.deBruijn32tab", laid_math_bits_deBruijn32tab), ("math/bits.deBruijn64tab", laid_math_bits_deBruijn64tab), ("internal/strconv.optimize", laid_internal_strconv_optimize), ("internal/strconv.uint64pow10", laid_internal_strconv_uint64pow10), ("internal/strconv.leftcheats", laid_internal_strconv_leftcheats), ("internal/strconv.pow10Tab", laid_internal_strconv_pow10Tab)], narrowed := true }
def FnNegative32UptoSaid : Prop := fnNegative32UptoRow.holds Tryd.pinned (OpenSpec.upto fnNegative32Spec)

/-- 'laws.FnNegative64', WHERE WHAT IT READS IS OF BULK AT MOST 1048576: true; the input reads as it did. -/
def fnNegative64UptoRow : OpenClaim := { program := "ytffooimnioigdaadoor", sum := "102c15fa0400abc8186641adc3b817966a75c32a1ffab1ecea49ee71c9ed3860", func := "loop.example/lib-g03212/laws.FnNegative64", spec := "fnNegative64", inPlace := ["math.Float64frombits", "internal/strconv.float32bits", "internal/strconv.float64bits"], named := ["internal/strconv.optimize", "internal/strconv.uint64pow10", "math/bits.deBruijn32tab", "math/bits.deBruijn64tab", "internal/strconv.pow10Tab", "internal/strconv.leftcheats"], apart := false, laid := [("math/bits.deBruijn32tab", laid_math_bits_deBruijn32tab), ("math/bits.deBruijn64tab", laid_math_bits_deBruijn64tab), ("internal/strconv.optimize", laid_internal_strconv_optimize), ("internal/strconv.uint64pow10", laid_internal_strconv_uint64pow10), ("internal/strconv.leftcheats", laid_internal_strconv_leftcheats), ("internal/strconv.pow10Tab", laid_internal_strconv_pow10Tab)], narrowed := true }
def FnNegative64UptoSaid : Prop := fnNegative64UptoRow.holds Tryd.pinned (OpenSpec.upto fnNegative64Spec)

/-- 'laws.FnCapitals', WHERE WHAT IT READS IS OF BULK AT MOST 1048576: true; the input reads as it did. -/
def fnCapitalsUptoRow : OpenClaim := { program := "ytffooimnioigdaadoor", sum := "102c15fa0400abc8186641adc3b817966a75c32a1ffab1ecea49ee71c9ed3860", func := "loop.example/lib-g03212/laws.FnCapitals", spec := "fnCapitals", inPlace := ["math.Float64frombits", "internal/strconv.float32bits", "internal/strconv.float64bits", "math.Float32frombits"], named := ["internal/strconv.optimize", "internal/strconv.uint64pow10", "math/bits.deBruijn32tab", "math/bits.deBruijn64tab", "internal/strconv.pow10Tab", "internal/strconv.leftcheats"], apart := false, laid := [("math/bits.deBruijn32tab", laid_math_bits_deBruijn32tab), ("math/bits.deBruijn64tab", laid_math_bits_deBruijn64tab), ("internal/strconv.optimize", laid_internal_strconv_optimize), ("internal/strconv.uint64pow10", laid_internal_strconv_uint64pow10), ("internal/strconv.leftcheats", laid_internal_strconv_leftcheats), ("internal/strconv.pow10Tab", laid_internal_strconv_pow10Tab)], narrowed := true }
def FnCapitalsUptoSaid : Prop := fnCapitalsUptoRow.holds Tryd.pinned (OpenSpec.upto fnCapitalsSpec)

/-- 'laws.FnAppend32', WHERE WHAT IT READS IS OF BULK AT MOST 1048576: true; the input reads as it did. -/
def fnAppend32UptoRow : OpenClaim := { program := "ytffooimnioigdaadoor", sum := "102c15fa0400abc8186641adc3b817966a75c32a1ffab1ecea49ee71c9ed3860", func := "loop.example/lib-g03212/laws.FnAppend32", spec := "fnAppend32", inPlace := ["math.Float32frombits", "internal/strconv.float32bits", "internal/strconv.float64bits"], named := ["internal/strconv.optimize", "internal/strconv.uint64pow10", "math/bits.deBruijn32tab", "math/bits.deBruijn64tab", "internal/strconv.pow10Tab", "internal/strconv.leftcheats"], apart := false, laid := [("math/bits.deBruijn32tab", laid_math_bits_deBruijn32tab), ("math/bits.deBruijn64tab", laid_math_bits_deBruijn64tab), ("internal/strconv.optimize", laid_internal_strconv_optimize), ("internal/strconv.uint64pow10", laid_internal_strconv_uint64pow10), ("internal/strconv.leftcheats", laid_internal_strconv_leftcheats), ("internal/strconv.pow10Tab", laid_internal_strconv_pow10Tab)], narrowed := true }
def FnAppend32UptoSaid : Prop := fnAppend32UptoRow.holds Tryd.pinned (OpenSpec.upto fnAppend32Spec)

/-- 'laws.FnAppend64', WHERE WHAT IT READS IS OF BULK AT MOST 1048576: true; the input reads as it did. -/
def fnAppend64UptoRow : OpenClaim := { program := "ytffooimnioigdaadoor", sum := "102c15fa0400abc8186641adc3b817966a75c32a1ffab1ecea49ee71c9ed3860", func := "loop.example/lib-g03212/laws.FnAppend64", spec := "fnAppend64", inPlace := ["math.Float64frombits", "internal/strconv.float32bits", "internal/strconv.float64bits"], named := ["internal/strconv.optimize", "internal/strconv.uint64pow10", "math/bits.deBruijn32tab", "math/bits.deBruijn64tab", "internal/strconv.pow10Tab", "internal/strconv.leftcheats"], apart := false, laid := [("math/bits.deBruijn32tab", laid_math_bits_deBruijn32tab), ("math/bits.deBruijn64tab", laid_math_bits_deBruijn64tab), ("internal/strconv.optimize", laid_internal_strconv_optimize), ("internal/strconv.uint64pow10", laid_internal_strconv_uint64pow10), ("internal/strconv.leftcheats", laid_internal_strconv_leftcheats), ("internal/strconv.pow10Tab", laid_internal_strconv_pow10Tab)], narrowed := true }
def FnAppend64UptoSaid : Prop := fnAppend64UptoRow.holds Tryd.pinned (OpenSpec.upto fnAppend64Spec)

/-- 'laws.FnAppendTwice', WHERE WHAT IT READS IS OF BULK AT MOST 1048576: true; the input reads as it did. -/
def fnAppendTwiceUptoRow : OpenClaim := { program := "ytffooimnioigdaadoor", sum := "102c15fa0400abc8186641adc3b817966a75c32a1ffab1ecea49ee71c9ed3860", func := "loop.example/lib-g03212/laws.FnAppendTwice", spec := "fnAppendTwice", inPlace := ["math.Float64frombits", "internal/strconv.float32bits", "internal/strconv.float64bits", "math.Float32frombits"], named := ["internal/strconv.optimize", "internal/strconv.uint64pow10", "math/bits.deBruijn32tab", "math/bits.deBruijn64tab", "internal/strconv.pow10Tab", "internal/strconv.leftcheats"], apart := false, laid := [("math/bits.deBruijn32tab", laid_math_bits_deBruijn32tab), ("math/bits.deBruijn64tab", laid_math_bits_deBruijn64tab), ("internal/strconv.optimize", laid_internal_strconv_optimize), ("internal/strconv.uint64pow10", laid_internal_strconv_uint64pow10), ("internal/strconv.leftcheats", laid_internal_strconv_leftcheats), ("internal/strconv.pow10Tab", laid_internal_strconv_pow10Tab)], narrowed := true }
def FnAppendTwiceUptoSaid : Prop := fnAppendTwiceUptoRow.holds Tryd.pinned (OpenSpec.upto fnAppendTwiceSpec)

/-- 'laws.FnComplexJoined', WHERE WHAT IT READS IS OF BULK AT MOST 1048576: true; the input reads as it did. -/
def fnComplexJoinedUptoRow : OpenClaim := { program := "ytffooimnioigdaadoor", sum := "102c15fa0400abc8186641adc3b817966a75c32a1ffab1ecea49ee71c9ed3860", func := "loop.example/lib-g03212/laws.FnComplexJoined", spec := "fnComplexJoined", inPlace := ["math.Float64frombits", "internal/strconv.float32bits", "internal/strconv.float64bits"], named := ["internal/strconv.optimize", "internal/strconv.uint64pow10", "math/bits.deBruijn32tab", "math/bits.deBruijn64tab", "internal/strconv.pow10Tab", "internal/strconv.leftcheats"], apart := false, laid := [("math/bits.deBruijn32tab", laid_math_bits_deBruijn32tab), ("math/bits.deBruijn64tab", laid_math_bits_deBruijn64tab), ("internal/strconv.optimize", laid_internal_strconv_optimize), ("internal/strconv.uint64pow10", laid_internal_strconv_uint64pow10), ("internal/strconv.leftcheats", laid_internal_strconv_leftcheats), ("internal/strconv.pow10Tab", laid_internal_strconv_pow10Tab)], narrowed := true }
def FnComplexJoinedUptoSaid : Prop := fnComplexJoinedUptoRow.holds Tryd.pinned (OpenSpec.upto fnComplexJoinedSpec)

/-- 'laws.FnComplexJoined32', WHERE WHAT IT READS IS OF BULK AT MOST 1048576: true; the input reads as it did. -/
def fnComplexJoined32UptoRow : OpenClaim := { program := "ytffooimnioigdaadoor", sum := "102c15fa0400abc8186641adc3b817966a75c32a1ffab1ecea49ee71c9ed3860", func := "loop.example/lib-g03212/laws.FnComplexJoined32", spec := "fnComplexJoined32", inPlace := ["math.Float32frombits", "internal/strconv.float32bits", "internal/strconv.float64bits"], named := ["internal/strconv.optimize", "internal/strconv.uint64pow10", "math/bits.deBruijn32tab", "math/bits.deBruijn64tab", "internal/strconv.pow10Tab", "internal/strconv.leftcheats"], apart := false, laid := [("math/bits.deBruijn32tab", laid_math_bits_deBruijn32tab), ("math/bits.deBruijn64tab", laid_math_bits_deBruijn64tab), ("internal/strconv.optimize", laid_internal_strconv_optimize), ("internal/strconv.uint64pow10", laid_internal_strconv_uint64pow10), ("internal/strconv.leftcheats", laid_internal_strconv_leftcheats), ("internal/strconv.pow10Tab", laid_internal_strconv_pow10Tab)], narrowed := true }
def FnComplexJoined32UptoSaid : Prop := fnComplexJoined32UptoRow.holds Tryd.pinned (OpenSpec.upto fnComplexJoined32Spec)

end Rows
end Go.Proofs.YtffooimnioigdaaDoor
