/-
  NARROWER THAN 'FOR EVERY INPUT', by the rows' own cells (each row's printed sentence says how): FnX64: laid · FnX32: laid · FnExact64: laid · FnHexExact: laid · FnFixedValue: laid · FnGeneralValue: laid · FnF64: laid · FnF32: laid · FnE64: laid · FnE32: laid · FnTwoSizes: laid · FnHalves64: laid.
  DERIVED. THE GIVEN ROWS OF THIS SEAT. 12 by the template 'for every input the law returns true; each argument reads behind the call as it read before'; 0 by the template 'total and deterministic' (their statements: YthkcfpmlgoomfaaDoorTotals.lean).
  GIVEN WITH THE SEED: the statements are not yours to turn. If you find one false, say at which input.
  Laid BY PROGRAM, IN A SANDBOX (cutbox-rows.mjs): the forced cells as the released guide's own fill.sh prints them over the translation 8011d27ff097f341… (all of the seat's roots in one cut). By AI agents, Wed Nov 11 2026. No macro, syntax, notation, axiom, sorry.
-/
import Derived.Test.YthkcfpmlgoomfaaDoorChecked
import GoSem.PinnedTables
import GoSem.Claim
import GoSem.ClaimJoined
import GoSem.ClaimMapViews
import Derived.JoinedTies
import Derived.KernelRfl
namespace Go.Proofs.YthkcfpmlgoomfaaDoor
/- THE CELL 'sum', in the pinned program and in every row, IS THE sha256 OF THE DUMP (.gsa) THAT YthkcfpmlgoomfaaDoorProg.lean LOADS. Nothing in Lean hashes anything: it is a label: what it is worth is what the hold of that sum in a sandbox is worth. -/
noncomputable def Tryd.pinned : Pinned := { name := "ythkcfpmlgoomfaadoor", sum := "8011d27ff097f341b17cea6c3fd4e34b5adcea354bb3f7735be8b47b8b3fa6e4", checked := Tryd.checked }
namespace Rows
def none {H : Type} : Left H := { results := [], args := [] }

/- WHAT THE LISTED PACKAGE-LEVEL VARIABLES READ AS WHEN THE CALL BEGINS. Each datum BY PROGRAM (the guide's laid-datum.mjs) off the statement by which the dump's own 'gosem.cut.vars' lays the variable. In a bare row this is a premise. The card (YthkcfpmlgoomfaaDoorCards.lean) ties it to the program's text. -/
def laid_math_bits_deBruijn32tab {H : Type} : DataW H := .agg [.lit (.int .u8 0), .lit (.int .u8 1), .lit (.int .u8 28), .lit (.int .u8 2), .lit (.int .u8 29), .lit (.int .u8 14), .lit (.int .u8 24), .lit (.int .u8 3), .lit (.int .u8 30), .lit (.int .u8 22), .lit (.int .u8 20), .lit (.int .u8 15), .lit (.int .u8 25), .lit (.int .u8 17), .lit (.int .u8 4), .lit (.int .u8 8), .lit (.int .u8 31), .lit (.int .u8 27), .lit (.int .u8 13), .lit (.int .u8 23), .lit (.int .u8 21), .lit (.int .u8 19), .lit (.int .u8 16), .lit (.int .u8 7), .lit (.int .u8 26), .lit (.int .u8 12), .lit (.int .u8 18), .lit (.int .u8 6), .lit (.int .u8 11), .lit (.int .u8 5), .lit (.int .u8 10), .lit (.int .u8 9)]
def laid_math_bits_deBruijn64tab {H : Type} : DataW H := .agg [.lit (.int .u8 0), .lit (.int .u8 1), .lit (.int .u8 56), .lit (.int .u8 2), .lit (.int .u8 57), .lit (.int .u8 49), .lit (.int .u8 28), .lit (.int .u8 3), .lit (.int .u8 61), .lit (.int .u8 58), .lit (.int .u8 42), .lit (.int .u8 50), .lit (.int .u8 38), .lit (.int .u8 29), .lit (.int .u8 17), .lit (.int .u8 4), .lit (.int .u8 62), .lit (.int .u8 47), .lit (.int .u8 59), .lit (.int .u8 36), .lit (.int .u8 45), .lit (.int .u8 43), .lit (.int .u8 51), .lit (.int .u8 22), .lit (.int .u8 53), .lit (.int .u8 39), .lit (.int .u8 33), .lit (.int .u8 30), .lit (.int .u8 24), .lit (.int .u8 18), .lit (.int .u8 12), .lit (.int .u8 5), .lit (.int .u8 63), .lit (.int .u8 55), .lit (.int .u8 48), .lit (.int .u8 27), .lit (.int .u8 60), .lit (.int .u8 41), .lit (.int .u8 37), .lit (.int .u8 16), .lit (.int .u8 46), .lit (.int .u8 35), .lit (.int .u8 44), .lit (.int .u8 21), .lit (.int .u8 52), .lit (.int .u8 32), .lit (.int .u8 23), .lit (.int .u8 11), .lit (.int .u8 54), .lit (.int .u8 26), .lit (.int .u8 40), .lit (.int .u8 15), .lit (.int .u8 34), .lit (.int .u8 20), .lit (.int .u8 31), .lit (.int .u8 10), .lit (.int .u8 25), .lit (.int .u8 14), .lit (.int .u8 19), .lit (.int .u8 9), .lit (.int .u8 13), .lit (.int .u8 8), .lit (.int .u8 7), .lit (.int .u8 6)]
def laid_internal_strconv_optimize {H : Type} : DataW H := .lit (.bool true)
def laid_internal_strconv_uint64pow10 {H : Type} : DataW H := .agg [.lit (.int .u64 1), .lit (.int .u64 10), .lit (.int .u64 100), .lit (.int .u64 1000), .lit (.int .u64 10000), .lit (.int .u64 100000), .lit (.int .u64 1000000), .lit (.int .u64 10000000), .lit (.int .u64 100000000), .lit (.int .u64 1000000000), .lit (.int .u64 10000000000), .lit (.int .u64 100000000000), .lit (.int .u64 1000000000000), .lit (.int .u64 10000000000000), .lit (.int .u64 100000000000000), .lit (.int .u64 1000000000000000), .lit (.int .u64 10000000000000000), .lit (.int .u64 100000000000000000), .lit (.int .u64 1000000000000000000), .lit (.int .u64 10000000000000000000)]
/-- One of Go's own tables, pinned by name: the form's constant. -/
def laid_internal_strconv_leftcheats : DataW Unit := Go.Pinned.leftcheats
/-- One of Go's own tables, pinned by name: the form's constant. -/
def laid_internal_strconv_pow10Tab : DataW Unit := Go.Pinned.pow10Tab

/-- 'laws.FnX64': WHATEVER THE INPUT: true; the input reads as it did. -/
def fnX64Spec : ChangeSpec := { name := "fnX64", fn := fun _ => fun
  | [d1, d2] => { results := [.lit (.bool true)], args := [d1, d2] }
  | _ => none }
def fnX64Row : OpenClaim := { program := "ythkcfpmlgoomfaadoor", sum := "8011d27ff097f341b17cea6c3fd4e34b5adcea354bb3f7735be8b47b8b3fa6e4", func := "loop.example/lib-g03212/laws.FnX64", spec := "fnX64", inPlace := ["math.Float64frombits", "internal/strconv.float32bits", "internal/strconv.float64bits"], named := ["internal/strconv.optimize", "internal/strconv.uint64pow10", "math/bits.deBruijn32tab", "math/bits.deBruijn64tab", "internal/strconv.pow10Tab", "internal/strconv.leftcheats"], apart := false, laid := [("math/bits.deBruijn32tab", laid_math_bits_deBruijn32tab), ("math/bits.deBruijn64tab", laid_math_bits_deBruijn64tab), ("internal/strconv.optimize", laid_internal_strconv_optimize), ("internal/strconv.uint64pow10", laid_internal_strconv_uint64pow10), ("internal/strconv.leftcheats", laid_internal_strconv_leftcheats), ("internal/strconv.pow10Tab", laid_internal_strconv_pow10Tab)] }
def FnX64Said : Prop := fnX64Row.holds Tryd.pinned (OpenSpec.ofChange fnX64Spec)

/-- ITS FALSE NEIGHBOUR: 'it returns false'. Refute it at one input. -/
def fnX64Wrong : ChangeSpec := { name := "fnX64", fn := fun _ => fun
  | [d1, d2] => { results := [.lit (.bool false)], args := [d1, d2] }
  | _ => none }
def FnX64WrongFalsely : Prop := fnX64Row.holds Tryd.pinned (OpenSpec.ofChange fnX64Wrong)

/-- 'laws.FnX32': WHATEVER THE INPUT: true; the input reads as it did. -/
def fnX32Spec : ChangeSpec := { name := "fnX32", fn := fun _ => fun
  | [d1, d2] => { results := [.lit (.bool true)], args := [d1, d2] }
  | _ => none }
def fnX32Row : OpenClaim := { program := "ythkcfpmlgoomfaadoor", sum := "8011d27ff097f341b17cea6c3fd4e34b5adcea354bb3f7735be8b47b8b3fa6e4", func := "loop.example/lib-g03212/laws.FnX32", spec := "fnX32", inPlace := ["math.Float32frombits", "internal/strconv.float32bits", "internal/strconv.float64bits"], named := ["internal/strconv.optimize", "internal/strconv.uint64pow10", "math/bits.deBruijn32tab", "math/bits.deBruijn64tab", "internal/strconv.pow10Tab", "internal/strconv.leftcheats"], apart := false, laid := [("math/bits.deBruijn32tab", laid_math_bits_deBruijn32tab), ("math/bits.deBruijn64tab", laid_math_bits_deBruijn64tab), ("internal/strconv.optimize", laid_internal_strconv_optimize), ("internal/strconv.uint64pow10", laid_internal_strconv_uint64pow10), ("internal/strconv.leftcheats", laid_internal_strconv_leftcheats), ("internal/strconv.pow10Tab", laid_internal_strconv_pow10Tab)] }
def FnX32Said : Prop := fnX32Row.holds Tryd.pinned (OpenSpec.ofChange fnX32Spec)

/-- ITS FALSE NEIGHBOUR: 'it returns false'. Refute it at one input. -/
def fnX32Wrong : ChangeSpec := { name := "fnX32", fn := fun _ => fun
  | [d1, d2] => { results := [.lit (.bool false)], args := [d1, d2] }
  | _ => none }
def FnX32WrongFalsely : Prop := fnX32Row.holds Tryd.pinned (OpenSpec.ofChange fnX32Wrong)

/-- 'laws.FnExact64': WHATEVER THE INPUT: true; the input reads as it did. -/
def fnExact64Spec : ChangeSpec := { name := "fnExact64", fn := fun _ => fun
  | [d1, d2] => { results := [.lit (.bool true)], args := [d1, d2] }
  | _ => none }
def fnExact64Row : OpenClaim := { program := "ythkcfpmlgoomfaadoor", sum := "8011d27ff097f341b17cea6c3fd4e34b5adcea354bb3f7735be8b47b8b3fa6e4", func := "loop.example/lib-g03212/laws.FnExact64", spec := "fnExact64", inPlace := ["math.Float64frombits", "internal/strconv.float32bits", "internal/strconv.float64bits"], named := ["internal/strconv.optimize", "internal/strconv.uint64pow10", "math/bits.deBruijn32tab", "math/bits.deBruijn64tab", "internal/strconv.pow10Tab", "internal/strconv.leftcheats"], apart := false, laid := [("math/bits.deBruijn32tab", laid_math_bits_deBruijn32tab), ("math/bits.deBruijn64tab", laid_math_bits_deBruijn64tab), ("internal/strconv.optimize", laid_internal_strconv_optimize), ("internal/strconv.uint64pow10", laid_internal_strconv_uint64pow10), ("internal/strconv.leftcheats", laid_internal_strconv_leftcheats), ("internal/strconv.pow10Tab", laid_internal_strconv_pow10Tab)] }
def FnExact64Said : Prop := fnExact64Row.holds Tryd.pinned (OpenSpec.ofChange fnExact64Spec)

/-- ITS FALSE NEIGHBOUR: 'it returns false'. Refute it at one input. -/
def fnExact64Wrong : ChangeSpec := { name := "fnExact64", fn := fun _ => fun
  | [d1, d2] => { results := [.lit (.bool false)], args := [d1, d2] }
  | _ => none }
def FnExact64WrongFalsely : Prop := fnExact64Row.holds Tryd.pinned (OpenSpec.ofChange fnExact64Wrong)

/-- 'laws.FnHexExact': WHATEVER THE INPUT: true; the input reads as it did. -/
def fnHexExactSpec : ChangeSpec := { name := "fnHexExact", fn := fun _ => fun
  | [d1, d2] => { results := [.lit (.bool true)], args := [d1, d2] }
  | _ => none }
def fnHexExactRow : OpenClaim := { program := "ythkcfpmlgoomfaadoor", sum := "8011d27ff097f341b17cea6c3fd4e34b5adcea354bb3f7735be8b47b8b3fa6e4", func := "loop.example/lib-g03212/laws.FnHexExact", spec := "fnHexExact", inPlace := ["math.Float64frombits", "internal/strconv.float32bits", "internal/strconv.float64bits", "math.Float32frombits"], named := ["internal/strconv.optimize", "internal/strconv.uint64pow10", "math/bits.deBruijn32tab", "math/bits.deBruijn64tab", "internal/strconv.pow10Tab", "internal/strconv.leftcheats"], apart := false, laid := [("math/bits.deBruijn32tab", laid_math_bits_deBruijn32tab), ("math/bits.deBruijn64tab", laid_math_bits_deBruijn64tab), ("internal/strconv.optimize", laid_internal_strconv_optimize), ("internal/strconv.uint64pow10", laid_internal_strconv_uint64pow10), ("internal/strconv.leftcheats", laid_internal_strconv_leftcheats), ("internal/strconv.pow10Tab", laid_internal_strconv_pow10Tab)] }
def FnHexExactSaid : Prop := fnHexExactRow.holds Tryd.pinned (OpenSpec.ofChange fnHexExactSpec)

/-- ITS FALSE NEIGHBOUR: 'it returns false'. Refute it at one input. -/
def fnHexExactWrong : ChangeSpec := { name := "fnHexExact", fn := fun _ => fun
  | [d1, d2] => { results := [.lit (.bool false)], args := [d1, d2] }
  | _ => none }
def FnHexExactWrongFalsely : Prop := fnHexExactRow.holds Tryd.pinned (OpenSpec.ofChange fnHexExactWrong)

/-- 'laws.FnFixedValue': WHATEVER THE INPUT: true; the input reads as it did. -/
def fnFixedValueSpec : ChangeSpec := { name := "fnFixedValue", fn := fun _ => fun
  | [d1, d2] => { results := [.lit (.bool true)], args := [d1, d2] }
  | _ => none }
def fnFixedValueRow : OpenClaim := { program := "ythkcfpmlgoomfaadoor", sum := "8011d27ff097f341b17cea6c3fd4e34b5adcea354bb3f7735be8b47b8b3fa6e4", func := "loop.example/lib-g03212/laws.FnFixedValue", spec := "fnFixedValue", inPlace := ["math.Float64frombits", "internal/strconv.float32bits", "internal/strconv.float64bits", "math.Float32frombits"], named := ["internal/strconv.optimize", "internal/strconv.uint64pow10", "math/bits.deBruijn32tab", "math/bits.deBruijn64tab", "internal/strconv.pow10Tab", "internal/strconv.leftcheats"], apart := false, laid := [("math/bits.deBruijn32tab", laid_math_bits_deBruijn32tab), ("math/bits.deBruijn64tab", laid_math_bits_deBruijn64tab), ("internal/strconv.optimize", laid_internal_strconv_optimize), ("internal/strconv.uint64pow10", laid_internal_strconv_uint64pow10), ("internal/strconv.leftcheats", laid_internal_strconv_leftcheats), ("internal/strconv.pow10Tab", laid_internal_strconv_pow10Tab)] }
def FnFixedValueSaid : Prop := fnFixedValueRow.holds Tryd.pinned (OpenSpec.ofChange fnFixedValueSpec)

/-- ITS FALSE NEIGHBOUR: 'it returns false'. Refute it at one input. -/
def fnFixedValueWrong : ChangeSpec := { name := "fnFixedValue", fn := fun _ => fun
  | [d1, d2] => { results := [.lit (.bool false)], args := [d1, d2] }
  | _ => none }
def FnFixedValueWrongFalsely : Prop := fnFixedValueRow.holds Tryd.pinned (OpenSpec.ofChange fnFixedValueWrong)

/-- 'laws.FnGeneralValue': WHATEVER THE INPUT: true; the input reads as it did. -/
def fnGeneralValueSpec : ChangeSpec := { name := "fnGeneralValue", fn := fun _ => fun
  | [d1, d2, d3] => { results := [.lit (.bool true)], args := [d1, d2, d3] }
  | _ => none }
def fnGeneralValueRow : OpenClaim := { program := "ythkcfpmlgoomfaadoor", sum := "8011d27ff097f341b17cea6c3fd4e34b5adcea354bb3f7735be8b47b8b3fa6e4", func := "loop.example/lib-g03212/laws.FnGeneralValue", spec := "fnGeneralValue", inPlace := ["math.Float64frombits", "internal/strconv.float32bits", "internal/strconv.float64bits", "math.Float32frombits"], named := ["internal/strconv.optimize", "internal/strconv.uint64pow10", "math/bits.deBruijn32tab", "math/bits.deBruijn64tab", "internal/strconv.pow10Tab", "internal/strconv.leftcheats"], apart := false, laid := [("math/bits.deBruijn32tab", laid_math_bits_deBruijn32tab), ("math/bits.deBruijn64tab", laid_math_bits_deBruijn64tab), ("internal/strconv.optimize", laid_internal_strconv_optimize), ("internal/strconv.uint64pow10", laid_internal_strconv_uint64pow10), ("internal/strconv.leftcheats", laid_internal_strconv_leftcheats), ("internal/strconv.pow10Tab", laid_internal_strconv_pow10Tab)] }
def FnGeneralValueSaid : Prop := fnGeneralValueRow.holds Tryd.pinned (OpenSpec.ofChange fnGeneralValueSpec)

/-- ITS FALSE NEIGHBOUR: 'it returns false'. Refute it at one input. -/
def fnGeneralValueWrong : ChangeSpec := { name := "fnGeneralValue", fn := fun _ => fun
  | [d1, d2, d3] => { results := [.lit (.bool false)], args := [d1, d2, d3] }
  | _ => none }
def FnGeneralValueWrongFalsely : Prop := fnGeneralValueRow.holds Tryd.pinned (OpenSpec.ofChange fnGeneralValueWrong)

/-- 'laws.FnF64': WHATEVER THE INPUT: true; the input reads as it did. -/
def fnF64Spec : ChangeSpec := { name := "fnF64", fn := fun _ => fun
  | [d1, d2] => { results := [.lit (.bool true)], args := [d1, d2] }
  | _ => none }
def fnF64Row : OpenClaim := { program := "ythkcfpmlgoomfaadoor", sum := "8011d27ff097f341b17cea6c3fd4e34b5adcea354bb3f7735be8b47b8b3fa6e4", func := "loop.example/lib-g03212/laws.FnF64", spec := "fnF64", inPlace := ["math.Float64frombits", "internal/strconv.float32bits", "internal/strconv.float64bits"], named := ["internal/strconv.optimize", "internal/strconv.uint64pow10", "math/bits.deBruijn32tab", "math/bits.deBruijn64tab", "internal/strconv.pow10Tab", "internal/strconv.leftcheats"], apart := false, laid := [("math/bits.deBruijn32tab", laid_math_bits_deBruijn32tab), ("math/bits.deBruijn64tab", laid_math_bits_deBruijn64tab), ("internal/strconv.optimize", laid_internal_strconv_optimize), ("internal/strconv.uint64pow10", laid_internal_strconv_uint64pow10), ("internal/strconv.leftcheats", laid_internal_strconv_leftcheats), ("internal/strconv.pow10Tab", laid_internal_strconv_pow10Tab)] }
def FnF64Said : Prop := fnF64Row.holds Tryd.pinned (OpenSpec.ofChange fnF64Spec)

/-- ITS FALSE NEIGHBOUR: 'it returns false'. Refute it at one input. -/
def fnF64Wrong : ChangeSpec := { name := "fnF64", fn := fun _ => fun
  | [d1, d2] => { results := [.lit (.bool false)], args := [d1, d2] }
  | _ => none }
def FnF64WrongFalsely : Prop := fnF64Row.holds Tryd.pinned (OpenSpec.ofChange fnF64Wrong)

/-- 'laws.FnF32': WHATEVER THE INPUT: true; the input reads as it did. -/
def fnF32Spec : ChangeSpec := { name := "fnF32", fn := fun _ => fun
  | [d1, d2] => { results := [.lit (.bool true)], args := [d1, d2] }
  | _ => none }
def fnF32Row : OpenClaim := { program := "ythkcfpmlgoomfaadoor", sum := "8011d27ff097f341b17cea6c3fd4e34b5adcea354bb3f7735be8b47b8b3fa6e4", func := "loop.example/lib-g03212/laws.FnF32", spec := "fnF32", inPlace := ["math.Float32frombits", "internal/strconv.float32bits", "internal/strconv.float64bits"], named := ["internal/strconv.optimize", "internal/strconv.uint64pow10", "math/bits.deBruijn32tab", "math/bits.deBruijn64tab", "internal/strconv.pow10Tab", "internal/strconv.leftcheats"], apart := false, laid := [("math/bits.deBruijn32tab", laid_math_bits_deBruijn32tab), ("math/bits.deBruijn64tab", laid_math_bits_deBruijn64tab), ("internal/strconv.optimize", laid_internal_strconv_optimize), ("internal/strconv.uint64pow10", laid_internal_strconv_uint64pow10), ("internal/strconv.leftcheats", laid_internal_strconv_leftcheats), ("internal/strconv.pow10Tab", laid_internal_strconv_pow10Tab)] }
def FnF32Said : Prop := fnF32Row.holds Tryd.pinned (OpenSpec.ofChange fnF32Spec)

/-- ITS FALSE NEIGHBOUR: 'it returns false'. Refute it at one input. -/
def fnF32Wrong : ChangeSpec := { name := "fnF32", fn := fun _ => fun
  | [d1, d2] => { results := [.lit (.bool false)], args := [d1, d2] }
  | _ => none }
def FnF32WrongFalsely : Prop := fnF32Row.holds Tryd.pinned (OpenSpec.ofChange fnF32Wrong)

/-- 'laws.FnE64': WHATEVER THE INPUT: true; the input reads as it did. -/
def fnE64Spec : ChangeSpec := { name := "fnE64", fn := fun _ => fun
  | [d1, d2] => { results := [.lit (.bool true)], args := [d1, d2] }
  | _ => none }
def fnE64Row : OpenClaim := { program := "ythkcfpmlgoomfaadoor", sum := "8011d27ff097f341b17cea6c3fd4e34b5adcea354bb3f7735be8b47b8b3fa6e4", func := "loop.example/lib-g03212/laws.FnE64", spec := "fnE64", inPlace := ["math.Float64frombits", "internal/strconv.float32bits", "internal/strconv.float64bits"], named := ["internal/strconv.optimize", "internal/strconv.uint64pow10", "math/bits.deBruijn32tab", "math/bits.deBruijn64tab", "internal/strconv.pow10Tab", "internal/strconv.leftcheats"], apart := false, laid := [("math/bits.deBruijn32tab", laid_math_bits_deBruijn32tab), ("math/bits.deBruijn64tab", laid_math_bits_deBruijn64tab), ("internal/strconv.optimize", laid_internal_strconv_optimize), ("internal/strconv.uint64pow10", laid_internal_strconv_uint64pow10), ("internal/strconv.leftcheats", laid_internal_strconv_leftcheats), ("internal/strconv.pow10Tab", laid_internal_strconv_pow10Tab)] }
def FnE64Said : Prop := fnE64Row.holds Tryd.pinned (OpenSpec.ofChange fnE64Spec)

/-- ITS FALSE NEIGHBOUR: 'it returns false'. Refute it at one input. -/
def fnE64Wrong : ChangeSpec := { name := "fnE64", fn := fun _ => fun
  | [d1, d2] => { results := [.lit (.bool false)], args := [d1, d2] }
  | _ => none }
def FnE64WrongFalsely : Prop := fnE64Row.holds Tryd.pinned (OpenSpec.ofChange fnE64Wrong)

/-- 'laws.FnE32': WHATEVER THE INPUT: true; the input reads as it did. -/
def fnE32Spec : ChangeSpec := { name := "fnE32", fn := fun _ => fun
  | [d1, d2] => { results := [.lit (.bool true)], args := [d1, d2] }
  | _ => none }
def fnE32Row : OpenClaim := { program := "ythkcfpmlgoomfaadoor", sum := "8011d27ff097f341b17cea6c3fd4e34b5adcea354bb3f7735be8b47b8b3fa6e4", func := "loop.example/lib-g03212/laws.FnE32", spec := "fnE32", inPlace := ["math.Float32frombits", "internal/strconv.float32bits", "internal/strconv.float64bits"], named := ["internal/strconv.optimize", "internal/strconv.uint64pow10", "math/bits.deBruijn32tab", "math/bits.deBruijn64tab", "internal/strconv.pow10Tab", "internal/strconv.leftcheats"], apart := false, laid := [("math/bits.deBruijn32tab", laid_math_bits_deBruijn32tab), ("math/bits.deBruijn64tab", laid_math_bits_deBruijn64tab), ("internal/strconv.optimize", laid_internal_strconv_optimize), ("internal/strconv.uint64pow10", laid_internal_strconv_uint64pow10), ("internal/strconv.leftcheats", laid_internal_strconv_leftcheats), ("internal/strconv.pow10Tab", laid_internal_strconv_pow10Tab)] }
def FnE32Said : Prop := fnE32Row.holds Tryd.pinned (OpenSpec.ofChange fnE32Spec)

/-- ITS FALSE NEIGHBOUR: 'it returns false'. Refute it at one input. -/
def fnE32Wrong : ChangeSpec := { name := "fnE32", fn := fun _ => fun
  | [d1, d2] => { results := [.lit (.bool false)], args := [d1, d2] }
  | _ => none }
def FnE32WrongFalsely : Prop := fnE32Row.holds Tryd.pinned (OpenSpec.ofChange fnE32Wrong)

/-- 'laws.FnTwoSizes': WHATEVER THE INPUT: true; the input reads as it did. -/
def fnTwoSizesSpec : ChangeSpec := { name := "fnTwoSizes", fn := fun _ => fun
  | [d1, d2, d3] => { results := [.lit (.bool true)], args := [d1, d2, d3] }
  | _ => none }
def fnTwoSizesRow : OpenClaim := { program := "ythkcfpmlgoomfaadoor", sum := "8011d27ff097f341b17cea6c3fd4e34b5adcea354bb3f7735be8b47b8b3fa6e4", func := "loop.example/lib-g03212/laws.FnTwoSizes", spec := "fnTwoSizes", inPlace := ["math.Float32frombits", "internal/strconv.float32bits", "internal/strconv.float64bits", "math.Float64frombits"], named := ["internal/strconv.optimize", "internal/strconv.uint64pow10", "math/bits.deBruijn32tab", "math/bits.deBruijn64tab", "internal/strconv.pow10Tab", "internal/strconv.leftcheats"], apart := false, laid := [("math/bits.deBruijn32tab", laid_math_bits_deBruijn32tab), ("math/bits.deBruijn64tab", laid_math_bits_deBruijn64tab), ("internal/strconv.optimize", laid_internal_strconv_optimize), ("internal/strconv.uint64pow10", laid_internal_strconv_uint64pow10), ("internal/strconv.leftcheats", laid_internal_strconv_leftcheats), ("internal/strconv.pow10Tab", laid_internal_strconv_pow10Tab)] }
def FnTwoSizesSaid : Prop := fnTwoSizesRow.holds Tryd.pinned (OpenSpec.ofChange fnTwoSizesSpec)

/-- ITS FALSE NEIGHBOUR: 'it returns false'. Refute it at one input. -/
def fnTwoSizesWrong : ChangeSpec := { name := "fnTwoSizes", fn := fun _ => fun
  | [d1, d2, d3] => { results := [.lit (.bool false)], args := [d1, d2, d3] }
  | _ => none }
def FnTwoSizesWrongFalsely : Prop := fnTwoSizesRow.holds Tryd.pinned (OpenSpec.ofChange fnTwoSizesWrong)

/-- 'laws.FnHalves64': WHATEVER THE INPUT: true; the input reads as it did. -/
def fnHalves64Spec : ChangeSpec := { name := "fnHalves64", fn := fun _ => fun
  | [d1, d2] => { results := [.lit (.bool true)], args := [d1, d2] }
  | _ => none }
def fnHalves64Row : OpenClaim := { program := "ythkcfpmlgoomfaadoor", sum := "8011d27ff097f341b17cea6c3fd4e34b5adcea354bb3f7735be8b47b8b3fa6e4", func := "loop.example/lib-g03212/laws.FnHalves64", spec := "fnHalves64", inPlace := ["math.Float64frombits", "internal/strconv.float32bits", "internal/strconv.float64bits"], named := ["internal/strconv.optimize", "internal/strconv.uint64pow10", "math/bits.deBruijn32tab", "math/bits.deBruijn64tab", "internal/strconv.pow10Tab", "internal/strconv.leftcheats"], apart := false, laid := [("math/bits.deBruijn32tab", laid_math_bits_deBruijn32tab), ("math/bits.deBruijn64tab", laid_math_bits_deBruijn64tab), ("internal/strconv.optimize", laid_internal_strconv_optimize), ("internal/strconv.uint64pow10", laid_internal_strconv_uint64pow10), ("internal/strconv.leftcheats", laid_internal_strconv_leftcheats), ("internal/strconv.pow10Tab", laid_internal_strconv_pow10Tab)] }
def FnHalves64Said : Prop := fnHalves64Row.holds Tryd.pinned (OpenSpec.ofChange fnHalves64Spec)

/-- ITS FALSE NEIGHBOUR: 'it returns false'. Refute it at one input. -/
def fnHalves64Wrong : ChangeSpec := { name := "fnHalves64", fn := fun _ => fun
  | [d1, d2] => { results := [.lit (.bool false)], args := [d1, d2] }
  | _ => none }
def FnHalves64WrongFalsely : Prop := fnHalves64Row.holds Tryd.pinned (OpenSpec.ofChange fnHalves64Wrong)

/- THE SECOND FORM. 'bulk': how many values and letters a reading holds, each counted each time it is reached (what is shared counts as often as it is met; a slice's spare places count too). A statement '..UptoSaid' is the law's where the arguments, and the package variables that the reading takes, are together of bulk at most 1048576: NARROWER than '..Said'. Prove '..Said' where nothing that the law and all that it calls make is longer than what came in: it says more and counts as full. Else prove '..UptoSaid'. A law counts once. -/
mutual
def uptoBulk {H : Type} : DataW H → Nat
  | .lit (.string bytes) => bytes.length + 1
  | .lit _ => 1
  | .nil => 1
  | .ptr d => uptoBulk d + 1
  | .slice elems spare => uptoBulkAll elems + uptoBulkAll spare + 1
  | .agg parts => uptoBulkAll parts + 1
  | .iface _ d => uptoBulk d + 1
  | .map entries => uptoBulkEntries entries + 1
  | .held _ => 1
def uptoBulkAll {H : Type} : List (DataW H) → Nat
  | [] => 0
  | d :: r => uptoBulk d + uptoBulkAll r
def uptoBulkEntries {H : Type} : List (Lit × DataW H) → Nat
  | [] => 0
  | x :: r => uptoBulkEntry x + uptoBulkEntries r
def uptoBulkEntry {H : Type} : Lit × DataW H → Nat
  | (.string bytes, d) => bytes.length + uptoBulk d + 1
  | (_, d) => uptoBulk d + 1
 end
def uptoSmall : (H : Type) → List (DataW H) → Bool := fun _ ds => decide (uptoBulkAll ds ≤ 1048576)
def OpenSpec.upto (s : _root_.Go.ChangeSpec) : _root_.Go.OpenSpec := { _root_.Go.OpenSpec.ofChange s with cond := some uptoSmall }

/-- 'laws.FnX64', WHERE WHAT IT READS IS OF BULK AT MOST 1048576: true; the input reads as it did. -/
def fnX64UptoRow : OpenClaim := { program := "ythkcfpmlgoomfaadoor", sum := "8011d27ff097f341b17cea6c3fd4e34b5adcea354bb3f7735be8b47b8b3fa6e4", func := "loop.example/lib-g03212/laws.FnX64", spec := "fnX64", inPlace := ["math.Float64frombits", "internal/strconv.float32bits", "internal/strconv.float64bits"], named := ["internal/strconv.optimize", "internal/strconv.uint64pow10", "math/bits.deBruijn32tab", "math/bits.deBruijn64tab", "internal/strconv.pow10Tab", "internal/strconv.leftcheats"], apart := false, laid := [("math/bits.deBruijn32tab", laid_math_bits_deBruijn32tab), ("math/bits.deBruijn64tab", laid_math_bits_deBruijn64tab), ("internal/strconv.optimize", laid_internal_strconv_optimize), ("internal/strconv.uint64pow10", laid_internal_strconv_uint64pow10), ("internal/strconv.leftcheats", laid_internal_strconv_leftcheats), ("internal/strconv.pow10Tab", laid_internal_strconv_pow10Tab)], narrowed := true }
def FnX64UptoSaid : Prop := fnX64UptoRow.holds Tryd.pinned (OpenSpec.upto fnX64Spec)

/-- 'laws.FnX32', WHERE WHAT IT READS IS OF BULK AT MOST 1048576: true; the input reads as it did. -/
def fnX32UptoRow : OpenClaim := { program := "ythkcfpmlgoomfaadoor", sum := "8011d27ff097f341b17cea6c3fd4e34b5adcea354bb3f7735be8b47b8b3fa6e4", func := "loop.example/lib-g03212/laws.FnX32", spec := "fnX32", inPlace := ["math.Float32frombits", "internal/strconv.float32bits", "internal/strconv.float64bits"], named := ["internal/strconv.optimize", "internal/strconv.uint64pow10", "math/bits.deBruijn32tab", "math/bits.deBruijn64tab", "internal/strconv.pow10Tab", "internal/strconv.leftcheats"], apart := false, laid := [("math/bits.deBruijn32tab", laid_math_bits_deBruijn32tab), ("math/bits.deBruijn64tab", laid_math_bits_deBruijn64tab), ("internal/strconv.optimize", laid_internal_strconv_optimize), ("internal/strconv.uint64pow10", laid_internal_strconv_uint64pow10), ("internal/strconv.leftcheats", laid_internal_strconv_leftcheats), ("internal/strconv.pow10Tab", laid_internal_strconv_pow10Tab)], narrowed := true }
def FnX32UptoSaid : Prop := fnX32UptoRow.holds Tryd.pinned (OpenSpec.upto fnX32Spec)

/-- 'laws.FnExact64', WHERE WHAT IT READS IS OF BULK AT MOST 1048576: true; the input reads as it did. -/
def fnExact64UptoRow : OpenClaim := { program := "ythkcfpmlgoomfaadoor", sum := "8011d27ff097f341b17cea6c3fd4e34b5adcea354bb3f7735be8b47b8b3fa6e4", func := "loop.example/lib-g03212/laws.FnExact64", spec := "fnExact64", inPlace := ["math.Float64frombits", "internal/strconv.float32bits", "internal/strconv.float64bits"], named := ["internal/strconv.optimize", "internal/strconv.uint64pow10", "math/bits.deBruijn32tab", "math/bits.deBruijn64tab", "internal/strconv.pow10Tab", "internal/strconv.leftcheats"], apart := false, laid := [("math/bits.deBruijn32tab", laid_math_bits_deBruijn32tab), ("math/bits.deBruijn64tab", laid_math_bits_deBruijn64tab), ("internal/strconv.optimize", laid_internal_strconv_optimize), ("internal/strconv.uint64pow10", laid_internal_strconv_uint64pow10), ("internal/strconv.leftcheats", laid_internal_strconv_leftcheats), ("internal/strconv.pow10Tab", laid_internal_strconv_pow10Tab)], narrowed := true }
def FnExact64UptoSaid : Prop := fnExact64UptoRow.holds Tryd.pinned (OpenSpec.upto fnExact64Spec)

/-- 'laws.FnHexExact', WHERE WHAT IT READS IS OF BULK AT MOST 1048576: true; the input reads as it did. -/
def fnHexExactUptoRow : OpenClaim := { program := "ythkcfpmlgoomfaadoor", sum := "8011d27ff097f341b17cea6c3fd4e34b5adcea354bb3f7735be8b47b8b3fa6e4", func := "loop.example/lib-g03212/laws.FnHexExact", spec := "fnHexExact", inPlace := ["math.Float64frombits", "internal/strconv.float32bits", "internal/strconv.float64bits", "math.Float32frombits"], named := ["internal/strconv.optimize", "internal/strconv.uint64pow10", "math/bits.deBruijn32tab", "math/bits.deBruijn64tab", "internal/strconv.pow10Tab", "internal/strconv.leftcheats"], apart := false, laid := [("math/bits.deBruijn32tab", laid_math_bits_deBruijn32tab), ("math/bits.deBruijn64tab", laid_math_bits_deBruijn64tab), ("internal/strconv.optimize", laid_internal_strconv_optimize), ("internal/strconv.uint64pow10", laid_internal_strconv_uint64pow10), ("internal/strconv.leftcheats", laid_internal_strconv_leftcheats), ("internal/strconv.pow10Tab", laid_internal_strconv_pow10Tab)], narrowed := true }
def FnHexExactUptoSaid : Prop := fnHexExactUptoRow.holds Tryd.pinned (OpenSpec.upto fnHexExactSpec)

/-- 'laws.FnFixedValue', WHERE WHAT IT READS IS OF BULK AT MOST 1048576: true; the input reads as it did. -/
def fnFixedValueUptoRow : OpenClaim := { program := "ythkcfpmlgoomfaadoor", sum := "8011d27ff097f341b17cea6c3fd4e34b5adcea354bb3f7735be8b47b8b3fa6e4", func := "loop.example/lib-g03212/laws.FnFixedValue", spec := "fnFixedValue", inPlace := ["math.Float64frombits", "internal/strconv.float32bits", "internal/strconv.float64bits", "math.Float32frombits"], named := ["internal/strconv.optimize", "internal/strconv.uint64pow10", "math/bits.deBruijn32tab", "math/bits.deBruijn64tab", "internal/strconv.pow10Tab", "internal/strconv.leftcheats"], apart := false, laid := [("math/bits.deBruijn32tab", laid_math_bits_deBruijn32tab), ("math/bits.deBruijn64tab", laid_math_bits_deBruijn64tab), ("internal/strconv.optimize", laid_internal_strconv_optimize), ("internal/strconv.uint64pow10", laid_internal_strconv_uint64pow10), ("internal/strconv.leftcheats", laid_internal_strconv_leftcheats), ("internal/strconv.pow10Tab", laid_internal_strconv_pow10Tab)], narrowed := true }
def FnFixedValueUptoSaid : Prop := fnFixedValueUptoRow.holds Tryd.pinned (OpenSpec.upto fnFixedValueSpec)

/-- 'laws.FnGeneralValue', WHERE WHAT IT READS IS OF BULK AT MOST 1048576: true; the input reads as it did. -/
def fnGeneralValueUptoRow : OpenClaim := { program := "ythkcfpmlgoomfaadoor", sum := "8011d27ff097f341b17cea6c3fd4e34b5adcea354bb3f7735be8b47b8b3fa6e4", func := "loop.example/lib-g03212/laws.FnGeneralValue", spec := "fnGeneralValue", inPlace := ["math.Float64frombits", "internal/strconv.float32bits", "internal/strconv.float64bits", "math.Float32frombits"], named := ["internal/strconv.optimize", "internal/strconv.uint64pow10", "math/bits.deBruijn32tab", "math/bits.deBruijn64tab", "internal/strconv.pow10Tab", "internal/strconv.leftcheats"], apart := false, laid := [("math/bits.deBruijn32tab", laid_math_bits_deBruijn32tab), ("math/bits.deBruijn64tab", laid_math_bits_deBruijn64tab), ("internal/strconv.optimize", laid_internal_strconv_optimize), ("internal/strconv.uint64pow10", laid_internal_strconv_uint64pow10), ("internal/strconv.leftcheats", laid_internal_strconv_leftcheats), ("internal/strconv.pow10Tab", laid_internal_strconv_pow10Tab)], narrowed := true }
def FnGeneralValueUptoSaid : Prop := fnGeneralValueUptoRow.holds Tryd.pinned (OpenSpec.upto fnGeneralValueSpec)

/-- 'laws.FnF64', WHERE WHAT IT READS IS OF BULK AT MOST 1048576: true; the input reads as it did. -/
def fnF64UptoRow : OpenClaim := { program := "ythkcfpmlgoomfaadoor", sum := "8011d27ff097f341b17cea6c3fd4e34b5adcea354bb3f7735be8b47b8b3fa6e4", func := "loop.example/lib-g03212/laws.FnF64", spec := "fnF64", inPlace := ["math.Float64frombits", "internal/strconv.float32bits", "internal/strconv.float64bits"], named := ["internal/strconv.optimize", "internal/strconv.uint64pow10", "math/bits.deBruijn32tab", "math/bits.deBruijn64tab", "internal/strconv.pow10Tab", "internal/strconv.leftcheats"], apart := false, laid := [("math/bits.deBruijn32tab", laid_math_bits_deBruijn32tab), ("math/bits.deBruijn64tab", laid_math_bits_deBruijn64tab), ("internal/strconv.optimize", laid_internal_strconv_optimize), ("internal/strconv.uint64pow10", laid_internal_strconv_uint64pow10), ("internal/strconv.leftcheats", laid_internal_strconv_leftcheats), ("internal/strconv.pow10Tab", laid_internal_strconv_pow10Tab)], narrowed := true }
def FnF64UptoSaid : Prop := fnF64UptoRow.holds Tryd.pinned (OpenSpec.upto fnF64Spec)

/-- 'laws.FnF32', WHERE WHAT IT READS IS OF BULK AT MOST 1048576: true; the input reads as it did. -/
def fnF32UptoRow : OpenClaim := { program := "ythkcfpmlgoomfaadoor", sum := "8011d27ff097f341b17cea6c3fd4e34b5adcea354bb3f7735be8b47b8b3fa6e4", func := "loop.example/lib-g03212/laws.FnF32", spec := "fnF32", inPlace := ["math.Float32frombits", "internal/strconv.float32bits", "internal/strconv.float64bits"], named := ["internal/strconv.optimize", "internal/strconv.uint64pow10", "math/bits.deBruijn32tab", "math/bits.deBruijn64tab", "internal/strconv.pow10Tab", "internal/strconv.leftcheats"], apart := false, laid := [("math/bits.deBruijn32tab", laid_math_bits_deBruijn32tab), ("math/bits.deBruijn64tab", laid_math_bits_deBruijn64tab), ("internal/strconv.optimize", laid_internal_strconv_optimize), ("internal/strconv.uint64pow10", laid_internal_strconv_uint64pow10), ("internal/strconv.leftcheats", laid_internal_strconv_leftcheats), ("internal/strconv.pow10Tab", laid_internal_strconv_pow10Tab)], narrowed := true }
def FnF32UptoSaid : Prop := fnF32UptoRow.holds Tryd.pinned (OpenSpec.upto fnF32Spec)

/-- 'laws.FnE64', WHERE WHAT IT READS IS OF BULK AT MOST 1048576: true; the input reads as it did. -/
def fnE64UptoRow : OpenClaim := { program := "ythkcfpmlgoomfaadoor", sum := "8011d27ff097f341b17cea6c3fd4e34b5adcea354bb3f7735be8b47b8b3fa6e4", func := "loop.example/lib-g03212/laws.FnE64", spec := "fnE64", inPlace := ["math.Float64frombits", "internal/strconv.float32bits", "internal/strconv.float64bits"], named := ["internal/strconv.optimize", "internal/strconv.uint64pow10", "math/bits.deBruijn32tab", "math/bits.deBruijn64tab", "internal/strconv.pow10Tab", "internal/strconv.leftcheats"], apart := false, laid := [("math/bits.deBruijn32tab", laid_math_bits_deBruijn32tab), ("math/bits.deBruijn64tab", laid_math_bits_deBruijn64tab), ("internal/strconv.optimize", laid_internal_strconv_optimize), ("internal/strconv.uint64pow10", laid_internal_strconv_uint64pow10), ("internal/strconv.leftcheats", laid_internal_strconv_leftcheats), ("internal/strconv.pow10Tab", laid_internal_strconv_pow10Tab)], narrowed := true }
def FnE64UptoSaid : Prop := fnE64UptoRow.holds Tryd.pinned (OpenSpec.upto fnE64Spec)

/-- 'laws.FnE32', WHERE WHAT IT READS IS OF BULK AT MOST 1048576: true; the input reads as it did. -/
def fnE32UptoRow : OpenClaim := { program := "ythkcfpmlgoomfaadoor", sum := "8011d27ff097f341b17cea6c3fd4e34b5adcea354bb3f7735be8b47b8b3fa6e4", func := "loop.example/lib-g03212/laws.FnE32", spec := "fnE32", inPlace := ["math.Float32frombits", "internal/strconv.float32bits", "internal/strconv.float64bits"], named := ["internal/strconv.optimize", "internal/strconv.uint64pow10", "math/bits.deBruijn32tab", "math/bits.deBruijn64tab", "internal/strconv.pow10Tab", "internal/strconv.leftcheats"], apart := false, laid := [("math/bits.deBruijn32tab", laid_math_bits_deBruijn32tab), ("math/bits.deBruijn64tab", laid_math_bits_deBruijn64tab), ("internal/strconv.optimize", laid_internal_strconv_optimize), ("internal/strconv.uint64pow10", laid_internal_strconv_uint64pow10), ("internal/strconv.leftcheats", laid_internal_strconv_leftcheats), ("internal/strconv.pow10Tab", laid_internal_strconv_pow10Tab)], narrowed := true }
def FnE32UptoSaid : Prop := fnE32UptoRow.holds Tryd.pinned (OpenSpec.upto fnE32Spec)

/-- 'laws.FnTwoSizes', WHERE WHAT IT READS IS OF BULK AT MOST 1048576: true; the input reads as it did. -/
def fnTwoSizesUptoRow : OpenClaim := { program := "ythkcfpmlgoomfaadoor", sum := "8011d27ff097f341b17cea6c3fd4e34b5adcea354bb3f7735be8b47b8b3fa6e4", func := "loop.example/lib-g03212/laws.FnTwoSizes", spec := "fnTwoSizes", inPlace := ["math.Float32frombits", "internal/strconv.float32bits", "internal/strconv.float64bits", "math.Float64frombits"], named := ["internal/strconv.optimize", "internal/strconv.uint64pow10", "math/bits.deBruijn32tab", "math/bits.deBruijn64tab", "internal/strconv.pow10Tab", "internal/strconv.leftcheats"], apart := false, laid := [("math/bits.deBruijn32tab", laid_math_bits_deBruijn32tab), ("math/bits.deBruijn64tab", laid_math_bits_deBruijn64tab), ("internal/strconv.optimize", laid_internal_strconv_optimize), ("internal/strconv.uint64pow10", laid_internal_strconv_uint64pow10), ("internal/strconv.leftcheats", laid_internal_strconv_leftcheats), ("internal/strconv.pow10Tab", laid_internal_strconv_pow10Tab)], narrowed := true }
def FnTwoSizesUptoSaid : Prop := fnTwoSizesUptoRow.holds Tryd.pinned (OpenSpec.upto fnTwoSizesSpec)

/-- 'laws.FnHalves64', WHERE WHAT IT READS IS OF BULK AT MOST 1048576: true; the input reads as it did. -/
def fnHalves64UptoRow : OpenClaim := { program := "ythkcfpmlgoomfaadoor", sum := "8011d27ff097f341b17cea6c3fd4e34b5adcea354bb3f7735be8b47b8b3fa6e4", func := "loop.example/lib-g03212/laws.FnHalves64", spec := "fnHalves64", inPlace := ["math.Float64frombits", "internal/strconv.float32bits", "internal/strconv.float64bits"], named := ["internal/strconv.optimize", "internal/strconv.uint64pow10", "math/bits.deBruijn32tab", "math/bits.deBruijn64tab", "internal/strconv.pow10Tab", "internal/strconv.leftcheats"], apart := false, laid := [("math/bits.deBruijn32tab", laid_math_bits_deBruijn32tab), ("math/bits.deBruijn64tab", laid_math_bits_deBruijn64tab), ("internal/strconv.optimize", laid_internal_strconv_optimize), ("internal/strconv.uint64pow10", laid_internal_strconv_uint64pow10), ("internal/strconv.leftcheats", laid_internal_strconv_leftcheats), ("internal/strconv.pow10Tab", laid_internal_strconv_pow10Tab)], narrowed := true }
def FnHalves64UptoSaid : Prop := fnHalves64UptoRow.holds Tryd.pinned (OpenSpec.upto fnHalves64Spec)

end Rows
end Go.Proofs.YthkcfpmlgoomfaaDoor
