/-
  NARROWER THAN 'FOR EVERY INPUT', by the rows' own cells (each row's printed sentence says how): FnRepeated: laid · FnRepeatedTwice: laid · FnRebound: laid · FnCompiled: laid · FnCompiledAgain: laid · FnCompiledWritten: laid · FnCompiledKinds: laid · FnNamedOf: loops, laid · FnNamed: loops, laid · FnNamedOrder: loops, laid · FnNamedTwo: loops, laid · FnNamedManyOf: loops, laid · FnNamedMany: loops, laid · FnNamedRows: loops, laid · FnRoad: loops, laid.
  DERIVED. THE GIVEN ROWS OF THIS SEAT. 15 by the template 'for every input the law returns true; each argument reads behind the call as it read before'; 0 by the template 'total and deterministic' (their statements: YtnmhoghmhglimaaDoorTotals.lean).
  GIVEN WITH THE SEED: the statements are not yours to turn. If you find one false, say at which input.
  Laid BY PROGRAM, IN A SANDBOX (cutbox-rows.mjs): the forced cells as the released guide's own fill.sh prints them over the translation abeadf28cf288ab2… (all of the seat's roots in one cut). By AI agents, Wed Nov 11 2026. No macro, syntax, notation, axiom, sorry.
-/
import Derived.Test.YtnmhoghmhglimaaDoorChecked
import GoSem.Claim
import GoSem.ClaimJoined
import GoSem.ClaimMapViews
import Derived.JoinedTies
import Derived.KernelRfl
namespace Go.Proofs.YtnmhoghmhglimaaDoor
/- THE CELL 'sum', in the pinned program and in every row, IS THE sha256 OF THE DUMP (.gsa) THAT YtnmhoghmhglimaaDoorProg.lean LOADS. Nothing in Lean hashes anything: it is a label: what it is worth is what the hold of that sum in a sandbox is worth. -/
noncomputable def Tryd.pinned : Pinned := { name := "ytnmhoghmhglimaadoor", sum := "abeadf28cf288ab21af1bbe830da6a878df2da68396713d052ee269356545ede", checked := Tryd.checked }
namespace Rows
def none {H : Type} : Left H := { results := [], args := [] }

/- WHAT THE LISTED PACKAGE-LEVEL VARIABLES READ AS WHEN THE CALL BEGINS. Each datum BY PROGRAM (the guide's laid-datum.mjs) off the statement by which the dump's own 'gosem.cut.vars' lays the variable. In a bare row this is a premise. The card (YtnmhoghmhglimaaDoorCards.lean) ties it to the program's text. -/
def laid_bytes_ErrTooLarge {H : Type} : DataW H := .iface "*errors.errorString" (.ptr (.agg [.lit (.string [98, 121, 116, 101, 115, 46, 66, 117, 102, 102, 101, 114, 58, 32, 116, 111, 111, 32, 108, 97, 114, 103, 101])]))
def laid_math_bits_deBruijn32tab {H : Type} : DataW H := .agg [.lit (.int .u8 0), .lit (.int .u8 1), .lit (.int .u8 28), .lit (.int .u8 2), .lit (.int .u8 29), .lit (.int .u8 14), .lit (.int .u8 24), .lit (.int .u8 3), .lit (.int .u8 30), .lit (.int .u8 22), .lit (.int .u8 20), .lit (.int .u8 15), .lit (.int .u8 25), .lit (.int .u8 17), .lit (.int .u8 4), .lit (.int .u8 8), .lit (.int .u8 31), .lit (.int .u8 27), .lit (.int .u8 13), .lit (.int .u8 23), .lit (.int .u8 21), .lit (.int .u8 19), .lit (.int .u8 16), .lit (.int .u8 7), .lit (.int .u8 26), .lit (.int .u8 12), .lit (.int .u8 18), .lit (.int .u8 6), .lit (.int .u8 11), .lit (.int .u8 5), .lit (.int .u8 10), .lit (.int .u8 9)]
def laid_math_bits_deBruijn64tab {H : Type} : DataW H := .agg [.lit (.int .u8 0), .lit (.int .u8 1), .lit (.int .u8 56), .lit (.int .u8 2), .lit (.int .u8 57), .lit (.int .u8 49), .lit (.int .u8 28), .lit (.int .u8 3), .lit (.int .u8 61), .lit (.int .u8 58), .lit (.int .u8 42), .lit (.int .u8 50), .lit (.int .u8 38), .lit (.int .u8 29), .lit (.int .u8 17), .lit (.int .u8 4), .lit (.int .u8 62), .lit (.int .u8 47), .lit (.int .u8 59), .lit (.int .u8 36), .lit (.int .u8 45), .lit (.int .u8 43), .lit (.int .u8 51), .lit (.int .u8 22), .lit (.int .u8 53), .lit (.int .u8 39), .lit (.int .u8 33), .lit (.int .u8 30), .lit (.int .u8 24), .lit (.int .u8 18), .lit (.int .u8 12), .lit (.int .u8 5), .lit (.int .u8 63), .lit (.int .u8 55), .lit (.int .u8 48), .lit (.int .u8 27), .lit (.int .u8 60), .lit (.int .u8 41), .lit (.int .u8 37), .lit (.int .u8 16), .lit (.int .u8 46), .lit (.int .u8 35), .lit (.int .u8 44), .lit (.int .u8 21), .lit (.int .u8 52), .lit (.int .u8 32), .lit (.int .u8 23), .lit (.int .u8 11), .lit (.int .u8 54), .lit (.int .u8 26), .lit (.int .u8 40), .lit (.int .u8 15), .lit (.int .u8 34), .lit (.int .u8 20), .lit (.int .u8 31), .lit (.int .u8 10), .lit (.int .u8 25), .lit (.int .u8 14), .lit (.int .u8 19), .lit (.int .u8 9), .lit (.int .u8 13), .lit (.int .u8 8), .lit (.int .u8 7), .lit (.int .u8 6)]
def laid_internal_strconv_uint64pow10 {H : Type} : DataW H := .agg [.lit (.int .u64 1), .lit (.int .u64 10), .lit (.int .u64 100), .lit (.int .u64 1000), .lit (.int .u64 10000), .lit (.int .u64 100000), .lit (.int .u64 1000000), .lit (.int .u64 10000000), .lit (.int .u64 100000000), .lit (.int .u64 1000000000), .lit (.int .u64 10000000000), .lit (.int .u64 100000000000), .lit (.int .u64 1000000000000), .lit (.int .u64 10000000000000), .lit (.int .u64 100000000000000), .lit (.int .u64 1000000000000000), .lit (.int .u64 10000000000000000), .lit (.int .u64 100000000000000000), .lit (.int .u64 1000000000000000000), .lit (.int .u64 10000000000000000000)]

/-- 'laws.FnRepeated': WHATEVER THE INPUT: true; the input reads as it did. -/
def fnRepeatedSpec : ChangeSpec := { name := "fnRepeated", fn := fun _ => fun
  | [d1, d2] => { results := [.lit (.bool true)], args := [d1, d2] }
  | _ => none }
def fnRepeatedRow : OpenClaim := { program := "ytnmhoghmhglimaadoor", sum := "abeadf28cf288ab21af1bbe830da6a878df2da68396713d052ee269356545ede", func := "given.example/pub-conveyance/laws.FnRepeated", spec := "fnRepeated", named := ["bytes.ErrTooLarge"], apart := false, laid := [("bytes.ErrTooLarge", laid_bytes_ErrTooLarge)] }
def FnRepeatedSaid : Prop := fnRepeatedRow.holds Tryd.pinned (OpenSpec.ofChange fnRepeatedSpec)

/-- ITS FALSE NEIGHBOUR: 'it returns false'. Refute it at one input. -/
def fnRepeatedWrong : ChangeSpec := { name := "fnRepeated", fn := fun _ => fun
  | [d1, d2] => { results := [.lit (.bool false)], args := [d1, d2] }
  | _ => none }
def FnRepeatedWrongFalsely : Prop := fnRepeatedRow.holds Tryd.pinned (OpenSpec.ofChange fnRepeatedWrong)

/-- 'laws.FnRepeatedTwice': WHATEVER THE INPUT: true; the input reads as it did. -/
def fnRepeatedTwiceSpec : ChangeSpec := { name := "fnRepeatedTwice", fn := fun _ => fun
  | [d1, d2] => { results := [.lit (.bool true)], args := [d1, d2] }
  | _ => none }
def fnRepeatedTwiceRow : OpenClaim := { program := "ytnmhoghmhglimaadoor", sum := "abeadf28cf288ab21af1bbe830da6a878df2da68396713d052ee269356545ede", func := "given.example/pub-conveyance/laws.FnRepeatedTwice", spec := "fnRepeatedTwice", named := ["bytes.ErrTooLarge"], apart := false, laid := [("bytes.ErrTooLarge", laid_bytes_ErrTooLarge)] }
def FnRepeatedTwiceSaid : Prop := fnRepeatedTwiceRow.holds Tryd.pinned (OpenSpec.ofChange fnRepeatedTwiceSpec)

/-- ITS FALSE NEIGHBOUR: 'it returns false'. Refute it at one input. -/
def fnRepeatedTwiceWrong : ChangeSpec := { name := "fnRepeatedTwice", fn := fun _ => fun
  | [d1, d2] => { results := [.lit (.bool false)], args := [d1, d2] }
  | _ => none }
def FnRepeatedTwiceWrongFalsely : Prop := fnRepeatedTwiceRow.holds Tryd.pinned (OpenSpec.ofChange fnRepeatedTwiceWrong)

/-- 'laws.FnRebound': WHATEVER THE INPUT: true; the input reads as it did. -/
def fnReboundSpec : ChangeSpec := { name := "fnRebound", fn := fun _ => fun
  | [d1, d2] => { results := [.lit (.bool true)], args := [d1, d2] }
  | _ => none }
def fnReboundRow : OpenClaim := { program := "ytnmhoghmhglimaadoor", sum := "abeadf28cf288ab21af1bbe830da6a878df2da68396713d052ee269356545ede", func := "given.example/pub-conveyance/laws.FnRebound", spec := "fnRebound", recurses := true, named := ["internal/strconv.uint64pow10", "math/bits.deBruijn32tab", "math/bits.deBruijn64tab"], apart := false, laid := [("math/bits.deBruijn32tab", laid_math_bits_deBruijn32tab), ("math/bits.deBruijn64tab", laid_math_bits_deBruijn64tab), ("internal/strconv.uint64pow10", laid_internal_strconv_uint64pow10)] }
def FnReboundSaid : Prop := fnReboundRow.holds Tryd.pinned (OpenSpec.ofChange fnReboundSpec)

/-- ITS FALSE NEIGHBOUR: 'it returns false'. Refute it at one input. -/
def fnReboundWrong : ChangeSpec := { name := "fnRebound", fn := fun _ => fun
  | [d1, d2] => { results := [.lit (.bool false)], args := [d1, d2] }
  | _ => none }
def FnReboundWrongFalsely : Prop := fnReboundRow.holds Tryd.pinned (OpenSpec.ofChange fnReboundWrong)

/-- 'laws.FnCompiled': WHATEVER THE INPUT: true; the input reads as it did. -/
def fnCompiledSpec : ChangeSpec := { name := "fnCompiled", fn := fun _ => fun
  | [d1, d2] => { results := [.lit (.bool true)], args := [d1, d2] }
  | _ => none }
def fnCompiledRow : OpenClaim := { program := "ytnmhoghmhglimaadoor", sum := "abeadf28cf288ab21af1bbe830da6a878df2da68396713d052ee269356545ede", func := "given.example/pub-conveyance/laws.FnCompiled", spec := "fnCompiled", recurses := true, named := ["internal/strconv.uint64pow10", "math/bits.deBruijn32tab", "math/bits.deBruijn64tab"], apart := false, laid := [("math/bits.deBruijn32tab", laid_math_bits_deBruijn32tab), ("math/bits.deBruijn64tab", laid_math_bits_deBruijn64tab), ("internal/strconv.uint64pow10", laid_internal_strconv_uint64pow10)] }
def FnCompiledSaid : Prop := fnCompiledRow.holds Tryd.pinned (OpenSpec.ofChange fnCompiledSpec)

/-- ITS FALSE NEIGHBOUR: 'it returns false'. Refute it at one input. -/
def fnCompiledWrong : ChangeSpec := { name := "fnCompiled", fn := fun _ => fun
  | [d1, d2] => { results := [.lit (.bool false)], args := [d1, d2] }
  | _ => none }
def FnCompiledWrongFalsely : Prop := fnCompiledRow.holds Tryd.pinned (OpenSpec.ofChange fnCompiledWrong)

/-- 'laws.FnCompiledAgain': WHATEVER THE INPUT: true; the input reads as it did. -/
def fnCompiledAgainSpec : ChangeSpec := { name := "fnCompiledAgain", fn := fun _ => fun
  | [d] => { results := [.lit (.bool true)], args := [d] }
  | _ => none }
def fnCompiledAgainRow : OpenClaim := { program := "ytnmhoghmhglimaadoor", sum := "abeadf28cf288ab21af1bbe830da6a878df2da68396713d052ee269356545ede", func := "given.example/pub-conveyance/laws.FnCompiledAgain", spec := "fnCompiledAgain", recurses := true, named := ["internal/strconv.uint64pow10", "math/bits.deBruijn32tab", "math/bits.deBruijn64tab"], apart := false, laid := [("math/bits.deBruijn32tab", laid_math_bits_deBruijn32tab), ("math/bits.deBruijn64tab", laid_math_bits_deBruijn64tab), ("internal/strconv.uint64pow10", laid_internal_strconv_uint64pow10)] }
def FnCompiledAgainSaid : Prop := fnCompiledAgainRow.holds Tryd.pinned (OpenSpec.ofChange fnCompiledAgainSpec)

/-- ITS FALSE NEIGHBOUR: 'it returns false'. Refute it at one input. -/
def fnCompiledAgainWrong : ChangeSpec := { name := "fnCompiledAgain", fn := fun _ => fun
  | [d] => { results := [.lit (.bool false)], args := [d] }
  | _ => none }
def FnCompiledAgainWrongFalsely : Prop := fnCompiledAgainRow.holds Tryd.pinned (OpenSpec.ofChange fnCompiledAgainWrong)

/-- 'laws.FnCompiledWritten': WHATEVER THE INPUT: true; the input reads as it did. -/
def fnCompiledWrittenSpec : ChangeSpec := { name := "fnCompiledWritten", fn := fun _ => fun
  | [d1, d2, d3] => { results := [.lit (.bool true)], args := [d1, d2, d3] }
  | _ => none }
def fnCompiledWrittenRow : OpenClaim := { program := "ytnmhoghmhglimaadoor", sum := "abeadf28cf288ab21af1bbe830da6a878df2da68396713d052ee269356545ede", func := "given.example/pub-conveyance/laws.FnCompiledWritten", spec := "fnCompiledWritten", recurses := true, named := ["internal/strconv.uint64pow10", "math/bits.deBruijn32tab", "math/bits.deBruijn64tab"], apart := false, laid := [("math/bits.deBruijn32tab", laid_math_bits_deBruijn32tab), ("math/bits.deBruijn64tab", laid_math_bits_deBruijn64tab), ("internal/strconv.uint64pow10", laid_internal_strconv_uint64pow10)] }
def FnCompiledWrittenSaid : Prop := fnCompiledWrittenRow.holds Tryd.pinned (OpenSpec.ofChange fnCompiledWrittenSpec)

/-- ITS FALSE NEIGHBOUR: 'it returns false'. Refute it at one input. -/
def fnCompiledWrittenWrong : ChangeSpec := { name := "fnCompiledWritten", fn := fun _ => fun
  | [d1, d2, d3] => { results := [.lit (.bool false)], args := [d1, d2, d3] }
  | _ => none }
def FnCompiledWrittenWrongFalsely : Prop := fnCompiledWrittenRow.holds Tryd.pinned (OpenSpec.ofChange fnCompiledWrittenWrong)

/-- 'laws.FnCompiledKinds': WHATEVER THE INPUT: true; the input reads as it did. -/
def fnCompiledKindsSpec : ChangeSpec := { name := "fnCompiledKinds", fn := fun _ => fun
  | [d1, d2] => { results := [.lit (.bool true)], args := [d1, d2] }
  | _ => none }
def fnCompiledKindsRow : OpenClaim := { program := "ytnmhoghmhglimaadoor", sum := "abeadf28cf288ab21af1bbe830da6a878df2da68396713d052ee269356545ede", func := "given.example/pub-conveyance/laws.FnCompiledKinds", spec := "fnCompiledKinds", recurses := true, named := ["internal/strconv.uint64pow10", "math/bits.deBruijn32tab", "math/bits.deBruijn64tab"], apart := false, laid := [("math/bits.deBruijn32tab", laid_math_bits_deBruijn32tab), ("math/bits.deBruijn64tab", laid_math_bits_deBruijn64tab), ("internal/strconv.uint64pow10", laid_internal_strconv_uint64pow10)] }
def FnCompiledKindsSaid : Prop := fnCompiledKindsRow.holds Tryd.pinned (OpenSpec.ofChange fnCompiledKindsSpec)

/-- ITS FALSE NEIGHBOUR: 'it returns false'. Refute it at one input. -/
def fnCompiledKindsWrong : ChangeSpec := { name := "fnCompiledKinds", fn := fun _ => fun
  | [d1, d2] => { results := [.lit (.bool false)], args := [d1, d2] }
  | _ => none }
def FnCompiledKindsWrongFalsely : Prop := fnCompiledKindsRow.holds Tryd.pinned (OpenSpec.ofChange fnCompiledKindsWrong)

/-- 'laws.FnNamedOf': WHATEVER THE INPUT: true; the input reads as it did. -/
def fnNamedOfSpec : ChangeSpec := { name := "fnNamedOf", fn := fun _ => fun
  | [d1, d2, d3] => { results := [.lit (.bool true)], args := [d1, d2, d3] }
  | _ => none }
def fnNamedOfRow : OpenClaim := { program := "ytnmhoghmhglimaadoor", sum := "abeadf28cf288ab21af1bbe830da6a878df2da68396713d052ee269356545ede", func := "given.example/pub-conveyance/laws.FnNamedOf", spec := "fnNamedOf", recurses := true, named := ["internal/strconv.uint64pow10", "math/bits.deBruijn32tab", "math/bits.deBruijn64tab", "bytes.ErrTooLarge"], loops := true, apart := false, laid := [("math/bits.deBruijn32tab", laid_math_bits_deBruijn32tab), ("math/bits.deBruijn64tab", laid_math_bits_deBruijn64tab), ("internal/strconv.uint64pow10", laid_internal_strconv_uint64pow10), ("bytes.ErrTooLarge", laid_bytes_ErrTooLarge)] }
def FnNamedOfSaid : Prop := fnNamedOfRow.holds Tryd.pinned (OpenSpec.ofChange fnNamedOfSpec)

/-- ITS FALSE NEIGHBOUR: 'it returns false'. Refute it at one input. -/
def fnNamedOfWrong : ChangeSpec := { name := "fnNamedOf", fn := fun _ => fun
  | [d1, d2, d3] => { results := [.lit (.bool false)], args := [d1, d2, d3] }
  | _ => none }
def FnNamedOfWrongFalsely : Prop := fnNamedOfRow.holds Tryd.pinned (OpenSpec.ofChange fnNamedOfWrong)

/-- 'laws.FnNamed': WHATEVER THE INPUT: true; the input reads as it did. -/
def fnNamedSpec : ChangeSpec := { name := "fnNamed", fn := fun _ => fun
  | [d1, d2] => { results := [.lit (.bool true)], args := [d1, d2] }
  | _ => none }
def fnNamedRow : OpenClaim := { program := "ytnmhoghmhglimaadoor", sum := "abeadf28cf288ab21af1bbe830da6a878df2da68396713d052ee269356545ede", func := "given.example/pub-conveyance/laws.FnNamed", spec := "fnNamed", recurses := true, named := ["internal/strconv.uint64pow10", "math/bits.deBruijn32tab", "math/bits.deBruijn64tab", "bytes.ErrTooLarge"], loops := true, apart := false, laid := [("math/bits.deBruijn32tab", laid_math_bits_deBruijn32tab), ("math/bits.deBruijn64tab", laid_math_bits_deBruijn64tab), ("internal/strconv.uint64pow10", laid_internal_strconv_uint64pow10), ("bytes.ErrTooLarge", laid_bytes_ErrTooLarge)] }
def FnNamedSaid : Prop := fnNamedRow.holds Tryd.pinned (OpenSpec.ofChange fnNamedSpec)

/-- ITS FALSE NEIGHBOUR: 'it returns false'. Refute it at one input. -/
def fnNamedWrong : ChangeSpec := { name := "fnNamed", fn := fun _ => fun
  | [d1, d2] => { results := [.lit (.bool false)], args := [d1, d2] }
  | _ => none }
def FnNamedWrongFalsely : Prop := fnNamedRow.holds Tryd.pinned (OpenSpec.ofChange fnNamedWrong)

/-- 'laws.FnNamedOrder': WHATEVER THE INPUT: true; the input reads as it did. -/
def fnNamedOrderSpec : ChangeSpec := { name := "fnNamedOrder", fn := fun _ => fun
  | [d1, d2, d3] => { results := [.lit (.bool true)], args := [d1, d2, d3] }
  | _ => none }
def fnNamedOrderRow : OpenClaim := { program := "ytnmhoghmhglimaadoor", sum := "abeadf28cf288ab21af1bbe830da6a878df2da68396713d052ee269356545ede", func := "given.example/pub-conveyance/laws.FnNamedOrder", spec := "fnNamedOrder", recurses := true, named := ["internal/strconv.uint64pow10", "math/bits.deBruijn32tab", "math/bits.deBruijn64tab", "bytes.ErrTooLarge"], loops := true, apart := false, laid := [("math/bits.deBruijn32tab", laid_math_bits_deBruijn32tab), ("math/bits.deBruijn64tab", laid_math_bits_deBruijn64tab), ("internal/strconv.uint64pow10", laid_internal_strconv_uint64pow10), ("bytes.ErrTooLarge", laid_bytes_ErrTooLarge)] }
def FnNamedOrderSaid : Prop := fnNamedOrderRow.holds Tryd.pinned (OpenSpec.ofChange fnNamedOrderSpec)

/-- ITS FALSE NEIGHBOUR: 'it returns false'. Refute it at one input. -/
def fnNamedOrderWrong : ChangeSpec := { name := "fnNamedOrder", fn := fun _ => fun
  | [d1, d2, d3] => { results := [.lit (.bool false)], args := [d1, d2, d3] }
  | _ => none }
def FnNamedOrderWrongFalsely : Prop := fnNamedOrderRow.holds Tryd.pinned (OpenSpec.ofChange fnNamedOrderWrong)

/-- 'laws.FnNamedTwo': WHATEVER THE INPUT: true; the input reads as it did. -/
def fnNamedTwoSpec : ChangeSpec := { name := "fnNamedTwo", fn := fun _ => fun
  | [d1, d2, d3] => { results := [.lit (.bool true)], args := [d1, d2, d3] }
  | _ => none }
def fnNamedTwoRow : OpenClaim := { program := "ytnmhoghmhglimaadoor", sum := "abeadf28cf288ab21af1bbe830da6a878df2da68396713d052ee269356545ede", func := "given.example/pub-conveyance/laws.FnNamedTwo", spec := "fnNamedTwo", recurses := true, named := ["internal/strconv.uint64pow10", "math/bits.deBruijn32tab", "math/bits.deBruijn64tab", "bytes.ErrTooLarge"], loops := true, apart := false, laid := [("math/bits.deBruijn32tab", laid_math_bits_deBruijn32tab), ("math/bits.deBruijn64tab", laid_math_bits_deBruijn64tab), ("internal/strconv.uint64pow10", laid_internal_strconv_uint64pow10), ("bytes.ErrTooLarge", laid_bytes_ErrTooLarge)] }
def FnNamedTwoSaid : Prop := fnNamedTwoRow.holds Tryd.pinned (OpenSpec.ofChange fnNamedTwoSpec)

/-- ITS FALSE NEIGHBOUR: 'it returns false'. Refute it at one input. -/
def fnNamedTwoWrong : ChangeSpec := { name := "fnNamedTwo", fn := fun _ => fun
  | [d1, d2, d3] => { results := [.lit (.bool false)], args := [d1, d2, d3] }
  | _ => none }
def FnNamedTwoWrongFalsely : Prop := fnNamedTwoRow.holds Tryd.pinned (OpenSpec.ofChange fnNamedTwoWrong)

/-- 'laws.FnNamedManyOf': WHATEVER THE INPUT: true; the input reads as it did. -/
def fnNamedManyOfSpec : ChangeSpec := { name := "fnNamedManyOf", fn := fun _ => fun
  | [d1, d2, d3] => { results := [.lit (.bool true)], args := [d1, d2, d3] }
  | _ => none }
def fnNamedManyOfRow : OpenClaim := { program := "ytnmhoghmhglimaadoor", sum := "abeadf28cf288ab21af1bbe830da6a878df2da68396713d052ee269356545ede", func := "given.example/pub-conveyance/laws.FnNamedManyOf", spec := "fnNamedManyOf", recurses := true, named := ["internal/strconv.uint64pow10", "math/bits.deBruijn32tab", "math/bits.deBruijn64tab", "bytes.ErrTooLarge"], loops := true, apart := false, laid := [("math/bits.deBruijn32tab", laid_math_bits_deBruijn32tab), ("math/bits.deBruijn64tab", laid_math_bits_deBruijn64tab), ("internal/strconv.uint64pow10", laid_internal_strconv_uint64pow10), ("bytes.ErrTooLarge", laid_bytes_ErrTooLarge)] }
def FnNamedManyOfSaid : Prop := fnNamedManyOfRow.holds Tryd.pinned (OpenSpec.ofChange fnNamedManyOfSpec)

/-- ITS FALSE NEIGHBOUR: 'it returns false'. Refute it at one input. -/
def fnNamedManyOfWrong : ChangeSpec := { name := "fnNamedManyOf", fn := fun _ => fun
  | [d1, d2, d3] => { results := [.lit (.bool false)], args := [d1, d2, d3] }
  | _ => none }
def FnNamedManyOfWrongFalsely : Prop := fnNamedManyOfRow.holds Tryd.pinned (OpenSpec.ofChange fnNamedManyOfWrong)

/-- 'laws.FnNamedMany': WHATEVER THE INPUT: true; the input reads as it did. -/
def fnNamedManySpec : ChangeSpec := { name := "fnNamedMany", fn := fun _ => fun
  | [d1, d2] => { results := [.lit (.bool true)], args := [d1, d2] }
  | _ => none }
def fnNamedManyRow : OpenClaim := { program := "ytnmhoghmhglimaadoor", sum := "abeadf28cf288ab21af1bbe830da6a878df2da68396713d052ee269356545ede", func := "given.example/pub-conveyance/laws.FnNamedMany", spec := "fnNamedMany", recurses := true, named := ["internal/strconv.uint64pow10", "math/bits.deBruijn32tab", "math/bits.deBruijn64tab", "bytes.ErrTooLarge"], loops := true, apart := false, laid := [("math/bits.deBruijn32tab", laid_math_bits_deBruijn32tab), ("math/bits.deBruijn64tab", laid_math_bits_deBruijn64tab), ("internal/strconv.uint64pow10", laid_internal_strconv_uint64pow10), ("bytes.ErrTooLarge", laid_bytes_ErrTooLarge)] }
def FnNamedManySaid : Prop := fnNamedManyRow.holds Tryd.pinned (OpenSpec.ofChange fnNamedManySpec)

/-- ITS FALSE NEIGHBOUR: 'it returns false'. Refute it at one input. -/
def fnNamedManyWrong : ChangeSpec := { name := "fnNamedMany", fn := fun _ => fun
  | [d1, d2] => { results := [.lit (.bool false)], args := [d1, d2] }
  | _ => none }
def FnNamedManyWrongFalsely : Prop := fnNamedManyRow.holds Tryd.pinned (OpenSpec.ofChange fnNamedManyWrong)

/-- 'laws.FnNamedRows': WHATEVER THE INPUT: true; the input reads as it did. -/
def fnNamedRowsSpec : ChangeSpec := { name := "fnNamedRows", fn := fun _ => fun
  | [d1, d2] => { results := [.lit (.bool true)], args := [d1, d2] }
  | _ => none }
def fnNamedRowsRow : OpenClaim := { program := "ytnmhoghmhglimaadoor", sum := "abeadf28cf288ab21af1bbe830da6a878df2da68396713d052ee269356545ede", func := "given.example/pub-conveyance/laws.FnNamedRows", spec := "fnNamedRows", recurses := true, named := ["internal/strconv.uint64pow10", "math/bits.deBruijn32tab", "math/bits.deBruijn64tab", "bytes.ErrTooLarge"], loops := true, apart := false, laid := [("math/bits.deBruijn32tab", laid_math_bits_deBruijn32tab), ("math/bits.deBruijn64tab", laid_math_bits_deBruijn64tab), ("internal/strconv.uint64pow10", laid_internal_strconv_uint64pow10), ("bytes.ErrTooLarge", laid_bytes_ErrTooLarge)] }
def FnNamedRowsSaid : Prop := fnNamedRowsRow.holds Tryd.pinned (OpenSpec.ofChange fnNamedRowsSpec)

/-- ITS FALSE NEIGHBOUR: 'it returns false'. Refute it at one input. -/
def fnNamedRowsWrong : ChangeSpec := { name := "fnNamedRows", fn := fun _ => fun
  | [d1, d2] => { results := [.lit (.bool false)], args := [d1, d2] }
  | _ => none }
def FnNamedRowsWrongFalsely : Prop := fnNamedRowsRow.holds Tryd.pinned (OpenSpec.ofChange fnNamedRowsWrong)

/-- 'laws.FnRoad': WHATEVER THE INPUT: true; the input reads as it did. -/
def fnRoadSpec : ChangeSpec := { name := "fnRoad", fn := fun _ => fun
  | [d1, d2, d3] => { results := [.lit (.bool true)], args := [d1, d2, d3] }
  | _ => none }
def fnRoadRow : OpenClaim := { program := "ytnmhoghmhglimaadoor", sum := "abeadf28cf288ab21af1bbe830da6a878df2da68396713d052ee269356545ede", func := "given.example/pub-conveyance/laws.FnRoad", spec := "fnRoad", inPlace := ["internal/abi.NoEscape", "internal/bytealg.MakeNoZero"], recurses := true, named := ["internal/strconv.uint64pow10", "math/bits.deBruijn32tab", "math/bits.deBruijn64tab", "bytes.ErrTooLarge"], loops := true, apart := false, laid := [("math/bits.deBruijn32tab", laid_math_bits_deBruijn32tab), ("math/bits.deBruijn64tab", laid_math_bits_deBruijn64tab), ("internal/strconv.uint64pow10", laid_internal_strconv_uint64pow10), ("bytes.ErrTooLarge", laid_bytes_ErrTooLarge)] }
def FnRoadSaid : Prop := fnRoadRow.holds Tryd.pinned (OpenSpec.ofChange fnRoadSpec)

/-- ITS FALSE NEIGHBOUR: 'it returns false'. Refute it at one input. -/
def fnRoadWrong : ChangeSpec := { name := "fnRoad", fn := fun _ => fun
  | [d1, d2, d3] => { results := [.lit (.bool false)], args := [d1, d2, d3] }
  | _ => none }
def FnRoadWrongFalsely : Prop := fnRoadRow.holds Tryd.pinned (OpenSpec.ofChange fnRoadWrong)

/- THE SECOND FORM. 'bulk': how many values and letters a reading holds, each counted each time it is reached (what is shared counts as often as it is met; a slice's spare places count too). A statement '..UptoSaid' is the law's where the arguments, and the package variables that the reading takes, are together of bulk at most 1048576: NARROWER than '..Said'. Prove '..Said' where nothing that the law and all that it calls make is longer than what came in: it says more and counts as full. Else prove '..UptoSaid'. A law counts once. -/
mutual
def uptoBulk {H : Type} : DataW H → Nat
  | .lit (.string bytes) => bytes.length + 1
  | .lit _ => 1
  | .nil => 1
  | .ptr d => uptoBulk d + 1
  | .slice elems spare => uptoBulkAll elems + uptoBulkAll spare + 1
  | .agg parts => uptoBulkAll parts + 1
  | .iface _ d => uptoBulk d + 1
  | .map entries => uptoBulkEntries entries + 1
  | .held _ => 1
def uptoBulkAll {H : Type} : List (DataW H) → Nat
  | [] => 0
  | d :: r => uptoBulk d + uptoBulkAll r
def uptoBulkEntries {H : Type} : List (Lit × DataW H) → Nat
  | [] => 0
  | x :: r => uptoBulkEntry x + uptoBulkEntries r
def uptoBulkEntry {H : Type} : Lit × DataW H → Nat
  | (.string bytes, d) => bytes.length + uptoBulk d + 1
  | (_, d) => uptoBulk d + 1
 end
def uptoSmall : (H : Type) → List (DataW H) → Bool := fun _ ds => decide (uptoBulkAll ds ≤ 1048576)
def OpenSpec.upto (s : _root_.Go.ChangeSpec) : _root_.Go.OpenSpec := { _root_.Go.OpenSpec.ofChange s with cond := some uptoSmall }

/-- 'laws.FnRepeated', WHERE WHAT IT READS IS OF BULK AT MOST 1048576: true; the input reads as it did. -/
def fnRepeatedUptoRow : OpenClaim := { program := "ytnmhoghmhglimaadoor", sum := "abeadf28cf288ab21af1bbe830da6a878df2da68396713d052ee269356545ede", func := "given.example/pub-conveyance/laws.FnRepeated", spec := "fnRepeated", named := ["bytes.ErrTooLarge"], apart := false, laid := [("bytes.ErrTooLarge", laid_bytes_ErrTooLarge)], narrowed := true }
def FnRepeatedUptoSaid : Prop := fnRepeatedUptoRow.holds Tryd.pinned (OpenSpec.upto fnRepeatedSpec)

/-- 'laws.FnRepeatedTwice', WHERE WHAT IT READS IS OF BULK AT MOST 1048576: true; the input reads as it did. -/
def fnRepeatedTwiceUptoRow : OpenClaim := { program := "ytnmhoghmhglimaadoor", sum := "abeadf28cf288ab21af1bbe830da6a878df2da68396713d052ee269356545ede", func := "given.example/pub-conveyance/laws.FnRepeatedTwice", spec := "fnRepeatedTwice", named := ["bytes.ErrTooLarge"], apart := false, laid := [("bytes.ErrTooLarge", laid_bytes_ErrTooLarge)], narrowed := true }
def FnRepeatedTwiceUptoSaid : Prop := fnRepeatedTwiceUptoRow.holds Tryd.pinned (OpenSpec.upto fnRepeatedTwiceSpec)

/-- 'laws.FnRebound', WHERE WHAT IT READS IS OF BULK AT MOST 1048576: true; the input reads as it did. -/
def fnReboundUptoRow : OpenClaim := { program := "ytnmhoghmhglimaadoor", sum := "abeadf28cf288ab21af1bbe830da6a878df2da68396713d052ee269356545ede", func := "given.example/pub-conveyance/laws.FnRebound", spec := "fnRebound", recurses := true, named := ["internal/strconv.uint64pow10", "math/bits.deBruijn32tab", "math/bits.deBruijn64tab"], apart := false, laid := [("math/bits.deBruijn32tab", laid_math_bits_deBruijn32tab), ("math/bits.deBruijn64tab", laid_math_bits_deBruijn64tab), ("internal/strconv.uint64pow10", laid_internal_strconv_uint64pow10)], narrowed := true }
def FnReboundUptoSaid : Prop := fnReboundUptoRow.holds Tryd.pinned (OpenSpec.upto fnReboundSpec)

/-- 'laws.FnCompiled', WHERE WHAT IT READS IS OF BULK AT MOST 1048576: true; the input reads as it did. -/
def fnCompiledUptoRow : OpenClaim := { program := "ytnmhoghmhglimaadoor", sum := "abeadf28cf288ab21af1bbe830da6a878df2da68396713d052ee269356545ede", func := "given.example/pub-conveyance/laws.FnCompiled", spec := "fnCompiled", recurses := true, named := ["internal/strconv.uint64pow10", "math/bits.deBruijn32tab", "math/bits.deBruijn64tab"], apart := false, laid := [("math/bits.deBruijn32tab", laid_math_bits_deBruijn32tab), ("math/bits.deBruijn64tab", laid_math_bits_deBruijn64tab), ("internal/strconv.uint64pow10", laid_internal_strconv_uint64pow10)], narrowed := true }
def FnCompiledUptoSaid : Prop := fnCompiledUptoRow.holds Tryd.pinned (OpenSpec.upto fnCompiledSpec)

/-- 'laws.FnCompiledAgain', WHERE WHAT IT READS IS OF BULK AT MOST 1048576: true; the input reads as it did. -/
def fnCompiledAgainUptoRow : OpenClaim := { program := "ytnmhoghmhglimaadoor", sum := "abeadf28cf288ab21af1bbe830da6a878df2da68396713d052ee269356545ede", func := "given.example/pub-conveyance/laws.FnCompiledAgain", spec := "fnCompiledAgain", recurses := true, named := ["internal/strconv.uint64pow10", "math/bits.deBruijn32tab", "math/bits.deBruijn64tab"], apart := false, laid := [("math/bits.deBruijn32tab", laid_math_bits_deBruijn32tab), ("math/bits.deBruijn64tab", laid_math_bits_deBruijn64tab), ("internal/strconv.uint64pow10", laid_internal_strconv_uint64pow10)], narrowed := true }
def FnCompiledAgainUptoSaid : Prop := fnCompiledAgainUptoRow.holds Tryd.pinned (OpenSpec.upto fnCompiledAgainSpec)

/-- 'laws.FnCompiledWritten', WHERE WHAT IT READS IS OF BULK AT MOST 1048576: true; the input reads as it did. -/
def fnCompiledWrittenUptoRow : OpenClaim := { program := "ytnmhoghmhglimaadoor", sum := "abeadf28cf288ab21af1bbe830da6a878df2da68396713d052ee269356545ede", func := "given.example/pub-conveyance/laws.FnCompiledWritten", spec := "fnCompiledWritten", recurses := true, named := ["internal/strconv.uint64pow10", "math/bits.deBruijn32tab", "math/bits.deBruijn64tab"], apart := false, laid := [("math/bits.deBruijn32tab", laid_math_bits_deBruijn32tab), ("math/bits.deBruijn64tab", laid_math_bits_deBruijn64tab), ("internal/strconv.uint64pow10", laid_internal_strconv_uint64pow10)], narrowed := true }
def FnCompiledWrittenUptoSaid : Prop := fnCompiledWrittenUptoRow.holds Tryd.pinned (OpenSpec.upto fnCompiledWrittenSpec)

/-- 'laws.FnCompiledKinds', WHERE WHAT IT READS IS OF BULK AT MOST 1048576: true; the input reads as it did. -/
def fnCompiledKindsUptoRow : OpenClaim := { program := "ytnmhoghmhglimaadoor", sum := "abeadf28cf288ab21af1bbe830da6a878df2da68396713d052ee269356545ede", func := "given.example/pub-conveyance/laws.FnCompiledKinds", spec := "fnCompiledKinds", recurses := true, named := ["internal/strconv.uint64pow10", "math/bits.deBruijn32tab", "math/bits.deBruijn64tab"], apart := false, laid := [("math/bits.deBruijn32tab", laid_math_bits_deBruijn32tab), ("math/bits.deBruijn64tab", laid_math_bits_deBruijn64tab), ("internal/strconv.uint64pow10", laid_internal_strconv_uint64pow10)], narrowed := true }
def FnCompiledKindsUptoSaid : Prop := fnCompiledKindsUptoRow.holds Tryd.pinned (OpenSpec.upto fnCompiledKindsSpec)

/-- 'laws.FnNamedOf', WHERE WHAT IT READS IS OF BULK AT MOST 1048576: true; the input reads as it did. -/
def fnNamedOfUptoRow : OpenClaim := { program := "ytnmhoghmhglimaadoor", sum := "abeadf28cf288ab21af1bbe830da6a878df2da68396713d052ee269356545ede", func := "given.example/pub-conveyance/laws.FnNamedOf", spec := "fnNamedOf", recurses := true, named := ["internal/strconv.uint64pow10", "math/bits.deBruijn32tab", "math/bits.deBruijn64tab", "bytes.ErrTooLarge"], loops := true, apart := false, laid := [("math/bits.deBruijn32tab", laid_math_bits_deBruijn32tab), ("math/bits.deBruijn64tab", laid_math_bits_deBruijn64tab), ("internal/strconv.uint64pow10", laid_internal_strconv_uint64pow10), ("bytes.ErrTooLarge", laid_bytes_ErrTooLarge)], narrowed := true }
def FnNamedOfUptoSaid : Prop := fnNamedOfUptoRow.holds Tryd.pinned (OpenSpec.upto fnNamedOfSpec)

/-- 'laws.FnNamed', WHERE WHAT IT READS IS OF BULK AT MOST 1048576: true; the input reads as it did. -/
def fnNamedUptoRow : OpenClaim := { program := "ytnmhoghmhglimaadoor", sum := "abeadf28cf288ab21af1bbe830da6a878df2da68396713d052ee269356545ede", func := "given.example/pub-conveyance/laws.FnNamed", spec := "fnNamed", recurses := true, named := ["internal/strconv.uint64pow10", "math/bits.deBruijn32tab", "math/bits.deBruijn64tab", "bytes.ErrTooLarge"], loops := true, apart := false, laid := [("math/bits.deBruijn32tab", laid_math_bits_deBruijn32tab), ("math/bits.deBruijn64tab", laid_math_bits_deBruijn64tab), ("internal/strconv.uint64pow10", laid_internal_strconv_uint64pow10), ("bytes.ErrTooLarge", laid_bytes_ErrTooLarge)], narrowed := true }
def FnNamedUptoSaid : Prop := fnNamedUptoRow.holds Tryd.pinned (OpenSpec.upto fnNamedSpec)

/-- 'laws.FnNamedOrder', WHERE WHAT IT READS IS OF BULK AT MOST 1048576: true; the input reads as it did. -/
def fnNamedOrderUptoRow : OpenClaim := { program := "ytnmhoghmhglimaadoor", sum := "abeadf28cf288ab21af1bbe830da6a878df2da68396713d052ee269356545ede", func := "given.example/pub-conveyance/laws.FnNamedOrder", spec := "fnNamedOrder", recurses := true, named := ["internal/strconv.uint64pow10", "math/bits.deBruijn32tab", "math/bits.deBruijn64tab", "bytes.ErrTooLarge"], loops := true, apart := false, laid := [("math/bits.deBruijn32tab", laid_math_bits_deBruijn32tab), ("math/bits.deBruijn64tab", laid_math_bits_deBruijn64tab), ("internal/strconv.uint64pow10", laid_internal_strconv_uint64pow10), ("bytes.ErrTooLarge", laid_bytes_ErrTooLarge)], narrowed := true }
def FnNamedOrderUptoSaid : Prop := fnNamedOrderUptoRow.holds Tryd.pinned (OpenSpec.upto fnNamedOrderSpec)

/-- 'laws.FnNamedTwo', WHERE WHAT IT READS IS OF BULK AT MOST 1048576: true; the input reads as it did. -/
def fnNamedTwoUptoRow : OpenClaim := { program := "ytnmhoghmhglimaadoor", sum := "abeadf28cf288ab21af1bbe830da6a878df2da68396713d052ee269356545ede", func := "given.example/pub-conveyance/laws.FnNamedTwo", spec := "fnNamedTwo", recurses := true, named := ["internal/strconv.uint64pow10", "math/bits.deBruijn32tab", "math/bits.deBruijn64tab", "bytes.ErrTooLarge"], loops := true, apart := false, laid := [("math/bits.deBruijn32tab", laid_math_bits_deBruijn32tab), ("math/bits.deBruijn64tab", laid_math_bits_deBruijn64tab), ("internal/strconv.uint64pow10", laid_internal_strconv_uint64pow10), ("bytes.ErrTooLarge", laid_bytes_ErrTooLarge)], narrowed := true }
def FnNamedTwoUptoSaid : Prop := fnNamedTwoUptoRow.holds Tryd.pinned (OpenSpec.upto fnNamedTwoSpec)

/-- 'laws.FnNamedManyOf', WHERE WHAT IT READS IS OF BULK AT MOST 1048576: true; the input reads as it did. -/
def fnNamedManyOfUptoRow : OpenClaim := { program := "ytnmhoghmhglimaadoor", sum := "abeadf28cf288ab21af1bbe830da6a878df2da68396713d052ee269356545ede", func := "given.example/pub-conveyance/laws.FnNamedManyOf", spec := "fnNamedManyOf", recurses := true, named := ["internal/strconv.uint64pow10", "math/bits.deBruijn32tab", "math/bits.deBruijn64tab", "bytes.ErrTooLarge"], loops := true, apart := false, laid := [("math/bits.deBruijn32tab", laid_math_bits_deBruijn32tab), ("math/bits.deBruijn64tab", laid_math_bits_deBruijn64tab), ("internal/strconv.uint64pow10", laid_internal_strconv_uint64pow10), ("bytes.ErrTooLarge", laid_bytes_ErrTooLarge)], narrowed := true }
def FnNamedManyOfUptoSaid : Prop := fnNamedManyOfUptoRow.holds Tryd.pinned (OpenSpec.upto fnNamedManyOfSpec)

/-- 'laws.FnNamedMany', WHERE WHAT IT READS IS OF BULK AT MOST 1048576: true; the input reads as it did. -/
def fnNamedManyUptoRow : OpenClaim := { program := "ytnmhoghmhglimaadoor", sum := "abeadf28cf288ab21af1bbe830da6a878df2da68396713d052ee269356545ede", func := "given.example/pub-conveyance/laws.FnNamedMany", spec := "fnNamedMany", recurses := true, named := ["internal/strconv.uint64pow10", "math/bits.deBruijn32tab", "math/bits.deBruijn64tab", "bytes.ErrTooLarge"], loops := true, apart := false, laid := [("math/bits.deBruijn32tab", laid_math_bits_deBruijn32tab), ("math/bits.deBruijn64tab", laid_math_bits_deBruijn64tab), ("internal/strconv.uint64pow10", laid_internal_strconv_uint64pow10), ("bytes.ErrTooLarge", laid_bytes_ErrTooLarge)], narrowed := true }
def FnNamedManyUptoSaid : Prop := fnNamedManyUptoRow.holds Tryd.pinned (OpenSpec.upto fnNamedManySpec)

/-- 'laws.FnNamedRows', WHERE WHAT IT READS IS OF BULK AT MOST 1048576: true; the input reads as it did. -/
def fnNamedRowsUptoRow : OpenClaim := { program := "ytnmhoghmhglimaadoor", sum := "abeadf28cf288ab21af1bbe830da6a878df2da68396713d052ee269356545ede", func := "given.example/pub-conveyance/laws.FnNamedRows", spec := "fnNamedRows", recurses := true, named := ["internal/strconv.uint64pow10", "math/bits.deBruijn32tab", "math/bits.deBruijn64tab", "bytes.ErrTooLarge"], loops := true, apart := false, laid := [("math/bits.deBruijn32tab", laid_math_bits_deBruijn32tab), ("math/bits.deBruijn64tab", laid_math_bits_deBruijn64tab), ("internal/strconv.uint64pow10", laid_internal_strconv_uint64pow10), ("bytes.ErrTooLarge", laid_bytes_ErrTooLarge)], narrowed := true }
def FnNamedRowsUptoSaid : Prop := fnNamedRowsUptoRow.holds Tryd.pinned (OpenSpec.upto fnNamedRowsSpec)

/-- 'laws.FnRoad', WHERE WHAT IT READS IS OF BULK AT MOST 1048576: true; the input reads as it did. -/
def fnRoadUptoRow : OpenClaim := { program := "ytnmhoghmhglimaadoor", sum := "abeadf28cf288ab21af1bbe830da6a878df2da68396713d052ee269356545ede", func := "given.example/pub-conveyance/laws.FnRoad", spec := "fnRoad", inPlace := ["internal/abi.NoEscape", "internal/bytealg.MakeNoZero"], recurses := true, named := ["internal/strconv.uint64pow10", "math/bits.deBruijn32tab", "math/bits.deBruijn64tab", "bytes.ErrTooLarge"], loops := true, apart := false, laid := [("math/bits.deBruijn32tab", laid_math_bits_deBruijn32tab), ("math/bits.deBruijn64tab", laid_math_bits_deBruijn64tab), ("internal/strconv.uint64pow10", laid_internal_strconv_uint64pow10), ("bytes.ErrTooLarge", laid_bytes_ErrTooLarge)], narrowed := true }
def FnRoadUptoSaid : Prop := fnRoadUptoRow.holds Tryd.pinned (OpenSpec.upto fnRoadSpec)

end Rows
end Go.Proofs.YtnmhoghmhglimaaDoor
