/-
  NARROWER THAN 'FOR EVERY INPUT', by the rows' own cells (each row's printed sentence says how): FnConstantAlike: laid · FnConstantAny: laid · FnConstantBool: laid · FnConstantLeast: laid · FnConstantSigned: laid · FnLegacyEscapes: laid · FnLegacyFirst: laid · FnLegacyNoHash: laid · FnLegacyNoNumber: laid · FnLegacyOne: laid · FnLegacyOptions: laid · FnMaxLengthLegacy: laid.
  DERIVED. THE GIVEN ROWS OF THIS SEAT. 12 by the template 'for every input the law returns true; each argument reads behind the call as it read before'; 0 by the template 'total and deterministic' (their statements: YtpmlnhddkbgefaaDoorTotals.lean).
  GIVEN WITH THE SEED: the statements are not yours to turn. If you find one false, say at which input.
  Laid BY PROGRAM, IN A SANDBOX (cutbox-rows.mjs): the forced cells as the released guide's own fill.sh prints them over the translation f1051f4b0f3902c5… (all of the seat's roots in one cut). By AI agents, Wed Nov 11 2026. No macro, syntax, notation, axiom, sorry.
-/
import Derived.Test.YtpmlnhddkbgefaaDoorChecked
import GoSem.PinnedTables
import GoSem.Claim
import GoSem.ClaimJoined
import GoSem.ClaimMapViews
import Derived.JoinedTies
import Derived.KernelRfl
namespace Go.Proofs.YtpmlnhddkbgefaaDoor
/- THE CELL 'sum', in the pinned program and in every row, IS THE sha256 OF THE DUMP (.gsa) THAT YtpmlnhddkbgefaaDoorProg.lean LOADS. Nothing in Lean hashes anything: it is a label: what it is worth is what the hold of that sum in a sandbox is worth. -/
noncomputable def Tryd.pinned : Pinned := { name := "ytpmlnhddkbgefaadoor", sum := "f1051f4b0f3902c5b4851e8d663564fd5d520b8cdf453d798e70d3976dbb387d", checked := Tryd.checked }
namespace Rows
def none {H : Type} : Left H := { results := [], args := [] }

/- WHAT THE LISTED PACKAGE-LEVEL VARIABLES READ AS WHEN THE CALL BEGINS. Each datum BY PROGRAM (the guide's laid-datum.mjs) off the statement by which the dump's own 'gosem.cut.vars' lays the variable. In a bare row this is a premise. The card (YtpmlnhddkbgefaaDoorCards.lean) ties it to the program's text. -/
def laid_math_bits_deBruijn32tab {H : Type} : DataW H := .agg [.lit (.int .u8 0), .lit (.int .u8 1), .lit (.int .u8 28), .lit (.int .u8 2), .lit (.int .u8 29), .lit (.int .u8 14), .lit (.int .u8 24), .lit (.int .u8 3), .lit (.int .u8 30), .lit (.int .u8 22), .lit (.int .u8 20), .lit (.int .u8 15), .lit (.int .u8 25), .lit (.int .u8 17), .lit (.int .u8 4), .lit (.int .u8 8), .lit (.int .u8 31), .lit (.int .u8 27), .lit (.int .u8 13), .lit (.int .u8 23), .lit (.int .u8 21), .lit (.int .u8 19), .lit (.int .u8 16), .lit (.int .u8 7), .lit (.int .u8 26), .lit (.int .u8 12), .lit (.int .u8 18), .lit (.int .u8 6), .lit (.int .u8 11), .lit (.int .u8 5), .lit (.int .u8 10), .lit (.int .u8 9)]
def laid_math_bits_deBruijn64tab {H : Type} : DataW H := .agg [.lit (.int .u8 0), .lit (.int .u8 1), .lit (.int .u8 56), .lit (.int .u8 2), .lit (.int .u8 57), .lit (.int .u8 49), .lit (.int .u8 28), .lit (.int .u8 3), .lit (.int .u8 61), .lit (.int .u8 58), .lit (.int .u8 42), .lit (.int .u8 50), .lit (.int .u8 38), .lit (.int .u8 29), .lit (.int .u8 17), .lit (.int .u8 4), .lit (.int .u8 62), .lit (.int .u8 47), .lit (.int .u8 59), .lit (.int .u8 36), .lit (.int .u8 45), .lit (.int .u8 43), .lit (.int .u8 51), .lit (.int .u8 22), .lit (.int .u8 53), .lit (.int .u8 39), .lit (.int .u8 33), .lit (.int .u8 30), .lit (.int .u8 24), .lit (.int .u8 18), .lit (.int .u8 12), .lit (.int .u8 5), .lit (.int .u8 63), .lit (.int .u8 55), .lit (.int .u8 48), .lit (.int .u8 27), .lit (.int .u8 60), .lit (.int .u8 41), .lit (.int .u8 37), .lit (.int .u8 16), .lit (.int .u8 46), .lit (.int .u8 35), .lit (.int .u8 44), .lit (.int .u8 21), .lit (.int .u8 52), .lit (.int .u8 32), .lit (.int .u8 23), .lit (.int .u8 11), .lit (.int .u8 54), .lit (.int .u8 26), .lit (.int .u8 40), .lit (.int .u8 15), .lit (.int .u8 34), .lit (.int .u8 20), .lit (.int .u8 31), .lit (.int .u8 10), .lit (.int .u8 25), .lit (.int .u8 14), .lit (.int .u8 19), .lit (.int .u8 9), .lit (.int .u8 13), .lit (.int .u8 8), .lit (.int .u8 7), .lit (.int .u8 6)]
def laid_internal_strconv_uint64pow10 {H : Type} : DataW H := .agg [.lit (.int .u64 1), .lit (.int .u64 10), .lit (.int .u64 100), .lit (.int .u64 1000), .lit (.int .u64 10000), .lit (.int .u64 100000), .lit (.int .u64 1000000), .lit (.int .u64 10000000), .lit (.int .u64 100000000), .lit (.int .u64 1000000000), .lit (.int .u64 10000000000), .lit (.int .u64 100000000000), .lit (.int .u64 1000000000000), .lit (.int .u64 10000000000000), .lit (.int .u64 100000000000000), .lit (.int .u64 1000000000000000), .lit (.int .u64 10000000000000000), .lit (.int .u64 100000000000000000), .lit (.int .u64 1000000000000000000), .lit (.int .u64 10000000000000000000)]
def laid_unicode_utf8_acceptRanges {H : Type} : DataW H := .agg [.agg [.lit (.int .u8 128), .lit (.int .u8 191)], .agg [.lit (.int .u8 160), .lit (.int .u8 191)], .agg [.lit (.int .u8 128), .lit (.int .u8 159)], .agg [.lit (.int .u8 144), .lit (.int .u8 191)], .agg [.lit (.int .u8 128), .lit (.int .u8 143)], .agg [.lit (.int .u8 0), .lit (.int .u8 0)], .agg [.lit (.int .u8 0), .lit (.int .u8 0)], .agg [.lit (.int .u8 0), .lit (.int .u8 0)], .agg [.lit (.int .u8 0), .lit (.int .u8 0)], .agg [.lit (.int .u8 0), .lit (.int .u8 0)], .agg [.lit (.int .u8 0), .lit (.int .u8 0)], .agg [.lit (.int .u8 0), .lit (.int .u8 0)], .agg [.lit (.int .u8 0), .lit (.int .u8 0)], .agg [.lit (.int .u8 0), .lit (.int .u8 0)], .agg [.lit (.int .u8 0), .lit (.int .u8 0)], .agg [.lit (.int .u8 0), .lit (.int .u8 0)]]
/-- One of Go's own tables, pinned by name: the form's constant. -/
def laid_unicode_utf8_first : DataW Unit := Go.Pinned.utf8First

/-- 'laws.FnConstantAlike': WHATEVER THE INPUT: true; the input reads as it did. -/
def fnConstantAlikeSpec : ChangeSpec := { name := "fnConstantAlike", fn := fun _ => fun
  | [d1, d2, d3] => { results := [.lit (.bool true)], args := [d1, d2, d3] }
  | _ => none }
def fnConstantAlikeRow : OpenClaim := { program := "ytpmlnhddkbgefaadoor", sum := "f1051f4b0f3902c5b4851e8d663564fd5d520b8cdf453d798e70d3976dbb387d", func := "loop.example/pub-g01453/laws.FnConstantAlike", spec := "fnConstantAlike", inPlace := ["internal/abi.NoEscape"], unfollowed := true, recurses := true, named := ["internal/strconv.uint64pow10", "math/bits.deBruijn32tab", "math/bits.deBruijn64tab"], apart := false, laid := [("math/bits.deBruijn32tab", laid_math_bits_deBruijn32tab), ("math/bits.deBruijn64tab", laid_math_bits_deBruijn64tab), ("internal/strconv.uint64pow10", laid_internal_strconv_uint64pow10)] }
def FnConstantAlikeSaid : Prop := fnConstantAlikeRow.holds Tryd.pinned (OpenSpec.ofChange fnConstantAlikeSpec)

/-- ITS FALSE NEIGHBOUR: 'it returns false'. Refute it at one input. -/
def fnConstantAlikeWrong : ChangeSpec := { name := "fnConstantAlike", fn := fun _ => fun
  | [d1, d2, d3] => { results := [.lit (.bool false)], args := [d1, d2, d3] }
  | _ => none }
def FnConstantAlikeWrongFalsely : Prop := fnConstantAlikeRow.holds Tryd.pinned (OpenSpec.ofChange fnConstantAlikeWrong)

/-- 'laws.FnConstantAny': WHATEVER THE INPUT: true; the input reads as it did. -/
def fnConstantAnySpec : ChangeSpec := { name := "fnConstantAny", fn := fun _ => fun
  | [d] => { results := [.lit (.bool true)], args := [d] }
  | _ => none }
def fnConstantAnyRow : OpenClaim := { program := "ytpmlnhddkbgefaadoor", sum := "f1051f4b0f3902c5b4851e8d663564fd5d520b8cdf453d798e70d3976dbb387d", func := "loop.example/pub-g01453/laws.FnConstantAny", spec := "fnConstantAny", inPlace := ["internal/abi.NoEscape"], unfollowed := true, recurses := true, named := ["internal/strconv.uint64pow10", "math/bits.deBruijn32tab", "math/bits.deBruijn64tab"], apart := false, laid := [("math/bits.deBruijn32tab", laid_math_bits_deBruijn32tab), ("math/bits.deBruijn64tab", laid_math_bits_deBruijn64tab), ("internal/strconv.uint64pow10", laid_internal_strconv_uint64pow10)] }
def FnConstantAnySaid : Prop := fnConstantAnyRow.holds Tryd.pinned (OpenSpec.ofChange fnConstantAnySpec)

/-- ITS FALSE NEIGHBOUR: 'it returns false'. Refute it at one input. -/
def fnConstantAnyWrong : ChangeSpec := { name := "fnConstantAny", fn := fun _ => fun
  | [d] => { results := [.lit (.bool false)], args := [d] }
  | _ => none }
def FnConstantAnyWrongFalsely : Prop := fnConstantAnyRow.holds Tryd.pinned (OpenSpec.ofChange fnConstantAnyWrong)

/-- 'laws.FnConstantBool': WHATEVER THE INPUT: true; the input reads as it did. -/
def fnConstantBoolSpec : ChangeSpec := { name := "fnConstantBool", fn := fun _ => fun
  | [d] => { results := [.lit (.bool true)], args := [d] }
  | _ => none }
def fnConstantBoolRow : OpenClaim := { program := "ytpmlnhddkbgefaadoor", sum := "f1051f4b0f3902c5b4851e8d663564fd5d520b8cdf453d798e70d3976dbb387d", func := "loop.example/pub-g01453/laws.FnConstantBool", spec := "fnConstantBool", inPlace := ["internal/abi.NoEscape"], unfollowed := true, recurses := true, named := ["internal/strconv.uint64pow10", "math/bits.deBruijn32tab", "math/bits.deBruijn64tab"], apart := false, laid := [("math/bits.deBruijn32tab", laid_math_bits_deBruijn32tab), ("math/bits.deBruijn64tab", laid_math_bits_deBruijn64tab), ("internal/strconv.uint64pow10", laid_internal_strconv_uint64pow10)] }
def FnConstantBoolSaid : Prop := fnConstantBoolRow.holds Tryd.pinned (OpenSpec.ofChange fnConstantBoolSpec)

/-- ITS FALSE NEIGHBOUR: 'it returns false'. Refute it at one input. -/
def fnConstantBoolWrong : ChangeSpec := { name := "fnConstantBool", fn := fun _ => fun
  | [d] => { results := [.lit (.bool false)], args := [d] }
  | _ => none }
def FnConstantBoolWrongFalsely : Prop := fnConstantBoolRow.holds Tryd.pinned (OpenSpec.ofChange fnConstantBoolWrong)

/-- 'laws.FnConstantLeast': WHATEVER THE INPUT: true; the input reads as it did. -/
def fnConstantLeastSpec : ChangeSpec := { name := "fnConstantLeast", fn := fun _ => fun
  | [d1, d2] => { results := [.lit (.bool true)], args := [d1, d2] }
  | _ => none }
def fnConstantLeastRow : OpenClaim := { program := "ytpmlnhddkbgefaadoor", sum := "f1051f4b0f3902c5b4851e8d663564fd5d520b8cdf453d798e70d3976dbb387d", func := "loop.example/pub-g01453/laws.FnConstantLeast", spec := "fnConstantLeast", inPlace := ["internal/abi.NoEscape"], unfollowed := true, recurses := true, named := ["internal/strconv.uint64pow10", "math/bits.deBruijn32tab", "math/bits.deBruijn64tab"], apart := false, laid := [("math/bits.deBruijn32tab", laid_math_bits_deBruijn32tab), ("math/bits.deBruijn64tab", laid_math_bits_deBruijn64tab), ("internal/strconv.uint64pow10", laid_internal_strconv_uint64pow10)] }
def FnConstantLeastSaid : Prop := fnConstantLeastRow.holds Tryd.pinned (OpenSpec.ofChange fnConstantLeastSpec)

/-- ITS FALSE NEIGHBOUR: 'it returns false'. Refute it at one input. -/
def fnConstantLeastWrong : ChangeSpec := { name := "fnConstantLeast", fn := fun _ => fun
  | [d1, d2] => { results := [.lit (.bool false)], args := [d1, d2] }
  | _ => none }
def FnConstantLeastWrongFalsely : Prop := fnConstantLeastRow.holds Tryd.pinned (OpenSpec.ofChange fnConstantLeastWrong)

/-- 'laws.FnConstantSigned': WHATEVER THE INPUT: true; the input reads as it did. -/
def fnConstantSignedSpec : ChangeSpec := { name := "fnConstantSigned", fn := fun _ => fun
  | [d1, d2, d3] => { results := [.lit (.bool true)], args := [d1, d2, d3] }
  | _ => none }
def fnConstantSignedRow : OpenClaim := { program := "ytpmlnhddkbgefaadoor", sum := "f1051f4b0f3902c5b4851e8d663564fd5d520b8cdf453d798e70d3976dbb387d", func := "loop.example/pub-g01453/laws.FnConstantSigned", spec := "fnConstantSigned", inPlace := ["internal/abi.NoEscape"], unfollowed := true, recurses := true, named := ["unicode/utf8.first", "unicode/utf8.acceptRanges", "internal/strconv.uint64pow10", "math/bits.deBruijn32tab", "math/bits.deBruijn64tab"], apart := false, laid := [("math/bits.deBruijn32tab", laid_math_bits_deBruijn32tab), ("math/bits.deBruijn64tab", laid_math_bits_deBruijn64tab), ("internal/strconv.uint64pow10", laid_internal_strconv_uint64pow10), ("unicode/utf8.acceptRanges", laid_unicode_utf8_acceptRanges), ("unicode/utf8.first", laid_unicode_utf8_first)] }
def FnConstantSignedSaid : Prop := fnConstantSignedRow.holds Tryd.pinned (OpenSpec.ofChange fnConstantSignedSpec)

/-- ITS FALSE NEIGHBOUR: 'it returns false'. Refute it at one input. -/
def fnConstantSignedWrong : ChangeSpec := { name := "fnConstantSigned", fn := fun _ => fun
  | [d1, d2, d3] => { results := [.lit (.bool false)], args := [d1, d2, d3] }
  | _ => none }
def FnConstantSignedWrongFalsely : Prop := fnConstantSignedRow.holds Tryd.pinned (OpenSpec.ofChange fnConstantSignedWrong)

/-- 'laws.FnLegacyEscapes': WHATEVER THE INPUT: true; the input reads as it did. -/
def fnLegacyEscapesSpec : ChangeSpec := { name := "fnLegacyEscapes", fn := fun _ => fun
  | [d1, d2] => { results := [.lit (.bool true)], args := [d1, d2] }
  | _ => none }
def fnLegacyEscapesRow : OpenClaim := { program := "ytpmlnhddkbgefaadoor", sum := "f1051f4b0f3902c5b4851e8d663564fd5d520b8cdf453d798e70d3976dbb387d", func := "loop.example/pub-g01453/laws.FnLegacyEscapes", spec := "fnLegacyEscapes", inPlace := ["internal/abi.NoEscape"], unfollowed := true, recurses := true, named := ["internal/strconv.uint64pow10", "math/bits.deBruijn32tab", "math/bits.deBruijn64tab"], apart := false, laid := [("math/bits.deBruijn32tab", laid_math_bits_deBruijn32tab), ("math/bits.deBruijn64tab", laid_math_bits_deBruijn64tab), ("internal/strconv.uint64pow10", laid_internal_strconv_uint64pow10)] }
def FnLegacyEscapesSaid : Prop := fnLegacyEscapesRow.holds Tryd.pinned (OpenSpec.ofChange fnLegacyEscapesSpec)

/-- ITS FALSE NEIGHBOUR: 'it returns false'. Refute it at one input. -/
def fnLegacyEscapesWrong : ChangeSpec := { name := "fnLegacyEscapes", fn := fun _ => fun
  | [d1, d2] => { results := [.lit (.bool false)], args := [d1, d2] }
  | _ => none }
def FnLegacyEscapesWrongFalsely : Prop := fnLegacyEscapesRow.holds Tryd.pinned (OpenSpec.ofChange fnLegacyEscapesWrong)

/-- 'laws.FnLegacyFirst': WHATEVER THE INPUT: true; the input reads as it did. -/
def fnLegacyFirstSpec : ChangeSpec := { name := "fnLegacyFirst", fn := fun _ => fun
  | [d1, d2, d3] => { results := [.lit (.bool true)], args := [d1, d2, d3] }
  | _ => none }
def fnLegacyFirstRow : OpenClaim := { program := "ytpmlnhddkbgefaadoor", sum := "f1051f4b0f3902c5b4851e8d663564fd5d520b8cdf453d798e70d3976dbb387d", func := "loop.example/pub-g01453/laws.FnLegacyFirst", spec := "fnLegacyFirst", inPlace := ["internal/abi.NoEscape"], unfollowed := true, recurses := true, named := ["internal/strconv.uint64pow10", "math/bits.deBruijn32tab", "math/bits.deBruijn64tab"], apart := false, laid := [("math/bits.deBruijn32tab", laid_math_bits_deBruijn32tab), ("math/bits.deBruijn64tab", laid_math_bits_deBruijn64tab), ("internal/strconv.uint64pow10", laid_internal_strconv_uint64pow10)] }
def FnLegacyFirstSaid : Prop := fnLegacyFirstRow.holds Tryd.pinned (OpenSpec.ofChange fnLegacyFirstSpec)

/-- ITS FALSE NEIGHBOUR: 'it returns false'. Refute it at one input. -/
def fnLegacyFirstWrong : ChangeSpec := { name := "fnLegacyFirst", fn := fun _ => fun
  | [d1, d2, d3] => { results := [.lit (.bool false)], args := [d1, d2, d3] }
  | _ => none }
def FnLegacyFirstWrongFalsely : Prop := fnLegacyFirstRow.holds Tryd.pinned (OpenSpec.ofChange fnLegacyFirstWrong)

/-- 'laws.FnLegacyNoHash': WHATEVER THE INPUT: true; the input reads as it did. -/
def fnLegacyNoHashSpec : ChangeSpec := { name := "fnLegacyNoHash", fn := fun _ => fun
  | [d1, d2, d3, d4] => { results := [.lit (.bool true)], args := [d1, d2, d3, d4] }
  | _ => none }
def fnLegacyNoHashRow : OpenClaim := { program := "ytpmlnhddkbgefaadoor", sum := "f1051f4b0f3902c5b4851e8d663564fd5d520b8cdf453d798e70d3976dbb387d", func := "loop.example/pub-g01453/laws.FnLegacyNoHash", spec := "fnLegacyNoHash", inPlace := ["internal/abi.NoEscape"], unfollowed := true, recurses := true, named := ["internal/strconv.uint64pow10", "math/bits.deBruijn32tab", "math/bits.deBruijn64tab"], apart := false, laid := [("math/bits.deBruijn32tab", laid_math_bits_deBruijn32tab), ("math/bits.deBruijn64tab", laid_math_bits_deBruijn64tab), ("internal/strconv.uint64pow10", laid_internal_strconv_uint64pow10)] }
def FnLegacyNoHashSaid : Prop := fnLegacyNoHashRow.holds Tryd.pinned (OpenSpec.ofChange fnLegacyNoHashSpec)

/-- ITS FALSE NEIGHBOUR: 'it returns false'. Refute it at one input. -/
def fnLegacyNoHashWrong : ChangeSpec := { name := "fnLegacyNoHash", fn := fun _ => fun
  | [d1, d2, d3, d4] => { results := [.lit (.bool false)], args := [d1, d2, d3, d4] }
  | _ => none }
def FnLegacyNoHashWrongFalsely : Prop := fnLegacyNoHashRow.holds Tryd.pinned (OpenSpec.ofChange fnLegacyNoHashWrong)

/-- 'laws.FnLegacyNoNumber': WHATEVER THE INPUT: true; the input reads as it did. -/
def fnLegacyNoNumberSpec : ChangeSpec := { name := "fnLegacyNoNumber", fn := fun _ => fun
  | [d1, d2, d3] => { results := [.lit (.bool true)], args := [d1, d2, d3] }
  | _ => none }
def fnLegacyNoNumberRow : OpenClaim := { program := "ytpmlnhddkbgefaadoor", sum := "f1051f4b0f3902c5b4851e8d663564fd5d520b8cdf453d798e70d3976dbb387d", func := "loop.example/pub-g01453/laws.FnLegacyNoNumber", spec := "fnLegacyNoNumber", inPlace := ["internal/abi.NoEscape"], unfollowed := true, recurses := true, named := ["internal/strconv.uint64pow10", "math/bits.deBruijn32tab", "math/bits.deBruijn64tab"], apart := false, laid := [("math/bits.deBruijn32tab", laid_math_bits_deBruijn32tab), ("math/bits.deBruijn64tab", laid_math_bits_deBruijn64tab), ("internal/strconv.uint64pow10", laid_internal_strconv_uint64pow10)] }
def FnLegacyNoNumberSaid : Prop := fnLegacyNoNumberRow.holds Tryd.pinned (OpenSpec.ofChange fnLegacyNoNumberSpec)

/-- ITS FALSE NEIGHBOUR: 'it returns false'. Refute it at one input. -/
def fnLegacyNoNumberWrong : ChangeSpec := { name := "fnLegacyNoNumber", fn := fun _ => fun
  | [d1, d2, d3] => { results := [.lit (.bool false)], args := [d1, d2, d3] }
  | _ => none }
def FnLegacyNoNumberWrongFalsely : Prop := fnLegacyNoNumberRow.holds Tryd.pinned (OpenSpec.ofChange fnLegacyNoNumberWrong)

/-- 'laws.FnLegacyOne': WHATEVER THE INPUT: true; the input reads as it did. -/
def fnLegacyOneSpec : ChangeSpec := { name := "fnLegacyOne", fn := fun _ => fun
  | [d1, d2] => { results := [.lit (.bool true)], args := [d1, d2] }
  | _ => none }
def fnLegacyOneRow : OpenClaim := { program := "ytpmlnhddkbgefaadoor", sum := "f1051f4b0f3902c5b4851e8d663564fd5d520b8cdf453d798e70d3976dbb387d", func := "loop.example/pub-g01453/laws.FnLegacyOne", spec := "fnLegacyOne", inPlace := ["internal/abi.NoEscape"], unfollowed := true, recurses := true, named := ["internal/strconv.uint64pow10", "math/bits.deBruijn32tab", "math/bits.deBruijn64tab"], apart := false, laid := [("math/bits.deBruijn32tab", laid_math_bits_deBruijn32tab), ("math/bits.deBruijn64tab", laid_math_bits_deBruijn64tab), ("internal/strconv.uint64pow10", laid_internal_strconv_uint64pow10)] }
def FnLegacyOneSaid : Prop := fnLegacyOneRow.holds Tryd.pinned (OpenSpec.ofChange fnLegacyOneSpec)

/-- ITS FALSE NEIGHBOUR: 'it returns false'. Refute it at one input. -/
def fnLegacyOneWrong : ChangeSpec := { name := "fnLegacyOne", fn := fun _ => fun
  | [d1, d2] => { results := [.lit (.bool false)], args := [d1, d2] }
  | _ => none }
def FnLegacyOneWrongFalsely : Prop := fnLegacyOneRow.holds Tryd.pinned (OpenSpec.ofChange fnLegacyOneWrong)

/-- 'laws.FnLegacyOptions': WHATEVER THE INPUT: true; the input reads as it did. -/
def fnLegacyOptionsSpec : ChangeSpec := { name := "fnLegacyOptions", fn := fun _ => fun
  | [d1, d2, d3] => { results := [.lit (.bool true)], args := [d1, d2, d3] }
  | _ => none }
def fnLegacyOptionsRow : OpenClaim := { program := "ytpmlnhddkbgefaadoor", sum := "f1051f4b0f3902c5b4851e8d663564fd5d520b8cdf453d798e70d3976dbb387d", func := "loop.example/pub-g01453/laws.FnLegacyOptions", spec := "fnLegacyOptions", inPlace := ["internal/abi.NoEscape"], unfollowed := true, recurses := true, named := ["internal/strconv.uint64pow10", "math/bits.deBruijn32tab", "math/bits.deBruijn64tab"], apart := false, laid := [("math/bits.deBruijn32tab", laid_math_bits_deBruijn32tab), ("math/bits.deBruijn64tab", laid_math_bits_deBruijn64tab), ("internal/strconv.uint64pow10", laid_internal_strconv_uint64pow10)] }
def FnLegacyOptionsSaid : Prop := fnLegacyOptionsRow.holds Tryd.pinned (OpenSpec.ofChange fnLegacyOptionsSpec)

/-- ITS FALSE NEIGHBOUR: 'it returns false'. Refute it at one input. -/
def fnLegacyOptionsWrong : ChangeSpec := { name := "fnLegacyOptions", fn := fun _ => fun
  | [d1, d2, d3] => { results := [.lit (.bool false)], args := [d1, d2, d3] }
  | _ => none }
def FnLegacyOptionsWrongFalsely : Prop := fnLegacyOptionsRow.holds Tryd.pinned (OpenSpec.ofChange fnLegacyOptionsWrong)

/-- 'laws.FnMaxLengthLegacy': WHATEVER THE INPUT: true; the input reads as it did. -/
def fnMaxLengthLegacySpec : ChangeSpec := { name := "fnMaxLengthLegacy", fn := fun _ => fun
  | [d1, d2, d3] => { results := [.lit (.bool true)], args := [d1, d2, d3] }
  | _ => none }
def fnMaxLengthLegacyRow : OpenClaim := { program := "ytpmlnhddkbgefaadoor", sum := "f1051f4b0f3902c5b4851e8d663564fd5d520b8cdf453d798e70d3976dbb387d", func := "loop.example/pub-g01453/laws.FnMaxLengthLegacy", spec := "fnMaxLengthLegacy", inPlace := ["internal/abi.NoEscape"], unfollowed := true, recurses := true, named := ["internal/strconv.uint64pow10", "math/bits.deBruijn32tab", "math/bits.deBruijn64tab"], apart := false, laid := [("math/bits.deBruijn32tab", laid_math_bits_deBruijn32tab), ("math/bits.deBruijn64tab", laid_math_bits_deBruijn64tab), ("internal/strconv.uint64pow10", laid_internal_strconv_uint64pow10)] }
def FnMaxLengthLegacySaid : Prop := fnMaxLengthLegacyRow.holds Tryd.pinned (OpenSpec.ofChange fnMaxLengthLegacySpec)

/-- ITS FALSE NEIGHBOUR: 'it returns false'. Refute it at one input. -/
def fnMaxLengthLegacyWrong : ChangeSpec := { name := "fnMaxLengthLegacy", fn := fun _ => fun
  | [d1, d2, d3] => { results := [.lit (.bool false)], args := [d1, d2, d3] }
  | _ => none }
def FnMaxLengthLegacyWrongFalsely : Prop := fnMaxLengthLegacyRow.holds Tryd.pinned (OpenSpec.ofChange fnMaxLengthLegacyWrong)

/- THE SECOND FORM. 'bulk': how many values and letters a reading holds, each counted each time it is reached (what is shared counts as often as it is met; a slice's spare places count too). A statement '..UptoSaid' is the law's where the arguments, and the package variables that the reading takes, are together of bulk at most 1048576: NARROWER than '..Said'. Prove '..Said' where nothing that the law and all that it calls make is longer than what came in: it says more and counts as full. Else prove '..UptoSaid'. A law counts once. -/
mutual
def uptoBulk {H : Type} : DataW H → Nat
  | .lit (.string bytes) => bytes.length + 1
  | .lit _ => 1
  | .nil => 1
  | .ptr d => uptoBulk d + 1
  | .slice elems spare => uptoBulkAll elems + uptoBulkAll spare + 1
  | .agg parts => uptoBulkAll parts + 1
  | .iface _ d => uptoBulk d + 1
  | .map entries => uptoBulkEntries entries + 1
  | .held _ => 1
def uptoBulkAll {H : Type} : List (DataW H) → Nat
  | [] => 0
  | d :: r => uptoBulk d + uptoBulkAll r
def uptoBulkEntries {H : Type} : List (Lit × DataW H) → Nat
  | [] => 0
  | x :: r => uptoBulkEntry x + uptoBulkEntries r
def uptoBulkEntry {H : Type} : Lit × DataW H → Nat
  | (.string bytes, d) => bytes.length + uptoBulk d + 1
  | (_, d) => uptoBulk d + 1
 end
def uptoSmall : (H : Type) → List (DataW H) → Bool := fun _ ds => decide (uptoBulkAll ds ≤ 1048576)
def OpenSpec.upto (s : _root_.Go.ChangeSpec) : _root_.Go.OpenSpec := { _root_.Go.OpenSpec.ofChange s with cond := some uptoSmall }

/-- 'laws.FnConstantAlike', WHERE WHAT IT READS IS OF BULK AT MOST 1048576: true; the input reads as it did. -/
def fnConstantAlikeUptoRow : OpenClaim := { program := "ytpmlnhddkbgefaadoor", sum := "f1051f4b0f3902c5b4851e8d663564fd5d520b8cdf453d798e70d3976dbb387d", func := "loop.example/pub-g01453/laws.FnConstantAlike", spec := "fnConstantAlike", inPlace := ["internal/abi.NoEscape"], unfollowed := true, recurses := true, named := ["internal/strconv.uint64pow10", "math/bits.deBruijn32tab", "math/bits.deBruijn64tab"], apart := false, laid := [("math/bits.deBruijn32tab", laid_math_bits_deBruijn32tab), ("math/bits.deBruijn64tab", laid_math_bits_deBruijn64tab), ("internal/strconv.uint64pow10", laid_internal_strconv_uint64pow10)], narrowed := true }
def FnConstantAlikeUptoSaid : Prop := fnConstantAlikeUptoRow.holds Tryd.pinned (OpenSpec.upto fnConstantAlikeSpec)

/-- 'laws.FnConstantAny', WHERE WHAT IT READS IS OF BULK AT MOST 1048576: true; the input reads as it did. -/
def fnConstantAnyUptoRow : OpenClaim := { program := "ytpmlnhddkbgefaadoor", sum := "f1051f4b0f3902c5b4851e8d663564fd5d520b8cdf453d798e70d3976dbb387d", func := "loop.example/pub-g01453/laws.FnConstantAny", spec := "fnConstantAny", inPlace := ["internal/abi.NoEscape"], unfollowed := true, recurses := true, named := ["internal/strconv.uint64pow10", "math/bits.deBruijn32tab", "math/bits.deBruijn64tab"], apart := false, laid := [("math/bits.deBruijn32tab", laid_math_bits_deBruijn32tab), ("math/bits.deBruijn64tab", laid_math_bits_deBruijn64tab), ("internal/strconv.uint64pow10", laid_internal_strconv_uint64pow10)], narrowed := true }
def FnConstantAnyUptoSaid : Prop := fnConstantAnyUptoRow.holds Tryd.pinned (OpenSpec.upto fnConstantAnySpec)

/-- 'laws.FnConstantBool', WHERE WHAT IT READS IS OF BULK AT MOST 1048576: true; the input reads as it did. -/
def fnConstantBoolUptoRow : OpenClaim := { program := "ytpmlnhddkbgefaadoor", sum := "f1051f4b0f3902c5b4851e8d663564fd5d520b8cdf453d798e70d3976dbb387d", func := "loop.example/pub-g01453/laws.FnConstantBool", spec := "fnConstantBool", inPlace := ["internal/abi.NoEscape"], unfollowed := true, recurses := true, named := ["internal/strconv.uint64pow10", "math/bits.deBruijn32tab", "math/bits.deBruijn64tab"], apart := false, laid := [("math/bits.deBruijn32tab", laid_math_bits_deBruijn32tab), ("math/bits.deBruijn64tab", laid_math_bits_deBruijn64tab), ("internal/strconv.uint64pow10", laid_internal_strconv_uint64pow10)], narrowed := true }
def FnConstantBoolUptoSaid : Prop := fnConstantBoolUptoRow.holds Tryd.pinned (OpenSpec.upto fnConstantBoolSpec)

/-- 'laws.FnConstantLeast', WHERE WHAT IT READS IS OF BULK AT MOST 1048576: true; the input reads as it did. -/
def fnConstantLeastUptoRow : OpenClaim := { program := "ytpmlnhddkbgefaadoor", sum := "f1051f4b0f3902c5b4851e8d663564fd5d520b8cdf453d798e70d3976dbb387d", func := "loop.example/pub-g01453/laws.FnConstantLeast", spec := "fnConstantLeast", inPlace := ["internal/abi.NoEscape"], unfollowed := true, recurses := true, named := ["internal/strconv.uint64pow10", "math/bits.deBruijn32tab", "math/bits.deBruijn64tab"], apart := false, laid := [("math/bits.deBruijn32tab", laid_math_bits_deBruijn32tab), ("math/bits.deBruijn64tab", laid_math_bits_deBruijn64tab), ("internal/strconv.uint64pow10", laid_internal_strconv_uint64pow10)], narrowed := true }
def FnConstantLeastUptoSaid : Prop := fnConstantLeastUptoRow.holds Tryd.pinned (OpenSpec.upto fnConstantLeastSpec)

/-- 'laws.FnConstantSigned', WHERE WHAT IT READS IS OF BULK AT MOST 1048576: true; the input reads as it did. -/
def fnConstantSignedUptoRow : OpenClaim := { program := "ytpmlnhddkbgefaadoor", sum := "f1051f4b0f3902c5b4851e8d663564fd5d520b8cdf453d798e70d3976dbb387d", func := "loop.example/pub-g01453/laws.FnConstantSigned", spec := "fnConstantSigned", inPlace := ["internal/abi.NoEscape"], unfollowed := true, recurses := true, named := ["unicode/utf8.first", "unicode/utf8.acceptRanges", "internal/strconv.uint64pow10", "math/bits.deBruijn32tab", "math/bits.deBruijn64tab"], apart := false, laid := [("math/bits.deBruijn32tab", laid_math_bits_deBruijn32tab), ("math/bits.deBruijn64tab", laid_math_bits_deBruijn64tab), ("internal/strconv.uint64pow10", laid_internal_strconv_uint64pow10), ("unicode/utf8.acceptRanges", laid_unicode_utf8_acceptRanges), ("unicode/utf8.first", laid_unicode_utf8_first)], narrowed := true }
def FnConstantSignedUptoSaid : Prop := fnConstantSignedUptoRow.holds Tryd.pinned (OpenSpec.upto fnConstantSignedSpec)

/-- 'laws.FnLegacyEscapes', WHERE WHAT IT READS IS OF BULK AT MOST 1048576: true; the input reads as it did. -/
def fnLegacyEscapesUptoRow : OpenClaim := { program := "ytpmlnhddkbgefaadoor", sum := "f1051f4b0f3902c5b4851e8d663564fd5d520b8cdf453d798e70d3976dbb387d", func := "loop.example/pub-g01453/laws.FnLegacyEscapes", spec := "fnLegacyEscapes", inPlace := ["internal/abi.NoEscape"], unfollowed := true, recurses := true, named := ["internal/strconv.uint64pow10", "math/bits.deBruijn32tab", "math/bits.deBruijn64tab"], apart := false, laid := [("math/bits.deBruijn32tab", laid_math_bits_deBruijn32tab), ("math/bits.deBruijn64tab", laid_math_bits_deBruijn64tab), ("internal/strconv.uint64pow10", laid_internal_strconv_uint64pow10)], narrowed := true }
def FnLegacyEscapesUptoSaid : Prop := fnLegacyEscapesUptoRow.holds Tryd.pinned (OpenSpec.upto fnLegacyEscapesSpec)

/-- 'laws.FnLegacyFirst', WHERE WHAT IT READS IS OF BULK AT MOST 1048576: true; the input reads as it did. -/
def fnLegacyFirstUptoRow : OpenClaim := { program := "ytpmlnhddkbgefaadoor", sum := "f1051f4b0f3902c5b4851e8d663564fd5d520b8cdf453d798e70d3976dbb387d", func := "loop.example/pub-g01453/laws.FnLegacyFirst", spec := "fnLegacyFirst", inPlace := ["internal/abi.NoEscape"], unfollowed := true, recurses := true, named := ["internal/strconv.uint64pow10", "math/bits.deBruijn32tab", "math/bits.deBruijn64tab"], apart := false, laid := [("math/bits.deBruijn32tab", laid_math_bits_deBruijn32tab), ("math/bits.deBruijn64tab", laid_math_bits_deBruijn64tab), ("internal/strconv.uint64pow10", laid_internal_strconv_uint64pow10)], narrowed := true }
def FnLegacyFirstUptoSaid : Prop := fnLegacyFirstUptoRow.holds Tryd.pinned (OpenSpec.upto fnLegacyFirstSpec)

/-- 'laws.FnLegacyNoHash', WHERE WHAT IT READS IS OF BULK AT MOST 1048576: true; the input reads as it did. -/
def fnLegacyNoHashUptoRow : OpenClaim := { program := "ytpmlnhddkbgefaadoor", sum := "f1051f4b0f3902c5b4851e8d663564fd5d520b8cdf453d798e70d3976dbb387d", func := "loop.example/pub-g01453/laws.FnLegacyNoHash", spec := "fnLegacyNoHash", inPlace := ["internal/abi.NoEscape"], unfollowed := true, recurses := true, named := ["internal/strconv.uint64pow10", "math/bits.deBruijn32tab", "math/bits.deBruijn64tab"], apart := false, laid := [("math/bits.deBruijn32tab", laid_math_bits_deBruijn32tab), ("math/bits.deBruijn64tab", laid_math_bits_deBruijn64tab), ("internal/strconv.uint64pow10", laid_internal_strconv_uint64pow10)], narrowed := true }
def FnLegacyNoHashUptoSaid : Prop := fnLegacyNoHashUptoRow.holds Tryd.pinned (OpenSpec.upto fnLegacyNoHashSpec)

/-- 'laws.FnLegacyNoNumber', WHERE WHAT IT READS IS OF BULK AT MOST 1048576: true; the input reads as it did. -/
def fnLegacyNoNumberUptoRow : OpenClaim := { program := "ytpmlnhddkbgefaadoor", sum := "f1051f4b0f3902c5b4851e8d663564fd5d520b8cdf453d798e70d3976dbb387d", func := "loop.example/pub-g01453/laws.FnLegacyNoNumber", spec := "fnLegacyNoNumber", inPlace := ["internal/abi.NoEscape"], unfollowed := true, recurses := true, named := ["internal/strconv.uint64pow10", "math/bits.deBruijn32tab", "math/bits.deBruijn64tab"], apart := false, laid := [("math/bits.deBruijn32tab", laid_math_bits_deBruijn32tab), ("math/bits.deBruijn64tab", laid_math_bits_deBruijn64tab), ("internal/strconv.uint64pow10", laid_internal_strconv_uint64pow10)], narrowed := true }
def FnLegacyNoNumberUptoSaid : Prop := fnLegacyNoNumberUptoRow.holds Tryd.pinned (OpenSpec.upto fnLegacyNoNumberSpec)

/-- 'laws.FnLegacyOne', WHERE WHAT IT READS IS OF BULK AT MOST 1048576: true; the input reads as it did. -/
def fnLegacyOneUptoRow : OpenClaim := { program := "ytpmlnhddkbgefaadoor", sum := "f1051f4b0f3902c5b4851e8d663564fd5d520b8cdf453d798e70d3976dbb387d", func := "loop.example/pub-g01453/laws.FnLegacyOne", spec := "fnLegacyOne", inPlace := ["internal/abi.NoEscape"], unfollowed := true, recurses := true, named := ["internal/strconv.uint64pow10", "math/bits.deBruijn32tab", "math/bits.deBruijn64tab"], apart := false, laid := [("math/bits.deBruijn32tab", laid_math_bits_deBruijn32tab), ("math/bits.deBruijn64tab", laid_math_bits_deBruijn64tab), ("internal/strconv.uint64pow10", laid_internal_strconv_uint64pow10)], narrowed := true }
def FnLegacyOneUptoSaid : Prop := fnLegacyOneUptoRow.holds Tryd.pinned (OpenSpec.upto fnLegacyOneSpec)

/-- 'laws.FnLegacyOptions', WHERE WHAT IT READS IS OF BULK AT MOST 1048576: true; the input reads as it did. -/
def fnLegacyOptionsUptoRow : OpenClaim := { program := "ytpmlnhddkbgefaadoor", sum := "f1051f4b0f3902c5b4851e8d663564fd5d520b8cdf453d798e70d3976dbb387d", func := "loop.example/pub-g01453/laws.FnLegacyOptions", spec := "fnLegacyOptions", inPlace := ["internal/abi.NoEscape"], unfollowed := true, recurses := true, named := ["internal/strconv.uint64pow10", "math/bits.deBruijn32tab", "math/bits.deBruijn64tab"], apart := false, laid := [("math/bits.deBruijn32tab", laid_math_bits_deBruijn32tab), ("math/bits.deBruijn64tab", laid_math_bits_deBruijn64tab), ("internal/strconv.uint64pow10", laid_internal_strconv_uint64pow10)], narrowed := true }
def FnLegacyOptionsUptoSaid : Prop := fnLegacyOptionsUptoRow.holds Tryd.pinned (OpenSpec.upto fnLegacyOptionsSpec)

/-- 'laws.FnMaxLengthLegacy', WHERE WHAT IT READS IS OF BULK AT MOST 1048576: true; the input reads as it did. -/
def fnMaxLengthLegacyUptoRow : OpenClaim := { program := "ytpmlnhddkbgefaadoor", sum := "f1051f4b0f3902c5b4851e8d663564fd5d520b8cdf453d798e70d3976dbb387d", func := "loop.example/pub-g01453/laws.FnMaxLengthLegacy", spec := "fnMaxLengthLegacy", inPlace := ["internal/abi.NoEscape"], unfollowed := true, recurses := true, named := ["internal/strconv.uint64pow10", "math/bits.deBruijn32tab", "math/bits.deBruijn64tab"], apart := false, laid := [("math/bits.deBruijn32tab", laid_math_bits_deBruijn32tab), ("math/bits.deBruijn64tab", laid_math_bits_deBruijn64tab), ("internal/strconv.uint64pow10", laid_internal_strconv_uint64pow10)], narrowed := true }
def FnMaxLengthLegacyUptoSaid : Prop := fnMaxLengthLegacyUptoRow.holds Tryd.pinned (OpenSpec.upto fnMaxLengthLegacySpec)

end Rows
end Go.Proofs.YtpmlnhddkbgefaaDoor
