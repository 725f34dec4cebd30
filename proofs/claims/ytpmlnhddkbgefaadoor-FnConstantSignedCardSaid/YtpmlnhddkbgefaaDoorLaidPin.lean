/- The library's tables, the great one among them, as the program's text lays them: what the rows' premise gives the walks. -/
import Derived.Test.YtpmlnhddkbgefaaDoorLaidStr
import Derived.Lay
namespace Go.Proofs.YtpmlnhddkbgefaaDoor
set_option linter.unusedVariables false
open Go.ChangeShapes Go.WideShapes Go.ChangeAt Go.WideElems Go.RowKit

def laidPin : List (String × DataW Unit) := [("math/bits.deBruijn32tab", Rows.laid_math_bits_deBruijn32tab), ("math/bits.deBruijn64tab", Rows.laid_math_bits_deBruijn64tab), ("internal/strconv.uint64pow10", Rows.laid_internal_strconv_uint64pow10), ("unicode/utf8.acceptRanges", Rows.laid_unicode_utf8_acceptRanges), ("unicode/utf8.first", Rows.laid_unicode_utf8_first)]
theorem pin_filter : (laidPin.filter fun x => x.1 == "internal/strconv.uint64pow10") = [("internal/strconv.uint64pow10", Lib.tabData .u64 Lib.pow10Tab)] := by kernel_rfl
theorem strIs_pin {W : World} (h : laidMetH Tryd.prog laidPin W) : StrIs W := strIs_of pin_filter h
end Go.Proofs.YtpmlnhddkbgefaaDoor
