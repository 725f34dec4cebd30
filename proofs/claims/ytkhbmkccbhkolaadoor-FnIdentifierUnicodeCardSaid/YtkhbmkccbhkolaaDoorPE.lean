/- The library's tables of UTF-8, as the program's text lays them: what the rows' premise gives the walks. The library's tables, UTF-8's among them, as the program's text lays them: what the rows' premise gives the walks. -/
import Derived.Test.YtkhbmkccbhkolaaDoorIdV
import Derived.Test.YtkhbmkccbhkolaaDoorRows
import Derived.Lib.LaidTab
import Derived.Lib.LaidU8T
import Derived.LaidSub
import Derived.ProofKit
import Derived.LaidMore
import Derived.OpenShut
import Derived.Stop.Joined
import Derived.Lay
namespace Go.Proofs.YtkhbmkccbhkolaaDoor
set_option linter.unusedVariables false
open Go.ChangeShapes Go.WideShapes Go.ChangeAt Go.WideElems Go.RowKit
def laidUtf : List (String × DataW Unit) := [("unicode/utf8.acceptRanges", Rows.laid_unicode_utf8_acceptRanges), ("unicode/utf8.first", Rows.laid_unicode_utf8_first)]
theorem utf_filter : (laidUtf.filter fun x => x.1 == "unicode/utf8.acceptRanges" || x.1 == "unicode/utf8.first") = [("unicode/utf8.acceptRanges", Lib.acceptData), ("unicode/utf8.first", Lib.firstData)] := by kernel_rfl
theorem utfIs_of {W : World} {l : List (String × DataW Unit)} (hf : (l.filter fun x => x.1 == "unicode/utf8.acceptRanges" || x.1 == "unicode/utf8.first") = [("unicode/utf8.acceptRanges", Lib.acceptData), ("unicode/utf8.first", Lib.firstData)]) (h : laidMetH Tryd.prog l W) : UtfIs W := by
  have h2 := laidMetH.filter (fun x => x.1 == "unicode/utf8.acceptRanges" || x.1 == "unicode/utf8.first") h
  rw [hf, MakeChecks.laidMetH_plain _ _ _ (by kernel_rfl)] at h2
  exact utf8Tabs_of_readsT (U8Types.of196 Tryd.laysValid) ⟨by kernel_rfl, by kernel_rfl, by kernel_rfl, by kernel_rfl, by kernel_rfl, by kernel_rfl, by kernel_rfl⟩ (Lib.laidMet.reads h2 (.tail _ (.head _))) (Lib.laidMet.reads h2 (.head _))
theorem utfIs_laid {W : World} (h : laidMetH Tryd.prog laidUtf W) : UtfIs W := utfIs_of utf_filter h
end Go.Proofs.YtkhbmkccbhkolaaDoor
namespace Go.Proofs.YtkhbmkccbhkolaaDoor
set_option linter.unusedVariables false
open Go.ChangeShapes Go.WideShapes Go.ChangeAt Go.WideElems Go.RowKit
def laidUni : List (String × DataW Unit) := [("math/bits.deBruijn32tab", Rows.laid_math_bits_deBruijn32tab), ("math/bits.deBruijn64tab", Rows.laid_math_bits_deBruijn64tab), ("internal/strconv.uint64pow10", Rows.laid_internal_strconv_uint64pow10), ("unicode/utf8.acceptRanges", Rows.laid_unicode_utf8_acceptRanges), ("unicode/utf8.first", Rows.laid_unicode_utf8_first)]
theorem uni_filter : (laidUni.filter fun x => x.1 == "unicode/utf8.acceptRanges" || x.1 == "unicode/utf8.first") = [("unicode/utf8.acceptRanges", Lib.acceptData), ("unicode/utf8.first", Lib.firstData)] := by kernel_rfl
theorem uni_str : (laidUni.filter fun x => x.1 == "internal/strconv.uint64pow10") = [("internal/strconv.uint64pow10", Lib.tabData .u64 Lib.pow10Tab)] := by kernel_rfl
theorem strIs_of {W : World} {l : List (String × DataW Unit)} (hf : (l.filter fun x => x.1 == "internal/strconv.uint64pow10") = [("internal/strconv.uint64pow10", Lib.tabData .u64 Lib.pow10Tab)]) (h : laidMetH Tryd.prog l W) : StrIs W := by
  have h2 := laidMetH.filter (fun x => x.1 == "internal/strconv.uint64pow10") h
  rw [hf, MakeChecks.laidMetH_plain _ _ _ (by kernel_rfl)] at h2
  exact Lib.tabIs_of_head (t := 96) (e := 35) (n := 20) gPow (by kernel_rfl) Tryd.underlying96 Tryd.underlying35 (by kernel_rfl) (by kernel_rfl) h2
theorem uniIs_laid {W : World} (h : laidMetH Tryd.prog laidUni W) : UniIs W := ⟨strIs_of uni_str h, utfIs_of uni_filter h⟩
end Go.Proofs.YtkhbmkccbhkolaaDoor
