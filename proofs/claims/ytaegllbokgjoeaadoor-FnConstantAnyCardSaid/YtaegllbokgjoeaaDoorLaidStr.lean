/- The library's tables, as the program's text lays them: what the rows' premise gives the walks. -/
import Derived.Test.YtaegllbokgjoeaaDoorItoa
import Derived.Test.YtaegllbokgjoeaaDoorRows
import Derived.Lib.LaidTab
import Derived.LaidSub
import Derived.ProofKit
import Derived.LaidMore
import Derived.OpenShut
import Derived.Stop.Joined
namespace Go.Proofs.YtaegllbokgjoeaaDoor
set_option linter.unusedVariables false
open Go.ChangeShapes Go.WideShapes Go.ChangeAt Go.WideElems Go.RowKit

def laidStr : List (String × DataW Unit) := [("math/bits.deBruijn32tab", Rows.laid_math_bits_deBruijn32tab), ("math/bits.deBruijn64tab", Rows.laid_math_bits_deBruijn64tab), ("internal/strconv.uint64pow10", Rows.laid_internal_strconv_uint64pow10)]

/-- The door's own heap meets the condition. -/
theorem laidStr_door (os : Os) (args : Array Value) : laidMetH Tryd.prog laidStr ((World.doorLaid Tryd.prog 400 os).forCall (fun _ _ => 0) ⟨#[], args, []⟩).memory :=
  laidMetH_of_parts3 (fuel := 8) (laidMet_of_run' 8 (by kernel_rfl) (by kernel_rfl)) (by kernel_rfl) (by kernel_rfl)

theorem str_filter : (laidStr.filter fun x => x.1 == "internal/strconv.uint64pow10") = [("internal/strconv.uint64pow10", Lib.tabData .u64 Lib.pow10Tab)] := by kernel_rfl
theorem strIs_of {W : World} {l : List (String × DataW Unit)} (hf : (l.filter fun x => x.1 == "internal/strconv.uint64pow10") = [("internal/strconv.uint64pow10", Lib.tabData .u64 Lib.pow10Tab)]) (h : laidMetH Tryd.prog l W) : StrIs W := by
  have h2 := laidMetH.filter (fun x => x.1 == "internal/strconv.uint64pow10") h
  rw [hf, MakeChecks.laidMetH_plain _ _ _ (by kernel_rfl)] at h2
  exact Lib.tabIs_of_head (t := 86) (e := 22) (n := 20) gPow (by kernel_rfl) Tryd.underlying86 Tryd.underlying22 (by kernel_rfl) (by kernel_rfl) h2
theorem strIs_laid {W : World} (h : laidMetH Tryd.prog laidStr W) : StrIs W := strIs_of str_filter h
end Go.Proofs.YtaegllbokgjoeaaDoor
