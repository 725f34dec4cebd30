/- The library's tables, as the program's text lays them: what the rows' premise gives the walks. The library's tables and the error, as the program's text lays them: what the rows' premise gives the walks. -/
import Derived.Test.YtdmkdclockmjbaaDoorM3
import Derived.Test.YtdmkdclockmjbaaDoorRows
import Derived.Lib.LaidTab
import Derived.LaidSub
import Derived.ProofKit
import Derived.LaidMore
import Derived.OpenShut
import Derived.Stop.Joined
import Derived.Test.YtdmkdclockmjbaaDoorM5
import Derived.Lay
import Derived.LaidLaws
import Derived.Stop.ErrReads
import Derived.RowKitTokens
namespace Go.Proofs.YtdmkdclockmjbaaDoor
set_option linter.unusedVariables false
open Go.ChangeShapes Go.WideShapes Go.ChangeAt Go.WideElems Go.RowKit

def laidStr : List (String × DataW Unit) := [("math/bits.deBruijn32tab", Rows.laid_math_bits_deBruijn32tab), ("math/bits.deBruijn64tab", Rows.laid_math_bits_deBruijn64tab), ("internal/strconv.uint64pow10", Rows.laid_internal_strconv_uint64pow10)]

/-- The door's own heap meets the condition. -/
theorem laidStr_door (os : Os) (args : Array Value) : laidMetH Tryd.prog laidStr ((World.doorLaid Tryd.prog 400 os).forCall (fun _ _ => 0) ⟨#[], args, []⟩).memory :=
  laidMetH_of_parts3 (fuel := 8) (laidMet_of_run' 8 (by kernel_rfl) (by kernel_rfl)) (by kernel_rfl) (by kernel_rfl)

theorem str_filter : (laidStr.filter fun x => x.1 == "internal/strconv.uint64pow10") = [("internal/strconv.uint64pow10", Lib.tabData .u64 Lib.pow10Tab)] := by kernel_rfl
theorem strIs_of {W : World} {l : List (String × DataW Unit)} (hf : (l.filter fun x => x.1 == "internal/strconv.uint64pow10") = [("internal/strconv.uint64pow10", Lib.tabData .u64 Lib.pow10Tab)]) (h : laidMetH Tryd.prog l W) : StrIs W := by
  have h2 := laidMetH.filter (fun x => x.1 == "internal/strconv.uint64pow10") h
  rw [hf, MakeChecks.laidMetH_plain _ _ _ (by kernel_rfl)] at h2
  exact Lib.tabIs_of_head (t := 80) (e := 67) (n := 20) gPow (by kernel_rfl) Tryd.underlying80 Tryd.underlying67 (by kernel_rfl) (by kernel_rfl) h2
theorem strIs_laid {W : World} (h : laidMetH Tryd.prog laidStr W) : StrIs W := strIs_of str_filter h
end Go.Proofs.YtdmkdclockmjbaaDoor
namespace Go.Proofs.YtdmkdclockmjbaaDoor
set_option linter.unusedVariables false
open Go.ChangeShapes Go.WideShapes Go.ChangeAt Go.WideElems Go.RowKit

def laidNot : List (String × DataW Unit) := [("math/bits.deBruijn32tab", Rows.laid_math_bits_deBruijn32tab), ("math/bits.deBruijn64tab", Rows.laid_math_bits_deBruijn64tab), ("internal/strconv.uint64pow10", Rows.laid_internal_strconv_uint64pow10), ("loop.example/pub-g01453/pub/rustdemangle.ErrNotMangledName", Rows.laid_loop_example_pub_g01453_pub_rustdemangle_ErrNotMangledName), ("loop.example/pub-g01453/pub/rustdemangle.rustBasicTypes", Rows.laid_loop_example_pub_g01453_pub_rustdemangle_rustBasicTypes)]
/-- The door's own heap meets the condition. -/
theorem laidNot_door (os : Os) (args : Array Value) : laidMetH Tryd.prog laidNot ((World.doorLaid Tryd.prog 400 os).forCall (fun _ _ => 0) ⟨#[], args, []⟩).memory :=
  laidMetH_of_parts3 (fuel := 8) (laidMet_of_run' 8 (by kernel_rfl) (by kernel_rfl)) (by kernel_rfl) (by kernel_rfl)
theorem not_filter : (laidNot.filter fun x => x.1 == "internal/strconv.uint64pow10") = [("internal/strconv.uint64pow10", Lib.tabData .u64 Lib.pow10Tab)] := by kernel_rfl
theorem err_filter : (laidNot.filter fun x => x.1 == "loop.example/pub-g01453/pub/rustdemangle.ErrNotMangledName") = [("loop.example/pub-g01453/pub/rustdemangle.ErrNotMangledName", Rows.laid_loop_example_pub_g01453_pub_rustdemangle_ErrNotMangledName)] := by kernel_rfl
theorem gErr : Tryd.prog.globalNamed "loop.example/pub-g01453/pub/rustdemangle.ErrNotMangledName" = some 0 := by kernel_rfl
theorem tErr : (Tryd.prog.globals[0]?).map (·.type) = some 41 := by kernel_rfl
theorem star_err : "*" ++ "errors.errorString" = "*errors.errorString" := by decide
theorem ptr_err (u : TypeId) (h : Tryd.prog.typeName? 3 u = some "*errors.errorString") : u = 107 :=
  typeName_ptr_named (nm := "errors.errorString") (by rw [star_err]; kernel_rfl) (by kernel_rfl) (by decide) u (by rw [star_err]; exact h)
theorem err_cells : Tryd.prog.cellsOf 121 = 1 := by kernel_rfl
theorem str_cells : Tryd.prog.cellsOf 9 = 1 := by kernel_rfl

set_option maxRecDepth 100000 in
theorem notIs_laid {W : World} (h : laidMetH Tryd.prog laidNot W) : NotIs W := by
  have h2 := laidMetH.filter (fun x => x.1 == "loop.example/pub-g01453/pub/rustdemangle.ErrNotMangledName") h
  rw [err_filter, MakeChecks.laidMetH_plain _ _ _ (by kernel_rfl)] at h2
  obtain ⟨ps, ⟨g0, t0, cs0, f0, p0, q0, hg0, ht0, hv0, hd0, hq0, e0⟩, hnd, hrows⟩ := h2
  obtain rfl := Option.some.inj (gErr.symm.trans hg0)
  obtain rfl := Option.some.inj (tErr.symm.trans ht0)
  have hq0' : q0 = [] := hq0
  subst hq0'
  subst e0
  obtain ⟨l0⟩ := cs0
  have ok0 : ∀ u v, l0 = [.iface u v] → Value.okWide Tryd.prog W .any 0 u v := fun u v e => by
    subst e
    exact (hrows 0 0 (by simp [MemPlace.row])).2 u v (by simpa using World.var?_cell hg0 hv0 0)
  obtain ⟨a0, s0, rfl, hc0, hs0, hz0, rfl⟩ := errorString_of_trod Tryd.underlying41 ptr_err Tryd.underlying107 Tryd.underlying121 rfl rfl Tryd.underlying9 err_cells str_cells hd0 ok0
  exact ⟨a0, by simpa using World.var?_cell hg0 hv0 0⟩
theorem doorIs_laid {W : World} (h : laidMetH Tryd.prog laidNot W) : DoorIs W := ⟨strIs_of not_filter h, notIs_laid h⟩
end Go.Proofs.YtdmkdclockmjbaaDoor
