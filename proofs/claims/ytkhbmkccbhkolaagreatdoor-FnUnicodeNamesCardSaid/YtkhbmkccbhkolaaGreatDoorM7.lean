/- The library's tables, as the program's text lays them: what the rows' premise gives the walks. The library's tables and the error, as the program's text lays them: what the rows' premise gives the walks. A world that meets the rows' premise: what the door lays, and the library's great table beside it. The library's tables of UTF-8, as the program's text lays them: what the rows' premise gives the walks. The premise of the walks that read UTF-8 too, out of what the rows lay. -/
import Derived.Test.YtkhbmkccbhkolaaGreatDoorM3
import Derived.Test.YtkhbmkccbhkolaaGreatDoorRows
import Derived.Lib.LaidTab
import Derived.LaidSub
import Derived.ProofKit
import Derived.LaidMore
import Derived.OpenShut
import Derived.Stop.Joined
import Derived.Test.YtkhbmkccbhkolaaGreatDoorM5
import Derived.Lay
import Derived.LaidLaws
import Derived.Stop.ErrReads
import Derived.RowKitTokens
import Derived.Test.YtkhbmkccbhkolaaGreatDoorPU
import Derived.Lib.LaidU8T
namespace Go.Proofs.YtkhbmkccbhkolaaGreatDoor
set_option linter.unusedVariables false
open Go.ChangeShapes Go.WideShapes Go.ChangeAt Go.WideElems Go.RowKit

def laidStr : List (String × DataW Unit) := [("math/bits.deBruijn32tab", Rows.laid_math_bits_deBruijn32tab), ("math/bits.deBruijn64tab", Rows.laid_math_bits_deBruijn64tab), ("internal/strconv.uint64pow10", Rows.laid_internal_strconv_uint64pow10)]

/-- The door's own heap meets the condition. -/
theorem laidStr_door (os : Os) (args : Array Value) : laidMetH Tryz.prog laidStr ((World.doorLaid Tryz.prog 400 os).forCall (fun _ _ => 0) ⟨#[], args, []⟩).memory :=
  laidMetH_of_parts3 (fuel := 8) (laidMet_of_run' 8 (by kernel_rfl) (by kernel_rfl)) (by kernel_rfl) (by kernel_rfl)

theorem str_filter : (laidStr.filter fun x => x.1 == "internal/strconv.uint64pow10") = [("internal/strconv.uint64pow10", Lib.tabData .u64 Lib.pow10Tab)] := by kernel_rfl
theorem strIs_of {W : World} {l : List (String × DataW Unit)} (hf : (l.filter fun x => x.1 == "internal/strconv.uint64pow10") = [("internal/strconv.uint64pow10", Lib.tabData .u64 Lib.pow10Tab)]) (h : laidMetH Tryz.prog l W) : StrIs W := by
  have h2 := laidMetH.filter (fun x => x.1 == "internal/strconv.uint64pow10") h
  rw [hf, MakeChecks.laidMetH_plain _ _ _ (by kernel_rfl)] at h2
  exact Lib.tabIs_of_head (t := 84) (e := 28) (n := 20) gPow (by kernel_rfl) Tryz.underlying84 Tryz.underlying28 (by kernel_rfl) (by kernel_rfl) h2
theorem strIs_laid {W : World} (h : laidMetH Tryz.prog laidStr W) : StrIs W := strIs_of str_filter h
end Go.Proofs.YtkhbmkccbhkolaaGreatDoor
namespace Go.Proofs.YtkhbmkccbhkolaaGreatDoor
set_option linter.unusedVariables false
open Go.ChangeShapes Go.WideShapes Go.ChangeAt Go.WideElems Go.RowKit

def laidNot : List (String × DataW Unit) := [("math/bits.deBruijn32tab", Rows.laid_math_bits_deBruijn32tab), ("math/bits.deBruijn64tab", Rows.laid_math_bits_deBruijn64tab), ("internal/strconv.uint64pow10", Rows.laid_internal_strconv_uint64pow10), ("unicode/utf8.acceptRanges", Rows.laid_unicode_utf8_acceptRanges), ("loop.example/pub-g01453/pub/rustdemangle.ErrNotMangledName", Rows.laid_loop_example_pub_g01453_pub_rustdemangle_ErrNotMangledName), ("loop.example/pub-g01453/pub/rustdemangle.rustBasicTypes", Rows.laid_loop_example_pub_g01453_pub_rustdemangle_rustBasicTypes), ("unicode/utf8.first", Rows.laid_unicode_utf8_first)]
theorem not_filter : (laidNot.filter fun x => x.1 == "internal/strconv.uint64pow10") = [("internal/strconv.uint64pow10", Lib.tabData .u64 Lib.pow10Tab)] := by kernel_rfl
theorem err_filter : (laidNot.filter fun x => x.1 == "loop.example/pub-g01453/pub/rustdemangle.ErrNotMangledName") = [("loop.example/pub-g01453/pub/rustdemangle.ErrNotMangledName", Rows.laid_loop_example_pub_g01453_pub_rustdemangle_ErrNotMangledName)] := by kernel_rfl
theorem gErr : Tryz.prog.globalNamed "loop.example/pub-g01453/pub/rustdemangle.ErrNotMangledName" = some 0 := by kernel_rfl
theorem tErr : (Tryz.prog.globals[0]?).map (·.type) = some 44 := by kernel_rfl
theorem star_err : "*" ++ "errors.errorString" = "*errors.errorString" := by decide
theorem ptr_err (u : TypeId) (h : Tryz.prog.typeName? 3 u = some "*errors.errorString") : u = 123 :=
  typeName_ptr_named (nm := "errors.errorString") (by rw [star_err]; kernel_rfl) (by kernel_rfl) (by decide) u (by rw [star_err]; exact h)
theorem err_cells : Tryz.prog.cellsOf 137 = 1 := by kernel_rfl
theorem str_cells : Tryz.prog.cellsOf 9 = 1 := by kernel_rfl

set_option maxRecDepth 100000 in
theorem notIs_laid {W : World} (h : laidMetH Tryz.prog laidNot W) : NotIs W := by
  have h2 := laidMetH.filter (fun x => x.1 == "loop.example/pub-g01453/pub/rustdemangle.ErrNotMangledName") h
  rw [err_filter, MakeChecks.laidMetH_plain _ _ _ (by kernel_rfl)] at h2
  obtain ⟨ps, ⟨g0, t0, cs0, f0, p0, q0, hg0, ht0, hv0, hd0, hq0, e0⟩, hnd, hrows⟩ := h2
  obtain rfl := Option.some.inj (gErr.symm.trans hg0)
  obtain rfl := Option.some.inj (tErr.symm.trans ht0)
  have hq0' : q0 = [] := hq0
  subst hq0'
  subst e0
  obtain ⟨l0⟩ := cs0
  have ok0 : ∀ u v, l0 = [.iface u v] → Value.okWide Tryz.prog W .any 0 u v := fun u v e => by
    subst e
    exact (hrows 0 0 (by simp [MemPlace.row])).2 u v (by simpa using World.var?_cell hg0 hv0 0)
  obtain ⟨a0, s0, rfl, hc0, hs0, hz0, rfl⟩ := errorString_of_trod Tryz.underlying44 ptr_err Tryz.underlying123 Tryz.underlying137 rfl rfl Tryz.underlying9 err_cells str_cells hd0 ok0
  exact ⟨a0, by simpa using World.var?_cell hg0 hv0 0⟩
theorem doorIs_laid {W : World} (h : laidMetH Tryz.prog laidNot W) : DoorIs W := ⟨strIs_of not_filter h, notIs_laid h⟩
end Go.Proofs.YtkhbmkccbhkolaaGreatDoor
namespace Go.Proofs.YtkhbmkccbhkolaaGreatDoor
set_option linter.unusedVariables false
open Go.ChangeShapes Go.WideShapes Go.ChangeAt Go.WideElems Go.RowKit

noncomputable def witW (os : Os) : World := (World.doorLaid Tryz.prog 400 os).layVars Tryz.prog [("unicode/utf8.first", Rows.laid_unicode_utf8_first)]
theorem witW_os (os : Os) : (witW os).os = os := World.layVars_os _ _ _
theorem witW_shaped (os : Os) (args : Array Value) : ((witW os).forCall (fun _ _ => 0) ⟨#[], args, []⟩).Shaped Tryz.prog := World.shaped_of_ZipB (by kernel_rfl) (by kernel_rfl)
theorem wit_in (os : Os) : LaidIn Tryz.prog (witW os) (laidNot.filter fun x => !["unicode/utf8.first"].contains x.1) [0, 1, 3, 4, 5, 6, 8, 9, 10, 11, 12, 13, 14] :=
  LaidIn.of_run _ 8 (by kernel_rfl) (by kernel_rfl) (by kernel_rfl) (by kernel_rfl)
theorem wit_met (os : Os) : laidMet Tryz.prog laidNot (witW os) :=
  laidMet_layVars (w0 := World.doorLaid Tryz.prog 400 os) ["unicode/utf8.first"] [0, 1, 3, 4, 5, 6, 8, 9, 10, 11, 12, 13, 14]
    (by rfl) (by kernel_rfl) (by kernel_rfl) (wit_in os)
theorem laidNot_met (os : Os) (args : Array Value) : laidMetH Tryz.prog laidNot ((witW os).forCall (fun _ _ => 0) ⟨#[], args, []⟩).memory := by
  rw [MakeChecks.laidMetH_plain _ _ _ (by kernel_rfl)]
  exact (wit_met os).of_heap (by simp [World.memory, World.forCall, Input.heap])
end Go.Proofs.YtkhbmkccbhkolaaGreatDoor
namespace Go.Proofs.YtkhbmkccbhkolaaGreatDoor
set_option linter.unusedVariables false
open Go.ChangeShapes Go.WideShapes Go.ChangeAt Go.WideElems Go.RowKit
def laidUtf : List (String × DataW Unit) := [("unicode/utf8.acceptRanges", Rows.laid_unicode_utf8_acceptRanges), ("unicode/utf8.first", Rows.laid_unicode_utf8_first)]
theorem utf_filter : (laidUtf.filter fun x => x.1 == "unicode/utf8.acceptRanges" || x.1 == "unicode/utf8.first") = [("unicode/utf8.acceptRanges", Lib.acceptData), ("unicode/utf8.first", Lib.firstData)] := by kernel_rfl
theorem utfIs_of {W : World} {l : List (String × DataW Unit)} (hf : (l.filter fun x => x.1 == "unicode/utf8.acceptRanges" || x.1 == "unicode/utf8.first") = [("unicode/utf8.acceptRanges", Lib.acceptData), ("unicode/utf8.first", Lib.firstData)]) (h : laidMetH Tryz.prog l W) : UtfIs W := by
  have h2 := laidMetH.filter (fun x => x.1 == "unicode/utf8.acceptRanges" || x.1 == "unicode/utf8.first") h
  rw [hf, MakeChecks.laidMetH_plain _ _ _ (by kernel_rfl)] at h2
  exact utf8Tabs_of_readsT (U8Types.of196 Tryz.laysValid) ⟨by kernel_rfl, by kernel_rfl, by kernel_rfl, by kernel_rfl, by kernel_rfl, by kernel_rfl, by kernel_rfl⟩ (Lib.laidMet.reads h2 (.tail _ (.head _))) (Lib.laidMet.reads h2 (.head _))
theorem utfIs_laid {W : World} (h : laidMetH Tryz.prog laidUtf W) : UtfIs W := utfIs_of utf_filter h
end Go.Proofs.YtkhbmkccbhkolaaGreatDoor
namespace Go.Proofs.YtkhbmkccbhkolaaGreatDoor
set_option linter.unusedVariables false
open Go.ChangeShapes Go.WideShapes Go.ChangeAt Go.WideElems Go.RowKit
theorem not_utf : (laidNot.filter fun x => x.1 == "unicode/utf8.acceptRanges" || x.1 == "unicode/utf8.first") = [("unicode/utf8.acceptRanges", Lib.acceptData), ("unicode/utf8.first", Lib.firstData)] := by kernel_rfl
theorem doorU_laid {W : World} (h : laidMetH Tryz.prog laidNot W) : DoorU W := ⟨doorIs_laid h, utfIs_of not_utf h⟩
end Go.Proofs.YtkhbmkccbhkolaaGreatDoor
