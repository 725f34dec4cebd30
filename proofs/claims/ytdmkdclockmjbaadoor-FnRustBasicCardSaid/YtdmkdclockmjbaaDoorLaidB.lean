/- The map of basic types beside the error and the tables, as the program's text lays them. -/
import Derived.Test.YtdmkdclockmjbaaDoorM7
import Derived.Test.YtdmkdclockmjbaaDoorLaidMap
import Derived.Test.YtdmkdclockmjbaaDoorToldB
namespace Go.Proofs.YtdmkdclockmjbaaDoor
set_option linter.unusedVariables false
open Go.ChangeShapes Go.WideShapes Go.ChangeAt Go.WideElems Go.RowKit
theorem map_filter : (laidNot.filter fun x => x.1 == "loop.example/pub-g01453/pub/rustdemangle.rustBasicTypes") = laidMap := by kernel_rfl
theorem doorB_laid {W : World} (h : laidMetH Tryd.prog laidNot W) : DoorB W :=
  ⟨doorIs_laid h, mapIs_laid (by have h2 := laidMetH.filter (fun x => x.1 == "loop.example/pub-g01453/pub/rustdemangle.rustBasicTypes") h; rw [map_filter] at h2; exact h2)⟩
end Go.Proofs.YtdmkdclockmjbaaDoor
