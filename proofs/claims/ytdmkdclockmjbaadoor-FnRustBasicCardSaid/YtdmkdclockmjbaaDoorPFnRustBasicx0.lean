/- Written by a program of this session (wip/tools/myprint.py) with the kit's print: contracts of the functions that one statement reaches; functions that are proved by hand are taken as printed. Conditions: none. -/
import Derived.Test.YtdmkdclockmjbaaDoorProg
import Derived.Below
import Derived.Deep.Draws
import Derived.Deep.AppendLies
import Derived.Maps.AppendAt
import Derived.OwnWalk
import Derived.Laws.BytesArg
import Derived.Laws.MakeOwn
import Derived.Laws.OwnMore
import Derived.Deep.OwnRows
import Derived.Tactics
import Derived.Lib.ConvBytes
import Derived.Laws.Slices
import Derived.WalkKit
import Derived.KernelRfl
import Derived.RowKit3
import Derived.Deep.LoopGhost
import Derived.Deep.QuietTactic
import Derived.BigQuiet
import Derived.WideLaws
import Derived.Deep.DeepCutAuto
import Derived.Deep.CutBlock
import Derived.Deep.RegionHeld3
import Derived.Laws.Rows
import Derived.Lib.AppendStr
import Derived.ArgAppend
import Derived.Laws.IdiomCopy
import Derived.OrdersHeld
import Derived.Laws.BitsLemmas
import Derived.RowKit
import Derived.Test.YtdmkdclockmjbaaDoorToldB
import Derived.Test.YtdmkdclockmjbaaDoorWWords
import Derived.Test.YtdmkdclockmjbaaDoorWLast
import Derived.Test.YtdmkdclockmjbaaDoorWTab
import Derived.Test.YtdmkdclockmjbaaDoorWFour
import Derived.Test.YtdmkdclockmjbaaDoorWQPut
import Derived.Test.YtdmkdclockmjbaaDoorWApart
import Derived.Test.YtdmkdclockmjbaaDoorWArr
import Derived.Test.YtdmkdclockmjbaaDoorWZeros
import Derived.Test.YtdmkdclockmjbaaDoorWFoot
import Derived.Test.YtdmkdclockmjbaaDoorWKept
import Derived.Test.YtdmkdclockmjbaaDoorWShare
import Derived.Test.YtdmkdclockmjbaaDoorWN
import Derived.Test.YtdmkdclockmjbaaDoorWFootNe
import Derived.Test.YtdmkdclockmjbaaDoorWAt
import Derived.Test.YtdmkdclockmjbaaDoorWEqStruct
import Derived.Test.YtdmkdclockmjbaaDoorWRepsOne
import Derived.Test.YtdmkdclockmjbaaDoorWInv
import Derived.Test.YtdmkdclockmjbaaDoorWInvWords
import Derived.Test.YtdmkdclockmjbaaDoorWGuard
import Derived.Test.YtdmkdclockmjbaaDoorWNEv
import Derived.Test.YtdmkdclockmjbaaDoorWMore
import Derived.Test.YtdmkdclockmjbaaDoorWSized
namespace Go.Proofs.YtdmkdclockmjbaaDoor.PFnRustBasic
open Go.RowKit Go.Proofs.YtdmkdclockmjbaaDoorW.PrintWords Go.Proofs.YtdmkdclockmjbaaDoorW.PrintLast Go.Proofs.YtdmkdclockmjbaaDoorW.PrintMore
attribute [local go_sem] max2_int min2_int max_two min_two max_three min_three max_four min_four   -- for this text's walks alone
set_option linter.unusedVariables false
set_option linter.unusedSimpArgs false



def errW : Option Int → Value
  | none => .nilIface
  | some c => .iface 0 (.int .i64 c)
theorem errW_none : errW none = .nilIface := rfl
theorem errW_some (c : Int) : errW (some c) = .iface 0 (.int .i64 c) := rfl

theorem info5 : (Tryd.prog.info? 5).map (fun i => (i.zero, i.size, i.bytes)) = some (some (.int .u8 0), 1, 1) := by kernel_rfl
-- the values' own types

end Go.Proofs.YtdmkdclockmjbaaDoor.PFnRustBasic
