/- Written by a program of this session (wip/tools/myprint.py) with the kit's print: contracts of the functions that one statement reaches; functions that are proved by hand are taken as printed. Conditions: none. -/
import Derived.Test.YtfblehpiecialaaDoorProg
import Derived.Below
import Derived.Deep.Draws
import Derived.Deep.AppendLies
import Derived.Maps.AppendAt
import Derived.OwnWalk
import Derived.Laws.BytesArg
import Derived.Laws.MakeOwn
import Derived.Laws.OwnMore
import Derived.Deep.OwnRows
import Derived.Tactics
import Derived.Lib.ConvBytes
import Derived.Laws.Slices
import Derived.WalkKit
import Derived.KernelRfl
import Derived.RowKit3
import Derived.Deep.LoopGhost
import Derived.Deep.QuietTactic
import Derived.BigQuiet
import Derived.WideLaws
import Derived.Deep.DeepCutAuto
import Derived.Deep.CutBlock
import Derived.Deep.RegionHeld3
import Derived.Laws.Rows
import Derived.Lib.AppendStr
import Derived.ArgAppend
import Derived.Laws.IdiomCopy
import Derived.OrdersHeld
import Derived.Laws.BitsLemmas
import Derived.RowKit
import Derived.Test.YtfblehpiecialaaDoorExtWri
import Derived.Test.YtfblehpiecialaaDoorExtIde
import Derived.Test.YtfblehpiecialaaDoorCut
import Derived.Test.YtfblehpiecialaaDoorWWords
import Derived.Test.YtfblehpiecialaaDoorWLast
import Derived.Test.YtfblehpiecialaaDoorWTab
import Derived.Test.YtfblehpiecialaaDoorWFour
import Derived.Test.YtfblehpiecialaaDoorWQPut
import Derived.Test.YtfblehpiecialaaDoorWApart
import Derived.Test.YtfblehpiecialaaDoorWArr
import Derived.Test.YtfblehpiecialaaDoorWZeros
import Derived.Test.YtfblehpiecialaaDoorWFoot
import Derived.Test.YtfblehpiecialaaDoorWKept
import Derived.Test.YtfblehpiecialaaDoorWShare
import Derived.Test.YtfblehpiecialaaDoorWN
import Derived.Test.YtfblehpiecialaaDoorWFootNe
import Derived.Test.YtfblehpiecialaaDoorWAt
import Derived.Test.YtfblehpiecialaaDoorWEqStruct
import Derived.Test.YtfblehpiecialaaDoorWRepsOne
import Derived.Test.YtfblehpiecialaaDoorWInv
import Derived.Test.YtfblehpiecialaaDoorWInvWords
import Derived.Test.YtfblehpiecialaaDoorWGuard
import Derived.Test.YtfblehpiecialaaDoorWNEv
import Derived.Test.YtfblehpiecialaaDoorWMore
import Derived.Test.YtfblehpiecialaaDoorWSized
namespace Go.Proofs.YtfblehpiecialaaDoor.PFnIdentifierRead
open Go.RowKit Go.Proofs.YtfblehpiecialaaDoorW.PrintWords Go.Proofs.YtfblehpiecialaaDoorW.PrintLast Go.Proofs.YtfblehpiecialaaDoorW.PrintMore
attribute [local go_sem] max2_int min2_int max_two min_two max_three min_three max_four min_four   -- for this text's walks alone
set_option linter.unusedVariables false
set_option linter.unusedSimpArgs false



def errW : Option Int → Value
  | none => .nilIface
  | some c => .iface 0 (.int .i64 c)
theorem errW_none : errW none = .nilIface := rfl
theorem errW_some (c : Int) : errW (some c) = .iface 0 (.int .i64 c) := rfl

theorem info5 : (Tryd.prog.info? 5).map (fun i => (i.zero, i.size, i.bytes)) = some (some (.int .u8 0), 1, 1) := by kernel_rfl
-- the values' own types

end Go.Proofs.YtfblehpiecialaaDoor.PFnIdentifierRead
