/- Written by a program of this session (wip/tools/myprint.py) with the kit's print: contracts of the functions that one statement reaches; functions that are proved by hand are taken as printed. Conditions: none. -/
import Derived.Test.YtkhbmkccbhkolaaDoorProg
import Derived.Below
import Derived.Deep.Draws
import Derived.Deep.AppendLies
import Derived.Maps.AppendAt
import Derived.OwnWalk
import Derived.Laws.BytesArg
import Derived.Laws.MakeOwn
import Derived.Laws.OwnMore
import Derived.Deep.OwnRows
import Derived.Tactics
import Derived.Lib.ConvBytes
import Derived.Laws.Slices
import Derived.WalkKit
import Derived.KernelRfl
import Derived.RowKit3
import Derived.Deep.LoopGhost
import Derived.Deep.QuietTactic
import Derived.BigQuiet
import Derived.WideLaws
import Derived.Deep.DeepCutAuto
import Derived.Deep.CutBlock
import Derived.Deep.RegionHeld3
import Derived.Laws.Rows
import Derived.Lib.AppendStr
import Derived.ArgAppend
import Derived.Laws.IdiomCopy
import Derived.OrdersHeld
import Derived.Laws.BitsLemmas
import Derived.RowKit
import Derived.Test.YtkhbmkccbhkolaaDoorItoa
import Derived.Test.YtkhbmkccbhkolaaDoorPC
import Derived.Test.YtkhbmkccbhkolaaDoorExtIdC
import Derived.Test.YtkhbmkccbhkolaaDoorCut
import Derived.Test.YtkhbmkccbhkolaaDoorWWords
import Derived.Test.YtkhbmkccbhkolaaDoorWLast
import Derived.Test.YtkhbmkccbhkolaaDoorWTab
import Derived.Test.YtkhbmkccbhkolaaDoorWFour
import Derived.Test.YtkhbmkccbhkolaaDoorWQPut
import Derived.Test.YtkhbmkccbhkolaaDoorWApart
import Derived.Test.YtkhbmkccbhkolaaDoorWArr
import Derived.Test.YtkhbmkccbhkolaaDoorWZeros
import Derived.Test.YtkhbmkccbhkolaaDoorWFoot
import Derived.Test.YtkhbmkccbhkolaaDoorWKept
import Derived.Test.YtkhbmkccbhkolaaDoorWShare
import Derived.Test.YtkhbmkccbhkolaaDoorWN
import Derived.Test.YtkhbmkccbhkolaaDoorWFootNe
import Derived.Test.YtkhbmkccbhkolaaDoorWAt
import Derived.Test.YtkhbmkccbhkolaaDoorWEqStruct
import Derived.Test.YtkhbmkccbhkolaaDoorWRepsOne
import Derived.Test.YtkhbmkccbhkolaaDoorWInv
import Derived.Test.YtkhbmkccbhkolaaDoorWInvWords
import Derived.Test.YtkhbmkccbhkolaaDoorWGuard
import Derived.Test.YtkhbmkccbhkolaaDoorWNEv
import Derived.Test.YtkhbmkccbhkolaaDoorWMore
import Derived.Test.YtkhbmkccbhkolaaDoorWSized
namespace Go.Proofs.YtkhbmkccbhkolaaDoor.PFnIdentifierUnicode
open Go.RowKit Go.Proofs.YtkhbmkccbhkolaaDoorW.PrintWords Go.Proofs.YtkhbmkccbhkolaaDoorW.PrintLast Go.Proofs.YtkhbmkccbhkolaaDoorW.PrintMore
attribute [local go_sem] max2_int min2_int max_two min_two max_three min_three max_four min_four   -- for this text's walks alone
set_option linter.unusedVariables false
set_option linter.unusedSimpArgs false



def errW : Option Int → Value
  | none => .nilIface
  | some c => .iface 0 (.int .i64 c)
theorem errW_none : errW none = .nilIface := rfl
theorem errW_some (c : Int) : errW (some c) = .iface 0 (.int .i64 c) := rfl

theorem info3 : (Tryd.prog.info? 3).map (fun i => (i.zero, i.size, i.bytes)) = some (some (.int .i64 0), 1, 8) := by kernel_rfl
-- the values' own types

end Go.Proofs.YtkhbmkccbhkolaaDoor.PFnIdentifierUnicode
