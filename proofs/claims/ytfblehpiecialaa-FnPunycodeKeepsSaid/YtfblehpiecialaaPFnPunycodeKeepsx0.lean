/- Written by a program of this session (wip/tools/myprint.py) with the kit's print: contracts of the functions that one statement reaches; functions that are proved by hand are taken as printed. Conditions: none. -/
import Derived.Test.YtfblehpiecialaaProg
import Derived.Below
import Derived.Deep.Draws
import Derived.Deep.AppendLies
import Derived.Maps.AppendAt
import Derived.OwnWalk
import Derived.Laws.BytesArg
import Derived.Laws.MakeOwn
import Derived.Laws.OwnMore
import Derived.Deep.OwnRows
import Derived.Tactics
import Derived.Lib.ConvBytes
import Derived.Laws.Slices
import Derived.WalkKit
import Derived.KernelRfl
import Derived.RowKit3
import Derived.Deep.LoopGhost
import Derived.Deep.QuietTactic
import Derived.BigQuiet
import Derived.WideLaws
import Derived.Deep.DeepCutAuto
import Derived.Deep.CutBlock
import Derived.Deep.RegionHeld3
import Derived.Laws.Rows
import Derived.Lib.AppendStr
import Derived.ArgAppend
import Derived.Laws.IdiomCopy
import Derived.OrdersHeld
import Derived.Laws.BitsLemmas
import Derived.RowKit
import Derived.Test.YtfblehpiecialaaExtDec
import Derived.Test.YtfblehpiecialaaExtB62
import Derived.Test.YtfblehpiecialaaExtPuny
import Derived.Test.YtfblehpiecialaaWWords
import Derived.Test.YtfblehpiecialaaWLast
import Derived.Test.YtfblehpiecialaaWTab
import Derived.Test.YtfblehpiecialaaWFour
import Derived.Test.YtfblehpiecialaaWQPut
import Derived.Test.YtfblehpiecialaaWApart
import Derived.Test.YtfblehpiecialaaWArr
import Derived.Test.YtfblehpiecialaaWZeros
import Derived.Test.YtfblehpiecialaaWFoot
import Derived.Test.YtfblehpiecialaaWKept
import Derived.Test.YtfblehpiecialaaWShare
import Derived.Test.YtfblehpiecialaaWN
import Derived.Test.YtfblehpiecialaaWFootNe
import Derived.Test.YtfblehpiecialaaWAt
import Derived.Test.YtfblehpiecialaaWEqStruct
import Derived.Test.YtfblehpiecialaaWRepsOne
import Derived.Test.YtfblehpiecialaaWInv
import Derived.Test.YtfblehpiecialaaWInvWords
import Derived.Test.YtfblehpiecialaaWGuard
import Derived.Test.YtfblehpiecialaaWNEv
import Derived.Test.YtfblehpiecialaaWMore
import Derived.Test.YtfblehpiecialaaWSized
namespace Go.Proofs.Ytfblehpiecialaa.PFnPunycodeKeeps
open Go.RowKit Go.Proofs.YtfblehpiecialaaW.PrintWords Go.Proofs.YtfblehpiecialaaW.PrintLast Go.Proofs.YtfblehpiecialaaW.PrintMore
attribute [local go_sem] max2_int min2_int max_two min_two max_three min_three max_four min_four   -- for this text's walks alone
set_option linter.unusedVariables false
set_option linter.unusedSimpArgs false



def errW : Option Int → Value
  | none => .nilIface
  | some c => .iface 0 (.int .i64 c)
theorem errW_none : errW none = .nilIface := rfl
theorem errW_some (c : Int) : errW (some c) = .iface 0 (.int .i64 c) := rfl

theorem info5 : (Try.prog.info? 5).map (fun i => (i.zero, i.size, i.bytes)) = some (some (.int .u8 0), 1, 1) := by kernel_rfl
-- the values' own types

end Go.Proofs.Ytfblehpiecialaa.PFnPunycodeKeeps
