/- Written by a program of this session (wip/tools/myprint.py) with the kit's print: contracts of the functions that one statement reaches; functions that are proved by hand are taken as printed. Conditions: none. -/
import Derived.Test.YtpmlnhddkbgefaaDoorProg
import Derived.Test.YtpmlnhddkbgefaaDoorLgS
import Derived.Below
import Derived.Deep.Draws
import Derived.Deep.AppendLies
import Derived.Maps.AppendAt
import Derived.OwnWalk
import Derived.Laws.BytesArg
import Derived.Laws.MakeOwn
import Derived.Laws.OwnMore
import Derived.Deep.OwnRows
import Derived.Tactics
import Derived.Lib.ConvBytes
import Derived.Laws.Slices
import Derived.WalkKit
import Derived.KernelRfl
import Derived.RowKit3
import Derived.Deep.LoopGhost
import Derived.Deep.QuietTactic
import Derived.BigQuiet
import Derived.WideLaws
import Derived.Deep.DeepCutAuto
import Derived.Deep.CutBlock
import Derived.Deep.RegionHeld3
import Derived.Laws.Rows
import Derived.Lib.AppendStr
import Derived.ArgAppend
import Derived.Laws.IdiomCopy
import Derived.OrdersHeld
import Derived.Laws.BitsLemmas
import Derived.RowKit
import Derived.Test.YtpmlnhddkbgefaaDoorN6
import Derived.Test.YtpmlnhddkbgefaaDoorN7
import Derived.Test.YtpmlnhddkbgefaaDoorM3
import Derived.Test.YtpmlnhddkbgefaaDoorM6
import Derived.Test.YtpmlnhddkbgefaaDoorWWords
import Derived.Test.YtpmlnhddkbgefaaDoorWLast
import Derived.Test.YtpmlnhddkbgefaaDoorWTab
import Derived.Test.YtpmlnhddkbgefaaDoorWFour
import Derived.Test.YtpmlnhddkbgefaaDoorWQPut
import Derived.Test.YtpmlnhddkbgefaaDoorWApart
import Derived.Test.YtpmlnhddkbgefaaDoorWArr
import Derived.Test.YtpmlnhddkbgefaaDoorWZeros
import Derived.Test.YtpmlnhddkbgefaaDoorWFoot
import Derived.Test.YtpmlnhddkbgefaaDoorWKept
import Derived.Test.YtpmlnhddkbgefaaDoorWShare
import Derived.Test.YtpmlnhddkbgefaaDoorWN
import Derived.Test.YtpmlnhddkbgefaaDoorWFootNe
import Derived.Test.YtpmlnhddkbgefaaDoorWAt
import Derived.Test.YtpmlnhddkbgefaaDoorWEqStruct
import Derived.Test.YtpmlnhddkbgefaaDoorWRepsOne
import Derived.Test.YtpmlnhddkbgefaaDoorWInv
import Derived.Test.YtpmlnhddkbgefaaDoorWInvWords
import Derived.Test.YtpmlnhddkbgefaaDoorWGuard
import Derived.Test.YtpmlnhddkbgefaaDoorWNEv
import Derived.Test.YtpmlnhddkbgefaaDoorWMore
import Derived.Test.YtpmlnhddkbgefaaDoorWSized
namespace Go.Proofs.YtpmlnhddkbgefaaDoor.PLgName
open Go.RowKit Go.Proofs.YtpmlnhddkbgefaaDoorW.PrintWords Go.Proofs.YtpmlnhddkbgefaaDoorW.PrintLast Go.Proofs.YtpmlnhddkbgefaaDoorW.PrintMore
attribute [local go_sem] max2_int min2_int max_two min_two max_three min_three max_four min_four   -- for this text's walks alone
set_option linter.unusedVariables false
set_option linter.unusedSimpArgs false



def errW : Option Int → Value
  | none => .nilIface
  | some c => .iface 0 (.int .i64 c)
theorem errW_none : errW none = .nilIface := rfl
theorem errW_some (c : Int) : errW (some c) = .iface 0 (.int .i64 c) := rfl

theorem info56 : (Tryd.prog.info? 56).map (fun i => (i.zero, i.size, i.bytes)) = some (some (.agg #[(.string ⟨#[]⟩), (.string ⟨#[]⟩)]), 2, 32) := by kernel_rfl
theorem info106 : (Tryd.prog.info? 106).map (fun i => (i.zero, i.size, i.bytes)) = some (some (.agg #[(.int .i64 0), (.string ⟨#[]⟩)]), 2, 24) := by kernel_rfl
-- the values' own types
end Go.Proofs.YtpmlnhddkbgefaaDoor.PLgName
