/- idCut, told in place: the cut that the caller's text lays. -/
import Derived.Test.YtkhbmkccbhkolaaDoorProg
import Derived.Test.YtkhbmkccbhkolaaDoorWWords
import Derived.Test.YtkhbmkccbhkolaaDoorWMore
import Derived.WalkKit
import Derived.Handy
namespace Go.Proofs.YtkhbmkccbhkolaaDoor
set_option linter.unusedVariables false
set_option linter.unusedSimpArgs false
open Go.RowKit Go.Proofs.YtkhbmkccbhkolaaDoorW.PrintWords Go.Proofs.YtkhbmkccbhkolaaDoorW.PrintMore
attribute [local go_sem] max2_int min2_int max_two min_two max_three min_three max_four min_four

theorem idCut_at (A : Option Addr) (n c : Nat) (j : Int) (V : Value) (w : World)
    (hcut : ∀ W : World, (Instr.slice 22 (.slice A n c) none (some (.int .i64 j)) none).run Tryd.prog W = .ok V W) (hj : mn (n : Int) 1000 = j) :
    Calls Tryd.prog 6 #[.slice A n c] w fun e w' => e = .returned V ∧ w' = w := by
  have hj2 : (if 1000 < (n : Int) then 1000 else (n : Int)) = j := hj
  go_enter Tryd.func6, Tryd.ntmps6
  go_wp2
  go_ret
  exact ⟨rfl, rfl⟩
end Go.Proofs.YtkhbmkccbhkolaaDoor
