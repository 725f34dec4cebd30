/- MaxLength, in the form of a printed function. -/
import Derived.Test.YtpmlnhddkbgefaaDoorProg
import Derived.RowKit
import Derived.WalkKit
import Derived.WalkSpells
import Derived.Below
namespace Go.Proofs.YtpmlnhddkbgefaaDoor
set_option linter.unusedVariables false
set_option linter.unusedSimpArgs false
open Go.RowKit

def demangle_MaxLength.f (a0 : Int) : Option Int := if 1 ≤ a0 ∧ a0 ≤ 30 then some (a0 * 65536) else none
theorem demangle_MaxLength.calls (a0 : Int) (r : Int) (w : World) (h : demangle_MaxLength.f a0 = some r) :
    Calls Tryd.prog 64 #[.int .i64 a0] w fun e w' => e = .returned (.int .i64 r) ∧ w = w' := by
  unfold demangle_MaxLength.f at h
  by_cases hs : 1 ≤ a0 ∧ a0 ≤ 30
  · rw [if_pos hs] at h
    injection h with h
    subst h
    obtain ⟨h1, h2⟩ := hs
    have h3 : ¬ a0 ≤ 0 := by omega
    have h4 : ¬ 30 < a0 := by omega
    have h5 : IntKind.i64.wrap (a0 * 65536) = a0 * 65536 := IntWalk.i64_in _ (by omega)
    go_enter Tryd.func64, Tryd.ntmps64
    go_wp2
    go_ret
    exact ⟨rfl, rfl⟩
  · rw [if_neg hs] at h; cases h
end Go.Proofs.YtpmlnhddkbgefaaDoor
