/- FnRustBasic, of numbers and lists alone: each letter of a basic type is told as this type. -/
import Derived.Test.YtdmkdclockmjbaaDoorPFnRustBasicx1
import Derived.Test.YtdmkdclockmjbaaDoorToldB
namespace Go.Proofs.YtdmkdclockmjbaaDoor.Pure
set_option linter.unusedVariables false
set_option linter.unusedSimpArgs false
open Go.RowKit Go.Proofs.YtdmkdclockmjbaaDoor.PFnRustBasic Go.Proofs.YtdmkdclockmjbaaDoorW.PrintWords Go.Proofs.YtdmkdclockmjbaaDoorW.PrintLast

set_option maxRecDepth 100000 in
theorem all_letters : ∀ k : Fin 256, laws_FnRustBasic.f ((k.val : Nat) : Int) = some true := by decide +kernel
theorem FnRustBasic : laws_FnRustBasic.Pure := by
  intro a0 hw
  simp [Lit.wf, IntKind.min, IntKind.max, IntKind.bits, IntKind.signed] at hw
  obtain ⟨k, rfl⟩ := Int.eq_ofNat_of_zero_le hw.1
  exact all_letters ⟨k, by omega⟩
end Go.Proofs.YtdmkdclockmjbaaDoor.Pure
