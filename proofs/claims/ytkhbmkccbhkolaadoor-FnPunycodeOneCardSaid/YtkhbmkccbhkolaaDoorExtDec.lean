/- The thin package's Decimal, in the form of a printed function. -/
import Derived.Test.YtkhbmkccbhkolaaDoorDec
namespace Go.Proofs.YtkhbmkccbhkolaaDoor
set_option linter.unusedVariables false
set_option linter.unusedSimpArgs false
open Go.RowKit

def impl_Decimal.f (a0 : ByteArray) : Option (Int × ByteArray × Bool) :=
  if a0.size ≤ 4611686018427387904 then
    match Dm.decimal a0.data.toList with
    | some (n, r) => some (n, bs r, true)
    | none => some (0, ⟨#[]⟩, false)
  else none

theorem bs_data (s : ByteArray) : bs s.data.toList = s := by
  apply ByteArray.ext
  show s.data.toList.toArray = s.data
  simp

end Go.Proofs.YtkhbmkccbhkolaaDoor
