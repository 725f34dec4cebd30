/- FnLegacyNoNumber: its walk (PFnLegacyNoNumberx3) asks for nothing of plain numbers. -/
import Derived.Test.YtpmlnhddkbgefaaDoorPFnLegacyNoNumberx3
namespace Go.Proofs.YtpmlnhddkbgefaaDoor.Pure
open Go.RowKit Go.Proofs.YtpmlnhddkbgefaaDoor.PFnLegacyNoNumber
theorem FnLegacyNoNumber : laws_FnLegacyNoNumber.Pure := trivial
end Go.Proofs.YtpmlnhddkbgefaaDoor.Pure
