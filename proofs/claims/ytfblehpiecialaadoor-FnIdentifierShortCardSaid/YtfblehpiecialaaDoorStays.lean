/- What stays true of a world behind a call. -/
import Derived.Below
namespace Go.Proofs.YtfblehpiecialaaDoor
open Go.RowKit
class Stays (T : World → Prop) : Prop where
  below : ∀ {w w' : World}, T w → Below w.heap.size w w' → T w'
end Go.Proofs.YtfblehpiecialaaDoor
