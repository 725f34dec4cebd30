/- What stays true of a world behind a call. -/
import Derived.Below
namespace Go.Proofs.YtaegllbokgjoeaaDoor
open Go.RowKit
class Stays (T : World → Prop) : Prop where
  below : ∀ {w w' : World}, T w → Below w.heap.size w w' → T w'
/-- What held of a world from whose size on the blocks lie that may have been written since. -/
def Based (T : World → Prop) (b : Nat) (w : World) : Prop := ∃ w0, T w0 ∧ w0.heap.size ≤ b ∧ Below w0.heap.size w0 w
theorem Based.on {T : World → Prop} {b : Nat} {w w' : World} (h : Based T b w) (hb : Below b w w') : Based T b w' := by
  obtain ⟨w0, h0, h1, h2⟩ := h
  exact ⟨w0, h0, h1, h2.trans (hb.mono h1)⟩
theorem Based.out {T : World → Prop} [Stays T] {b : Nat} {w : World} (h : Based T b w) : T w := by
  obtain ⟨w0, h0, h1, h2⟩ := h
  exact Stays.below h0 h2
theorem Based.mk' {T : World → Prop} {b : Nat} {w w' : World} (h : T w) (hb : w.heap.size ≤ b) (h2 : Below w.heap.size w w') : Based T b w' := ⟨w, h, hb, h2⟩
end Go.Proofs.YtaegllbokgjoeaaDoor
