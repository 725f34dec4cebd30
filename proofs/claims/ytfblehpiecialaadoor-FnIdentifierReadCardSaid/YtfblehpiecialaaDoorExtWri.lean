/- The reference's IdWritten, of plain names, in the form of a printed function. -/
import Derived.Test.YtfblehpiecialaaDoorWri
namespace Go.Proofs.YtfblehpiecialaaDoor
set_option linter.unusedVariables false
set_option linter.unusedSimpArgs false
open Go.RowKit

def spec_IdWritten.f (a0 : ByteArray) : Option ByteArray :=
  if a0.size ≤ 1000000000000000 ∧ a0.data.toList.all Dm.isPlain = true then some (bs (Dm.written a0.data.toList)) else none

theorem spec_IdWritten.calls {T_ : World → Prop} [HasStr T_] (a0 : ByteArray) (r : ByteArray) (w : World) (hT_ : T_ w) (h : spec_IdWritten.f a0 = some r) :
    Calls Tryd.prog 28 #[.string a0] w fun e w' => e = .returned (.string r) ∧ Below w.heap.size w w' := by
  unfold spec_IdWritten.f at h
  by_cases hs : a0.size ≤ 1000000000000000 ∧ a0.data.toList.all Dm.isPlain = true
  · rw [if_pos hs] at h
    injection h with h
    subst h
    have hc := written_calls a0.data.toList w (by rw [Array.length_toList]; exact hs.1) hs.2 (HasStr.str hT_)
    have e : bs a0.data.toList = a0 := by apply ByteArray.ext; show a0.data.toList.toArray = a0.data; simp
    rw [e] at hc
    exact hc
  · rw [if_neg hs] at h; cases h
end Go.Proofs.YtfblehpiecialaaDoor
