/- The thin package's Constant, in the form of a printed function: of what begins with no B and is told or refused. -/
import Derived.Test.YtpmlnhddkbgefaaDoorZCon
import Derived.Test.YtpmlnhddkbgefaaDoorStays
namespace Go.Proofs.YtpmlnhddkbgefaaDoor
set_option linter.unusedVariables false
set_option linter.unusedSimpArgs false
open Go.RowKit

def impl_Constant.f (a0 : ByteArray) : Option (ByteArray × ByteArray × Bool) :=
  if a0.size ≤ 140737488355000 ∧ a0.data.toList.head? ≠ some 66 then
    match Dm.const a0.data.toList with
    | .told t r => some (bs t, bs r, true)
    | .bad => some (⟨#[]⟩, ⟨#[]⟩, false)
    | .unsaid => none
  else none

theorem bs_data' (s : ByteArray) : bs s.data.toList = s := by
  apply ByteArray.ext
  show s.data.toList.toArray = s.data
  simp

theorem impl_Constant.calls {T_ : World → Prop} [HasStr T_] (a0 : ByteArray) (r1 : ByteArray) (r2 : ByteArray) (r3 : Bool) (w : World) (hT_ : T_ w) (h : impl_Constant.f a0 = some (r1, r2, r3)) :
    Calls Tryd.prog 16 #[.string a0] w fun e w' => e = .returned (.tuple #[.string r1, .string r2, .bool r3]) ∧ Below w.heap.size w w' := by
  unfold impl_Constant.f at h
  by_cases hs : a0.size ≤ 140737488355000 ∧ a0.data.toList.head? ≠ some 66
  · rw [if_pos hs] at h
    have hl : a0.data.toList.length ≤ 140737488355000 := by rw [Array.length_toList]; exact hs.1
    cases hd : Dm.const a0.data.toList with
    | told t r =>
      rw [hd] at h
      simp only [Option.some.injEq, Prod.mk.injEq] at h
      obtain ⟨rfl, rfl, rfl⟩ := h
      have hc := constant_told a0.data.toList w hl hs.2 (HasStr.str hT_) t r hd
      rw [bs_data'] at hc
      exact hc
    | bad =>
      rw [hd] at h
      simp only [Option.some.injEq, Prod.mk.injEq] at h
      obtain ⟨rfl, rfl, rfl⟩ := h
      have hc := constant_bad a0.data.toList w hl hs.2 (HasStr.str hT_) hd
      rw [bs_data'] at hc
      exact hc
    | unsaid => rw [hd] at h; cases h
  · rw [if_neg hs] at h; cases h
end Go.Proofs.YtpmlnhddkbgefaaDoor
