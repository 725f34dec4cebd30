/- The thin package's Decimal, in the form of a printed function. -/
import Derived.Test.YtfblehpiecialaaDoorDec
namespace Go.Proofs.YtfblehpiecialaaDoor
set_option linter.unusedVariables false
set_option linter.unusedSimpArgs false
open Go.RowKit

def impl_Decimal.f (a0 : ByteArray) : Option (Int × ByteArray × Bool) :=
  if a0.size ≤ 4611686018427387904 then
    match Dm.decimal a0.data.toList with
    | some (n, r) => some (n, bs r, true)
    | none => some (0, ⟨#[]⟩, false)
  else none

theorem bs_data (s : ByteArray) : bs s.data.toList = s := by
  apply ByteArray.ext
  show s.data.toList.toArray = s.data
  simp

theorem impl_Decimal.calls (a0 : ByteArray) (r1 : Int) (r2 : ByteArray) (r3 : Bool) (w : World) (h : impl_Decimal.f a0 = some (r1, r2, r3)) :
    Calls Tryd.prog 31 #[.string a0] w fun e w' => e = .returned (.tuple #[.int .i64 r1, .string r2, .bool r3]) ∧ Below w.heap.size w w' := by
  unfold impl_Decimal.f at h
  by_cases hs : a0.size ≤ 4611686018427387904
  · rw [if_pos hs] at h
    have hc := decimal_calls a0.data.toList w (by rw [Array.length_toList]; exact hs)
    rw [bs_data] at hc
    refine hc.mono ?_
    rintro e w' ⟨rfl, hb⟩
    refine ⟨?_, hb⟩
    unfold decRes
    cases hd : Dm.decimal a0.data.toList with
    | none => rw [hd] at h; simp only [Option.some.injEq, Prod.mk.injEq] at h; obtain ⟨rfl, rfl, rfl⟩ := h; rfl
    | some q => obtain ⟨n, r⟩ := q; rw [hd] at h; simp only [Option.some.injEq, Prod.mk.injEq] at h; obtain ⟨rfl, rfl, rfl⟩ := h; rfl
  · rw [if_neg hs] at h; cases h

end Go.Proofs.YtfblehpiecialaaDoor
