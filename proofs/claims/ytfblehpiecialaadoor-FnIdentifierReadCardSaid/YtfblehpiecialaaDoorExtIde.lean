/- The thin package's Identifier, in the form of a printed function. -/
import Derived.Test.YtfblehpiecialaaDoorZIde
import Derived.Test.YtfblehpiecialaaDoorExtDec
namespace Go.Proofs.YtfblehpiecialaaDoor
set_option linter.unusedVariables false
set_option linter.unusedSimpArgs false
open Go.RowKit

def impl_Identifier.f (a0 : ByteArray) : Option (Int × ByteArray × ByteArray × Bool) :=
  if a0.size ≤ 4611686018427387904 then
    match Dm.ident a0.data.toList with
    | some (d, t, r) => some (d, bs t, bs r, true)
    | none => some (0, ⟨#[]⟩, ⟨#[]⟩, false)
  else none

theorem impl_Identifier.calls (a0 : ByteArray) (r1 : Int) (r2 : ByteArray) (r3 : ByteArray) (r4 : Bool) (w : World) (h : impl_Identifier.f a0 = some (r1, r2, r3, r4)) :
    Calls Tryd.prog 25 #[.string a0] w fun e w' => e = .returned (.tuple #[.int .i64 r1, .string r2, .string r3, .bool r4]) ∧ Below w.heap.size w w' := by
  unfold impl_Identifier.f at h
  by_cases hs : a0.size ≤ 4611686018427387904
  · rw [if_pos hs] at h
    have hc := ide_calls a0.data.toList w (by rw [Array.length_toList]; exact hs)
    rw [bs_data] at hc
    refine hc.mono ?_
    rintro e w' ⟨rfl, hb⟩
    refine ⟨?_, hb⟩
    unfold ideRes
    cases hd : Dm.ident a0.data.toList with
    | none => rw [hd] at h; simp only [Option.some.injEq, Prod.mk.injEq] at h; obtain ⟨rfl, rfl, rfl, rfl⟩ := h; rfl
    | some q => obtain ⟨d, t, r⟩ := q; rw [hd] at h; simp only [Option.some.injEq, Prod.mk.injEq] at h; obtain ⟨rfl, rfl, rfl, rfl⟩ := h; rfl
  · rw [if_neg hs] at h; cases h
end Go.Proofs.YtfblehpiecialaaDoor
