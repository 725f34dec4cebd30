/- The thin package's BasicType, in the form of a printed function. -/
import Derived.Test.YtfblehpiecialaaDoorBas
import Derived.Test.YtfblehpiecialaaDoorStays
namespace Go.Proofs.YtfblehpiecialaaDoor
set_option linter.unusedVariables false
set_option linter.unusedSimpArgs false
open Go.RowKit

instance : Stays MapIs := ⟨fun h hb => h.below hb⟩

def impl_BasicType.f (a0 : ByteArray) : Option (ByteArray × ByteArray × Bool) :=
  if a0.size ≤ 4611686018427387904 then
    match Dm.basic a0.data.toList with
    | some (t, r) => some (bs t, bs r, true)
    | none => some (⟨#[]⟩, ⟨#[]⟩, false)
  else none

theorem bs_data (s : ByteArray) : bs s.data.toList = s := by
  apply ByteArray.ext
  show s.data.toList.toArray = s.data
  simp

theorem impl_BasicType.calls (a0 : ByteArray) (r1 : ByteArray) (r2 : ByteArray) (r3 : Bool) (w : World) (hT_ : MapIs w) (h : impl_BasicType.f a0 = some (r1, r2, r3)) :
    Calls Tryd.prog 12 #[.string a0] w fun e w' => e = .returned (.tuple #[.string r1, .string r2, .bool r3]) ∧ Below w.heap.size w w' := by
  unfold impl_BasicType.f at h
  by_cases hs : a0.size ≤ 4611686018427387904
  · rw [if_pos hs] at h
    have hc := basic_calls a0.data.toList w (by rw [Array.length_toList]; exact hs) hT_
    rw [bs_data] at hc
    refine hc.mono ?_
    rintro e w' ⟨rfl, hb⟩
    refine ⟨?_, hb⟩
    unfold basRes
    cases hd : Dm.basic a0.data.toList with
    | none => rw [hd] at h; simp only [Option.some.injEq, Prod.mk.injEq] at h; obtain ⟨rfl, rfl, rfl⟩ := h; rfl
    | some q => obtain ⟨n, r⟩ := q; rw [hd] at h; simp only [Option.some.injEq, Prod.mk.injEq] at h; obtain ⟨rfl, rfl, rfl⟩ := h; rfl
  · rw [if_neg hs] at h; cases h
end Go.Proofs.YtfblehpiecialaaDoor
