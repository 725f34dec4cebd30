/- The thin package's Punycode, in the form of a printed function. -/
import Derived.Test.YtkhbmkccbhkolaaDoorPunC
import Derived.Test.YtkhbmkccbhkolaaDoorExtDec
namespace Go.Proofs.YtkhbmkccbhkolaaDoor
set_option linter.unusedVariables false
set_option linter.unusedSimpArgs false
open Go.RowKit

def impl_Punycode.f (a0 : ByteArray) : Option (ByteArray × Bool) :=
  if a0.size ≤ 2147483647 ∧ (∀ c ∈ a0.data.toList.take (Dm.lastU a0.data.toList).toNat, c.toNat < 128) then
    match Dm.expand a0.data.toList with
    | some out => some (runesBytes out, true)
    | none => some (⟨#[]⟩, false)
  else none

theorem impl_Punycode.calls (a0 : ByteArray) (r1 : ByteArray) (r2 : Bool) (w : World) (h : impl_Punycode.f a0 = some (r1, r2)) :
    Calls Tryd.prog 18 #[.string a0] w fun e w' => e = .returned (.tuple #[.string r1, .bool r2]) ∧ Below w.heap.size w w' := by
  unfold impl_Punycode.f at h
  by_cases hs : a0.size ≤ 2147483647 ∧ (∀ c ∈ a0.data.toList.take (Dm.lastU a0.data.toList).toNat, c.toNat < 128)
  · rw [if_pos hs] at h
    have hc := puny_calls a0.data.toList w (by rw [Array.length_toList]; exact hs.1) hs.2
    rw [bs_data] at hc
    refine hc.mono ?_
    rintro e w' ⟨rfl, hb⟩
    refine ⟨?_, hb⟩
    unfold punyRes
    cases hd : Dm.expand a0.data.toList with
    | none => rw [hd] at h; simp only [Option.some.injEq, Prod.mk.injEq] at h; obtain ⟨rfl, rfl⟩ := h; rfl
    | some out => rw [hd] at h; simp only [Option.some.injEq, Prod.mk.injEq] at h; obtain ⟨rfl, rfl⟩ := h; rfl
  · rw [if_neg hs] at h; cases h

end Go.Proofs.YtkhbmkccbhkolaaDoor
