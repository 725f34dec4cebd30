/- spec.IdCharacters in the form of a printed function. -/
import Derived.Test.YtkhbmkccbhkolaaDoorIdC
namespace Go.Proofs.YtkhbmkccbhkolaaDoor
set_option linter.unusedVariables false
set_option linter.unusedSimpArgs false
open Go.RowKit Go.Proofs.YtkhbmkccbhkolaaDoorW.PrintWords Go.Proofs.YtkhbmkccbhkolaaDoorW.PrintLast Go.Proofs.YtkhbmkccbhkolaaDoorW.PrintMore
def spec_IdCharacters.f (a0 : ByteArray) : Option (List Int × Bool) :=
  if a0.size ≤ 1000000 then some (if Lib.validD a0.data.toList then Dm.rune a0.size a0.data.toList else [], Lib.validD a0.data.toList) else none
theorem spec_IdCharacters.calls {T_ : World → Prop} [HasUtf T_] (a0 : ByteArray) (r1 : List Int) (r2 : Bool) (w : World) (hT_ : T_ w) (h : spec_IdCharacters.f a0 = some (r1, r2)) :
    Calls Tryd.prog 7 #[.string a0] w fun e w' => ∃ v0_ : Value, e = .returned (.tuple #[v0_, .bool r2]) ∧ Kd.R (Kd.int .i64) 3 w' w.heap.size (fun _ => True) v0_ r1 ∧ Below w.heap.size w w' := by
  unfold spec_IdCharacters.f at h
  by_cases hs : a0.size ≤ 1000000
  · rw [if_pos hs] at h
    simp only [Option.some.injEq, Prod.mk.injEq] at h
    obtain ⟨rfl, rfl⟩ := h
    exact characters_calls a0 hs w (HasUtf.utf hT_)
  · rw [if_neg hs] at h; cases h
end Go.Proofs.YtkhbmkccbhkolaaDoor
