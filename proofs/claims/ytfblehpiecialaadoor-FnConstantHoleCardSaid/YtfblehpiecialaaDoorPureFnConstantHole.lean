/- FnConstantHole, of letters alone. -/
import Derived.Test.YtfblehpiecialaaDoorPFnConstantHolex1
import Derived.Test.YtfblehpiecialaaDoorPl
namespace Go.Proofs.YtfblehpiecialaaDoor.Pure
set_option linter.unusedVariables false
set_option linter.unusedSimpArgs false
open Go.RowKit Go.Proofs.YtfblehpiecialaaDoor.PFnConstantHole Go.Proofs.YtfblehpiecialaaDoorW.PrintWords Go.Proofs.YtfblehpiecialaaDoorW.PrintLast

theorem bs_app2 (l m : List UInt8) : bs l ++ bs m = bs (l ++ m) := by
  apply ByteArray.ext
  simp [bs, ByteArray.data_append]
theorem const_f {l t r : List UInt8} (h1 : l.length ≤ 140737488355000) (h2 : l.head? ≠ some 66) (h : Dm.const l = .told t r) : impl_Constant.f (bs l) = some (bs t, bs r, true) := by
  unfold impl_Constant.f
  rw [if_pos ⟨by rw [bs_size]; exact h1, by rw [bs_dl]; exact h2⟩, bs_dl, h]
theorem bind_of {α β : Type} {x : Option α} {a : α} {f : α → Option β} {r : Option β} (h : x = some a) (h2 : f a = r) : x.bind f = r := by subst h; exact h2
theorem constantIs_true {c r t : List UInt8} (h1 : (c ++ r).length ≤ 140737488355000) (h2 : (c ++ r).head? ≠ some 66) (h : Dm.const (c ++ r) = .told t r) : laws_constantIs.f (bs c) (bs r) (bs t) = some true := by
  unfold laws_constantIs.f
  rw [List.length_append] at h1
  rw [if_pos (by rw [bs_size, bs_size]; omega), bs_app2]
  refine bind_of (const_f (by rw [List.length_append]; exact h1) h2 h) ?_
  simp

theorem FnConstantHole : laws_FnConstantHole.Pure := by
  intro a0 hw0
  obtain ⟨r, rfl, hr⟩ := bs_of a0
  unfold laws_FnConstantHole.f
  rw [bs_size] at *
  by_cases hz : (r.length : Int) > 2147483647
  · rw [if_pos hz]
  · rw [if_neg hz]
    exact bind_of (constantIs_true (c := [112]) (t := [95]) (by rw [List.length_append, List.length_singleton]; omega) (by simp) (by simp [Dm.const])) rfl
end Go.Proofs.YtfblehpiecialaaDoor.Pure
