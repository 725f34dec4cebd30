/- FnBasicRefused, of letters alone. -/
import Derived.Test.YtfblehpiecialaaDoorPFnBasicRefusedx1
import Derived.Test.YtfblehpiecialaaDoorPl
namespace Go.Proofs.YtfblehpiecialaaDoor.Pure
set_option linter.unusedVariables false
set_option linter.unusedSimpArgs false
open Go.RowKit Go.Proofs.YtfblehpiecialaaDoor.PFnBasicRefused Go.Proofs.YtfblehpiecialaaDoorW.PrintWords Go.Proofs.YtfblehpiecialaaDoorW.PrintLast

def R16 : List UInt8 := [48, 49, 50, 51, 52, 53, 54, 55, 56, 57, 95, 103, 107, 113, 114, 119]
theorem r16_none : ∀ k : Fin 16, Dm.btext (R16.getD k.val 0) = none := by decide
theorem str_one (c : UInt8) : strOfNums [(c.toNat : Int)] = bs [c] := by unfold strOfNums bs; simp
theorem bs_app2 (l m : List UInt8) : bs l ++ bs m = bs (l ++ m) := by
  apply ByteArray.ext
  simp [bs, ByteArray.data_append]

theorem FnBasicRefused : laws_FnBasicRefused.Pure := by
  intro a0 a1 hw0 hw1
  obtain ⟨r, rfl, hr⟩ := bs_of a1
  unfold laws_FnBasicRefused.f
  by_cases hz : ((bs r).size : Int) > 2147483647
  · rw [if_pos hz]
  · rw [if_neg hz]
    rw [bs_size] at hz hw1
    have m0 := Int.tmod_lt_of_pos a0 (show (0 : Int) < 16 by omega)
    have m1 : -16 < Int.tmod a0 16 := by
      have := Int.lt_tmod_of_pos a0 (show (0 : Int) < 16 by omega)
      omega
    rw [wrap_id (x := Int.tmod a0 16 + 16) (by omega) (by omega)]
    have q0 : 0 ≤ Int.tmod (Int.tmod a0 16 + 16) 16 := Int.tmod_nonneg _ (by omega)
    have q1 : Int.tmod (Int.tmod a0 16 + 16) 16 < 16 := Int.tmod_lt_of_pos _ (by omega)
    generalize Int.tmod (Int.tmod a0 16 + 16) 16 = q at q0 q1 ⊢
    rw [if_pos q0, if_pos q1]
    have hq : q.toNat < R16.length := by show q.toNat < 16; omega
    have hb : bt (⟨#[48, 49, 50, 51, 52, 53, 54, 55, 56, 57, 95, 103, 107, 113, 114, 119]⟩ : ByteArray) q = ((R16.getD q.toNat 0).toNat : Int) := by
      have := bt_bs R16 q.toNat hq
      rw [Int.toNat_of_nonneg q0] at this
      refine (show bt (bs R16) q = _ from this).trans ?_
      rw [List.getD_eq_getElem?_getD, List.getElem?_eq_getElem hq]; rfl
    have hn := r16_none ⟨q.toNat, hq⟩
    simp only at hn
    rw [hb]
    generalize R16.getD q.toNat 0 = c at hn
    simp only [Option.bind_some, str_one]
    rw [if_pos (by rw [bs_size, bs_size]; simp; omega), bs_app2]
    have e1 : impl_BasicType.f (bs ([c] ++ r)) = some (⟨#[]⟩, ⟨#[]⟩, false) := by
      unfold impl_BasicType.f
      rw [if_pos (by rw [bs_size]; simp; omega), bs_dl]
      have : Dm.basic ([c] ++ r) = none := by show Dm.basic (c :: r) = none; simp only [Dm.basic, hn]
      rw [this]
    have e2 : impl_BasicType.f (⟨#[]⟩ : ByteArray) = some (⟨#[]⟩, ⟨#[]⟩, false) := rfl
    have e3 : laws_basicIs.f 104 (bs r) (⟨#[117, 56]⟩ : ByteArray) = some true := by
      unfold laws_basicIs.f
      simp only [Option.bind_some]
      rw [show ([104] : List Int) = [((104 : UInt8).toNat : Int)] from rfl, str_one, if_pos (by rw [bs_size, bs_size]; simp; omega), bs_app2]
      unfold impl_BasicType.f
      rw [if_pos (by rw [bs_size]; simp; omega), bs_dl]
      have : Dm.basic ([104] ++ r) = some ([117, 56], r) := rfl
      rw [this]
      simp only [Option.bind_some, if_true, bs_tl]
      rw [show (⟨#[117, 56]⟩ : ByteArray) = bs [117, 56] from rfl, bs_tl, if_pos rfl]
      simp
    rw [e1, e2, e3]
    simp

end Go.Proofs.YtfblehpiecialaaDoor.Pure
