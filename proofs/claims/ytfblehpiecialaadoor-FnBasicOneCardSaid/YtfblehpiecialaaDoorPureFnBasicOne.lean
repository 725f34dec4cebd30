/- FnBasicOne, of letters alone. -/
import Derived.Test.YtfblehpiecialaaDoorPFnBasicOnex1
import Derived.Test.YtfblehpiecialaaDoorPl
namespace Go.Proofs.YtfblehpiecialaaDoor.Pure
set_option linter.unusedVariables false
set_option linter.unusedSimpArgs false
open Go.RowKit Go.Proofs.YtfblehpiecialaaDoor.PFnBasicOne Go.Proofs.YtfblehpiecialaaDoorW.PrintWords Go.Proofs.YtfblehpiecialaaDoorW.PrintLast

set_option maxRecDepth 100000 in
theorem text_fin : ∀ c : Fin 256, spec_RustBasicText.f (c.val : Int) = some (bs ((Dm.btext (UInt8.ofNat c.val)).getD [])) := by decide +kernel
theorem text_f (c : UInt8) : spec_RustBasicText.f (c.toNat : Int) = some (bs ((Dm.btext c).getD [])) := by
  have := text_fin ⟨c.toNat, c.toNat_lt⟩
  simpa using this
theorem btext_ne {c : UInt8} {t : List UInt8} (h : Dm.btext c = some t) : t ≠ [] := by
  have hh : ∀ x ∈ Dm.basicTab, x.2 ≠ [] := by decide
  unfold Dm.btext at h
  rw [Option.map_eq_some_iff] at h
  obtain ⟨x, hx, rfl⟩ := h
  exact hh x (List.mem_of_find?_eq_some hx)
theorem u8_of {a : Int} (h : (Lit.int .u8 a).wf = true) : ∃ c : UInt8, a = c.toNat := by
  have h2 : 0 ≤ a ∧ a ≤ 255 := by
    have := h
    simp [Lit.wf, IntKind.min, IntKind.max, IntKind.bits, IntKind.signed] at this
    omega
  exact ⟨UInt8.ofNat a.toNat, by simp; omega⟩

theorem FnBasicOne : laws_FnBasicOne.Pure := by
  intro a0 a1 hw0 hw1
  obtain ⟨c, rfl⟩ := u8_of hw0
  obtain ⟨d, rfl⟩ := u8_of hw1
  refine ⟨1, ?_⟩
  unfold laws_FnBasicOne.f
  simp only [text_f, Option.bind_some, bs_tl, laws_FnBasicOne.j0]
  have hs : strOfNums [(c.toNat : Int), (d.toNat : Int)] = bs [c, d] := by
    unfold strOfNums bs; simp
  cases hc : Dm.btext c with
  | none => simp
  | some t =>
    have hn := btext_ne hc
    rw [Option.getD_some, if_neg hn]
    cases hd : Dm.btext d with
    | none => simp
    | some u =>
      have hm := btext_ne hd
      have e : (u == []) = false := by simpa using hm
      rw [Option.getD_some, e, if_neg (by simp), hs]
      unfold impl_BasicType.f
      rw [if_pos (by rw [bs_size]; simp), bs_dl]
      have b1 : Dm.basic [c, d] = some (t, [d]) := by simp only [Dm.basic, hc]
      have b2 : Dm.basic [d] = some (u, []) := by simp only [Dm.basic, hd]
      rw [b1]
      simp only [Option.bind_some]
      rw [if_pos (by rw [bs_size]; simp), bs_dl, b2]
      simp only [Option.bind_some, bs_tl, if_true]
      rfl

end Go.Proofs.YtfblehpiecialaaDoor.Pure
