/- FnDecimalRead, of numbers and lists alone. -/
import Derived.Test.YtfblehpiecialaaDoorPFnDecimalReadx1
import Derived.Test.YtfblehpiecialaaDoorPl
import Derived.Test.YtfblehpiecialaaDoorDig10
namespace Go.Proofs.YtfblehpiecialaaDoor.Pure
set_option linter.unusedVariables false
set_option linter.unusedSimpArgs false
open Go.RowKit Go.Proofs.YtfblehpiecialaaDoor.PFnDecimalRead Go.Proofs.YtfblehpiecialaaDoorW.PrintWords Go.Proofs.YtfblehpiecialaaDoorW.PrintLast

theorem app (l m : List UInt8) : bs l ++ bs m = bs (l ++ m) := by
  apply ByteArray.ext
  simp [bs, ByteArray.data_append]
theorem idAt_f (a n : Int) (h0 : 0 < n) (h1 : n ≤ 4611686018427387904) : ∃ q : Nat, laws_idAt.f a n = some (q : Int) ∧ (q : Int) < n := by
  unfold laws_idAt.f
  rw [if_neg (by omega)]
  have m0 := Int.tmod_lt_of_pos a h0
  have m1 := Int.lt_tmod_of_pos a h0
  rw [wrap_id (x := Int.tmod a n + n) (by omega) (by omega)]
  have q0 : 0 ≤ Int.tmod (Int.tmod a n + n) n := Int.tmod_nonneg _ (by omega)
  have q1 : Int.tmod (Int.tmod a n + n) n < n := Int.tmod_lt_of_pos _ h0
  obtain ⟨q, hq⟩ := Int.eq_ofNat_of_zero_le q0
  exact ⟨q, by rw [hq], by omega⟩

theorem door_dec (u : Nat) (hu : u < 1000000000) (r : List UInt8) (hr : r.length ≤ 4000000000000000000) (h : ∀ c t, r = c :: t → Dm.isDig c = false) :
    laws_doorDecimal.f (bs (Lib.decDigits u) ++ bs r) (u : Int) (bs r) = some true := by
  have hl := Dm.digits_len10 u (by omega)
  unfold laws_doorDecimal.f impl_Decimal.f
  rw [app, if_pos (by rw [bs_size, List.length_append]; omega), bs_dl, Dm.decimal_digits u (by omega) r h]
  simp

theorem FnDecimalRead : laws_FnDecimalRead.Pure := by
  intro a0 l1 hw0 hm1 _ hw1
  refine ⟨1, ?_⟩
  unfold laws_FnDecimalRead.f
  by_cases hz : (l1.length : Int) > 2147483647
  · rw [if_pos hz]
  · rw [if_neg hz]
    obtain ⟨u, hu, hlt⟩ := idAt_f a0 1000000000 (by omega) (by omega)
    have hu9 : u < 1000000000 := by omega
    have hl := Dm.digits_len10 u (by omega)
    have en : spec_AnNumber.f (u : Int) = some (bs (Lib.decDigits u)) := by
      unfold spec_AnNumber.f strconv_Itoa.f
      rw [if_pos (by omega), Dm.itoa_nat]; rfl
    obtain ⟨t, ht, hlen⟩ := bs_of (strOfNums l1)
    have hln : t.length = l1.length := by rw [hlen, strOfNums_size]
    have htl : t = l1.map fun n => UInt8.ofNat n.toNat := by
      have := congrArg (fun s => s.data.toList) ht
      rw [strOfNums_data] at this
      simpa [bs] using this.symm
    rw [hu, ht]
    simp only [Option.bind_some]
    have j_no : (∀ c r, t = c :: r → Dm.isDig c = false) → laws_FnDecimalRead.j0 1 (u : Int) (bs t) false = some true := by
      intro h
      simp only [laws_FnDecimalRead.j0]
      rw [if_neg (by simp), en]
      simp only [Option.bind_some]
      rw [if_pos (by rw [bs_size, bs_size]; omega), door_dec u hu9 t (by omega) h]
      rfl
    have j_yes : laws_FnDecimalRead.j0 1 (u : Int) (bs t) true = some true := by
      simp only [laws_FnDecimalRead.j0]
      rw [if_pos trivial, if_pos (by rw [bs_size]; omega), en]
      simp only [Option.bind_some]
      rw [bs_one, app, if_pos (by rw [bs_size, bs_size]; simp; omega)]
      have hd : ∀ c r, ([120] ++ t : List UInt8) = c :: r → Dm.isDig c = false := by
        intro c r h; injection h with h _; subst h; rfl
      rw [door_dec u hu9 ([120] ++ t) (by simp; omega) hd]
      rfl
    cases l1 with
    | nil =>
      rw [if_neg (by simp)]
      exact j_no (by intro c r h; rw [htl] at h; simp at h)
    | cons x xs =>
      have hx : 0 ≤ x ∧ x ≤ 255 := by
        have := hw1 x (by simp)
        simp [Lit.wf, IntKind.min, IntKind.max, IntKind.bits, IntKind.signed] at this
        omega
      have hrd : rd (x :: xs) 0 = x := rfl
      rw [if_pos (by rw [List.length_cons]; omega), if_pos (by rw [List.length_cons]; omega), hrd]
      have hd : ∀ c r, t = c :: r → (c.toNat : Int) = x := by
        intro c r h
        rw [htl, List.map_cons] at h
        injection h with h _
        rw [← h]; simp; omega
      by_cases h48 : x ≥ 48
      · rw [if_pos h48]
        by_cases h57 : x ≤ 57
        · rw [decide_eq_true h57]; exact j_yes
        · rw [decide_eq_false h57]
          exact j_no (by intro c r h; have := hd c r h; unfold Dm.isDig; simp; omega)
      · rw [if_neg h48]
        exact j_no (by intro c r h; have := hd c r h; unfold Dm.isDig; simp; omega)
end Go.Proofs.YtfblehpiecialaaDoor.Pure
