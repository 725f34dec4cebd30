/- Decimal digits, in plain Lean: what strconv writes the reader reads. -/
import Derived.Test.YtpmlnhddkbgefaaDoorM1
import Derived.Lib.ItoaNum
namespace Go.Proofs.YtpmlnhddkbgefaaDoor.Dm
set_option linter.unusedVariables false
set_option linter.unusedSimpArgs false

theorem digits_ne (u : Nat) : Lib.decDigits u ≠ [] := by
  unfold Lib.decDigits
  split <;> simp

theorem dec_one (v : Int) (d : Nat) (hd : d < 10) (r : List UInt8) (h0 : 0 ≤ v) (h1 : v < 214748364 - d) : dec v (UInt8.ofNat (48 + d) :: r) = dec (v * 10 + d) r := by
  have e : ((UInt8.ofNat (48 + d)).toNat : Int) = 48 + d := by simp; omega
  rw [dec, if_pos (by unfold isDig; simp; omega), if_neg (by rw [e]; omega), e]
  congr 1; omega

theorem dec_digits (u : Nat) : ∀ r, u < 2147483550 → dec 0 (Lib.decDigits u ++ r) = dec (u : Int) r := by
  induction u using Nat.strongRecOn with
  | _ u ih =>
    intro r hu
    rw [Lib.decDigits]
    by_cases h : u < 10
    · rw [dif_pos h, List.singleton_append, dec_one 0 u h r (by omega) (by omega)]
      congr 1; omega
    · rw [dif_neg h, List.append_assoc, ih (u / 10) (by omega) _ (by omega), List.singleton_append, dec_one _ _ (by omega) r (by omega) (by omega)]
      congr 1; omega

theorem dec_stop (v : Int) (r : List UInt8) (h : ∀ c t, r = c :: t → isDig c = false) : dec v r = some (v, r) := by
  cases r with
  | nil => rfl
  | cons c t => rw [dec, if_neg (by rw [h c t rfl]; simp)]

theorem decimal_digits (u : Nat) (hu : u < 2147483550) (r : List UInt8) (h : ∀ c t, r = c :: t → isDig c = false) : decimal (Lib.decDigits u ++ r) = some ((u : Int), r) := by
  unfold decimal
  have hn := digits_ne u
  cases hd : Lib.decDigits u with
  | nil => exact absurd hd hn
  | cons c t =>
    have := dec_digits u r hu
    rw [hd, dec_stop _ _ h] at this
    simpa using this

theorem itoa_nat (u : Nat) : Lib.itoa (u : Int) = Lib.decDigits u := by
  unfold Lib.itoa
  rw [if_neg (by omega)]
  simp

theorem digits_len (u : Nat) : (Lib.decDigits u).length ≤ u + 1 := by
  induction u using Nat.strongRecOn with
  | _ u ih =>
    rw [Lib.decDigits]
    split
    · simp
    · rw [List.length_append, List.length_singleton]; have := ih (u / 10) (by omega); omega

theorem digits_len10 (u : Nat) (h : u < 10000000000) : (Lib.decDigits u).length ≤ 10 := by
  have step : ∀ k u, u < 10 ^ (k + 1) → (Lib.decDigits u).length ≤ k + 1 := by
    intro k
    induction k with
    | zero => intro u hu; rw [Lib.decDigits, dif_pos (by simpa using hu)]; simp
    | succ k ih =>
      intro u hu
      rw [Lib.decDigits]
      split
      · simp
      · rw [List.length_append, List.length_singleton]
        have := ih (u / 10) (by rw [Nat.div_lt_iff_lt_mul (by omega)]; rw [Nat.pow_succ] at hu; exact hu)
        omega
  exact step 9 u (by simpa using h)

/-- All are digits. -/
theorem digits_dig (u : Nat) : ∀ c ∈ Lib.decDigits u, isDig c = true := by
  induction u using Nat.strongRecOn with
  | _ u ih =>
    have one : ∀ d, d < 10 → isDig (UInt8.ofNat (48 + d)) = true := by
      intro d hd; unfold isDig; simp; omega
    rw [Lib.decDigits]
    split
    · intro c hc; rw [List.mem_singleton] at hc; subst hc; exact one u (by omega)
    · intro c hc
      rcases List.mem_append.1 hc with hc | hc
      · exact ih _ (by omega) c hc
      · rw [List.mem_singleton] at hc; subst hc; exact one _ (by omega)
end Go.Proofs.YtpmlnhddkbgefaaDoor.Dm
