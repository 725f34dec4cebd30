/- Constants that are written in base 16 are read, in plain Lean. -/
import Derived.Test.YtpmlnhddkbgefaaDoorDmC
namespace Go.Proofs.YtpmlnhddkbgefaaDoor.Dm
set_option linter.unusedVariables false
set_option linter.unusedSimpArgs false
open Go.RowKit

def H16 : List UInt8 := [48, 49, 50, 51, 52, 53, 54, 55, 56, 57, 97, 98, 99, 100, 101, 102]
def hex1 (m : Nat) : UInt8 := H16.getD m 0
theorem hex1_dig {m : Nat} (h : m < 16) : hexd (hex1 m) = some (m : Int) := by
  have : ∀ k : Fin 16, hexd (H16.getD k.val 0) = some (k.val : Int) := by decide
  exact this ⟨m, h⟩
def hexs (m : Nat) : List UInt8 := if h : m < 16 then [hex1 m] else hexs (m / 16) ++ [hex1 (m % 16)]
termination_by m
decreasing_by omega
theorem hexs_ne (m : Nat) : hexs m ≠ [] := by
  unfold hexs
  split <;> simp
theorem hexs_len (k : Nat) : ∀ m, m < 16 ^ (k + 1) → (hexs m).length ≤ k + 1 := by
  induction k with
  | zero => intro m hm; rw [hexs, dif_pos (by simpa using hm)]; simp
  | succ k ih =>
    intro m hm
    rw [hexs]
    split
    · simp
    · rw [List.length_append, List.length_singleton]
      have := ih (m / 16) (by rw [Nat.div_lt_iff_lt_mul (by omega)]; rw [Nat.pow_succ] at hm; exact hm)
      omega
theorem hexl_one (v : Nat) (m : Nat) (k : Nat) (hm : m < 16) (r : List UInt8) (h1 : v * 16 + m < 18446744073709551616) (h : v = 0 → m = 0 → r.head? = some 95) : hexl (v : Int) k (hex1 m :: r) = hexl ((v * 16 + m : Nat) : Int) (k + 1) r := by
  rw [hexl, hex1_dig hm]
  simp only
  rw [if_neg (by rintro ⟨a, b, c⟩; exact c (h (by omega) (by omega)))]
  have e : IntKind.u64.wrap (IntKind.u64.wrap ((v : Int) * 16) + (m : Int)) = ((v * 16 + m : Nat) : Int) := by rw [IntKind.wrap_u64, IntKind.wrap_u64]; omega
  rw [e]
theorem hexl_hexs (m : Nat) : ∀ r, m < 18446744073709551616 → (m = 0 → r.head? = some 95) → hexl 0 0 (hexs m ++ r) = hexl (m : Int) (hexs m).length r := by
  induction m using Nat.strongRecOn with
  | _ m ih =>
    intro r hm h
    rw [hexs]
    by_cases h16 : m < 16
    · rw [dif_pos h16, List.singleton_append]
      have := hexl_one 0 m 0 h16 r (by omega) (fun _ e => h e)
      simpa using this
    · rw [dif_neg h16, List.append_assoc, ih (m / 16) (by omega) _ (by omega) (by intro e; omega), List.singleton_append, hexl_one _ _ _ (by omega) r (by omega) (by intro e; omega)]
      rw [List.length_append, List.length_singleton]
      congr 1
      omega
theorem hexl_read (m : Nat) (hm : m < 18446744073709551616) (r : List UInt8) : hexl 0 0 (hexs m ++ 95 :: r) = some ((m : Int), (hexs m).length, r) := by
  rw [hexl_hexs m _ hm (fun _ => rfl), hexl, show hexd 95 = none from rfl]
  simp
theorem hexs_len16 (m : Nat) (hm : m < 18446744073709551616) : (hexs m).length ≤ 16 := hexs_len 15 m (Nat.lt_of_lt_of_le hm (by decide))
theorem digits_int (kind m : Nat) (hk : kind = 1 ∨ kind = 2) (hm : m < 18446744073709551616) (r : List UInt8) : digits kind (hexs m ++ 95 :: r) = .told (Lib.decDigits m) r := by
  unfold digits
  rw [hexl_read m hm r]
  simp only
  rw [if_neg (by intro e; exact hexs_ne m (List.eq_nil_of_length_eq_zero e))]
  unfold ctext
  rw [if_pos hk, if_neg (by have := hexs_len16 m hm; omega), Int.toNat_natCast]
theorem hexs_head (m : Nat) : ∃ c t, hexs m = c :: t ∧ c ≠ 110 := by
  have hd : ∀ m, ∀ c ∈ hexs m, c ≠ 110 := by
    intro m
    induction m using Nat.strongRecOn with
    | _ m ih =>
      have one : ∀ j, j < 16 → hex1 j ≠ 110 := by
        intro j hj
        have : ∀ k : Fin 16, H16.getD k.val 0 ≠ 110 := by decide
        exact this ⟨j, hj⟩
      rw [hexs]
      split
      · intro c hc; rw [List.mem_singleton] at hc; subst hc; exact one _ (by assumption)
      · intro c hc
        rcases List.mem_append.1 hc with hc | hc
        · exact ih _ (by omega) c hc
        · rw [List.mem_singleton] at hc; subst hc; exact one _ (by omega)
  cases h : hexs m with
  | nil => exact absurd h (hexs_ne m)
  | cons c t => exact ⟨c, t, rfl, hd m c (by rw [h]; simp)⟩
theorem const_uns (c : UInt8) (hc : ckind c = 2) (m : Nat) (hm : m < 18446744073709551616) (r : List UInt8) : const (c :: (hexs m ++ 95 :: r)) = .told (Lib.decDigits m) r := by
  have n66 : c ≠ 66 := by rintro rfl; revert hc; decide
  have n112 : c ≠ 112 := by rintro rfl; revert hc; decide
  obtain ⟨d, t, e, hd⟩ := hexs_head m
  have hs : sgn 2 (hexs m ++ 95 :: r) = (false, hexs m ++ 95 :: r) := by rw [e, List.cons_append]; simp [sgn]
  simp only [const]
  rw [if_neg n66, if_neg n112, hc, if_neg (by omega), hs, digits_int 2 m (.inr rfl) hm r]
  simp
theorem const_sgn (c : UInt8) (hc : ckind c = 1) (m : Nat) (hm : m < 18446744073709551616) (r : List UInt8) : const (c :: (hexs m ++ 95 :: r)) = .told (Lib.decDigits m) r := by
  have n66 : c ≠ 66 := by rintro rfl; revert hc; decide
  have n112 : c ≠ 112 := by rintro rfl; revert hc; decide
  obtain ⟨d, t, e, hd⟩ := hexs_head m
  have hs : sgn 1 (hexs m ++ 95 :: r) = (false, hexs m ++ 95 :: r) := by rw [e, List.cons_append]; simp [sgn, hd]
  simp only [const]
  rw [if_neg n66, if_neg n112, hc, if_neg (by omega), hs, digits_int 1 m (.inl rfl) hm r]
  simp
theorem const_neg (c : UInt8) (hc : ckind c = 1) (m : Nat) (hm : m < 18446744073709551616) (r : List UInt8) : const (c :: 110 :: (hexs m ++ 95 :: r)) = .told (45 :: Lib.decDigits m) r := by
  have n66 : c ≠ 66 := by rintro rfl; revert hc; decide
  have n112 : c ≠ 112 := by rintro rfl; revert hc; decide
  have hs : sgn 1 (110 :: (hexs m ++ 95 :: r)) = (true, hexs m ++ 95 :: r) := by simp [sgn]
  simp only [const]
  rw [if_neg n66, if_neg n112, hc, if_neg (by omega), hs, digits_int 1 m (.inl rfl) hm r]
  simp
end Go.Proofs.YtpmlnhddkbgefaaDoor.Dm
