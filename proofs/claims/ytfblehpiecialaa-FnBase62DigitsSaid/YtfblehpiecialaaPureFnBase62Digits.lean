/- FnBase62Digits, of numbers and lists alone: what digits in base 62 tell is one more than their number to the base 62. -/
import Derived.Test.YtfblehpiecialaaPFnBase62Digitsx1
import Derived.Test.YtfblehpiecialaaDig62
namespace Go.Proofs.Ytfblehpiecialaa.Pure
set_option linter.unusedVariables false
set_option linter.unusedSimpArgs false
open Go.RowKit Go.Proofs.Ytfblehpiecialaa.PFnBase62Digits Go.Proofs.YtfblehpiecialaaW.PrintWords Go.Proofs.YtfblehpiecialaaW.PrintLast

theorem door62 (l : List UInt8) (x : Int) (t : List UInt8) (hl : l.length ≤ 4611686018427387904) (h : Dm.base62 l = some (x, t)) : laws_doorNumber.f (bs l) x (bs t) = some true := by
  unfold laws_doorNumber.f impl_Base62.f
  rw [if_pos (by rw [bs_size]; omega), bs_dl, h]
  simp

theorem digits_end (tail : List Int) (ht : tail.length ≤ 2147483647) (p : List UInt8) (n : Int) (hp : Num62 p n) (hl : p.length ≤ 2147483647) (xs : List Int) (k : Nat) :
    laws_FnBase62Digits.l0 (k + 1) tail (bs p) n xs (xs.length : Int) (xs.length : Int) = some true := by
  obtain ⟨t, hs, hz⟩ := bs_of (strOfNums tail)
  have hz2 : t.length = tail.length := by rw [hz, strOfNums_size]
  simp only [laws_FnBase62Digits.l0]
  rw [if_neg (by omega), bs_tl, hs, bs_one]
  by_cases he : p = []
  · rw [if_pos he, if_pos (by rw [bs_size]; omega), bs_app, door62 _ 0 t (by simp; omega) rfl]; rfl
  · rw [if_neg he, if_pos (by rw [bs_size]; omega), bs_app, if_pos (by rw [bs_size, bs_size]; simp; omega), bs_app, List.append_assoc, List.singleton_append,
      door62 _ _ t (by simp; omega) (num62_read hp he)]; rfl

theorem digits_loop (tail : List Int) (ht : tail.length ≤ 2147483647) (xs : List Int) (hx : ∀ x ∈ xs, (Lit.int .u8 x).wf = true) (hm : xs.length ≤ 2147483647) :
    ∀ (d i : Nat) (p : List UInt8) (n : Int) (k : Nat), i + d = xs.length → d < k → Num62 p n → p.length ≤ i → laws_FnBase62Digits.l0 k tail (bs p) n xs (xs.length : Int) (i : Int) = some true := by
  intro d
  induction d with
  | zero =>
    intro i p n k hi hk hp hl
    obtain ⟨k, rfl⟩ : ∃ m, k = m + 1 := ⟨k - 1, by omega⟩
    obtain rfl : i = xs.length := by omega
    exact digits_end tail ht p n hp (by omega) xs k
  | succ d ih =>
    intro i p n k hi hk hp hl
    obtain ⟨k, rfl⟩ : ∃ m, k = m + 1 := ⟨k - 1, by omega⟩
    simp only [laws_FnBase62Digits.l0]
    rw [if_pos (by omega), if_pos (by omega), if_pos (by omega), wrap_id (x := (i : Int) + 1) (by omega) (by omega)]
    by_cases h10 : (i : Int) < 10
    · rw [if_pos h10]
      obtain ⟨r0, r1⟩ := rd_range hx i
      have hm0 : 0 ≤ Int.tmod (rd xs (i : Int)) 62 := Int.tmod_nonneg _ r0
      have hm1 : Int.tmod (rd xs (i : Int)) 62 < 62 := Int.tmod_lt_of_pos _ (by omega)
      generalize Int.tmod (rd xs (i : Int)) 62 = q at hm0 hm1 ⊢
      obtain ⟨c, hc, hd, h95⟩ := d62_piece q hm0 hm1
      have hcs : (⟨#[48, 49, 50, 51, 52, 53, 54, 55, 56, 57, 97, 98, 99, 100, 101, 102, 103, 104, 105, 106, 107, 108, 109, 110, 111, 112, 113, 114, 115, 116, 117, 118, 119, 120, 121, 122, 65, 66, 67, 68, 69, 70, 71, 72, 73, 74, 75, 76, 77, 78, 79, 80, 81, 82, 83, 84, 85, 86, 87, 88, 89, 90]⟩ : ByteArray).extract q.toNat ((q + 1) % 256).toNat = bs [c] := hc
      rw [if_pos hm0, if_pos (by omega), if_pos (by omega), hcs, if_pos (by rw [bs_size, bs_size]; simp; omega), bs_app, wrap_id (x := q) (by omega) (by omega), show 62 * n = n * 62 from by omega]
      exact ih (i + 1) (p ++ [c]) _ k (by omega) (by omega) (num62_snoc hp h95 hd) (by simp; omega)
    · rw [if_neg h10]
      exact ih (i + 1) p n k (by omega) (by omega) hp (by omega)

theorem FnBase62Digits : laws_FnBase62Digits.Pure := by
  intro l0 l1 hm0 _ hw0 hm1 _ hw1
  by_cases h0 : (l0.length : Int) > 2147483647
  · exact ⟨1, by unfold laws_FnBase62Digits.f; rw [if_pos h0]; rfl⟩
  · by_cases h1 : (l1.length : Int) > 2147483647
    · exact ⟨1, by unfold laws_FnBase62Digits.f; rw [if_neg h0, decide_eq_true h1]; rfl⟩
    · refine ⟨l0.length + 1 + 1, ?_⟩
      unfold laws_FnBase62Digits.f
      rw [if_neg h0, decide_eq_false h1]
      simp only [laws_FnBase62Digits.j0]
      rw [if_neg (by simp)]
      exact digits_loop l1 (by omega) l0 hw0 (by omega) l0.length 0 [] 0 (l0.length + 1) (by omega) (by omega) num62_nil (by simp)

end Go.Proofs.Ytfblehpiecialaa.Pure
