/- FnBase62Other, of numbers and lists alone: a number in base 62 with a byte that is no digit and no underscore is refused. -/
import Derived.Test.YtfblehpiecialaaPFnBase62Otherx1
import Derived.Test.YtfblehpiecialaaDig62
namespace Go.Proofs.Ytfblehpiecialaa.Pure
set_option linter.unusedVariables false
set_option linter.unusedSimpArgs false
open Go.RowKit Go.Proofs.Ytfblehpiecialaa.PFnBase62Other Go.Proofs.YtfblehpiecialaaW.PrintWords Go.Proofs.YtfblehpiecialaaW.PrintLast

theorem door62 (l : List UInt8) (x : Int) (t : List UInt8) (hl : l.length ≤ 4611686018427387904) (h : Dm.base62 l = some (x, t)) : laws_doorNumber.f (bs l) x (bs t) = some true := by
  unfold laws_doorNumber.f impl_Base62.f
  rw [if_pos (by rw [bs_size]; omega), bs_dl, h]
  simp

theorem door_z : laws_doorNumber.f (⟨#[90, 95]⟩ : ByteArray) 62 (⟨#[]⟩ : ByteArray) = some true := door62 [90, 95] 62 [] (by simp) (by
  rw [Dm.base62, if_neg (by decide), b62_step (d := 61) (by decide) (by decide), b62_end, wrap_id (x := 0 * 62) (by omega) (by omega), wrap_id (x := 0 * 62 + 61) (by omega) (by omega), wrap_id (by omega) (by omega)]; rfl)
theorem door_0 : laws_doorNumber.f (⟨#[48, 95]⟩ : ByteArray) 1 (⟨#[]⟩ : ByteArray) = some true := door62 [48, 95] 1 [] (by simp) (by
  rw [Dm.base62, if_neg (by decide), b62_step (d := 0) (by decide) (by decide), b62_end, wrap_id (x := 0 * 62) (by omega) (by omega), wrap_id (x := 0 * 62 + 0) (by omega) (by omega), wrap_id (by omega) (by omega)]; rfl)

theorem one_str (x : Int) (h0 : 0 ≤ x) (h1 : x ≤ 255) : ∃ c : UInt8, strOfNums [x] = bs [c] ∧ (c.toNat : Int) = x := by
  refine ⟨UInt8.ofNat x.toNat, rfl, ?_⟩
  rw [UInt8.toNat_ofNat']; omega

/-- What IdIsPlain says of one byte. -/
theorem plain_one (c : UInt8) : ∃ t, spec_IdIsPlain.f 3 (bs [c]) = some t ∧ (t = false → Dm.dig62 c = none) := by
  have hs : ((bs [c]).size : Int) = 1 := by rw [bs_size]; rfl
  have ht : spec_IdIsPlain.l0 2 (bs [c]) 1 (wrap64 (0 + 1)) = some true := by
    rw [wrap_id (by omega) (by omega), spec_IdIsPlain.l0, if_neg (by omega)]
  unfold spec_IdIsPlain.f
  rw [spec_IdIsPlain.l0, hs, if_pos (by omega), if_pos (by omega), if_pos (by omega), bt_zero]
  have hc := UInt8.toNat_lt c
  unfold spec_idIsDigit.f spec_idIsLetter.f Dm.dig62
  by_cases a1 : (c.toNat : Int) ≥ 48
  · rw [if_pos a1]
    by_cases a2 : (c.toNat : Int) ≤ 57
    · rw [decide_eq_true a2, Option.bind_some, if_pos rfl, ht]; exact ⟨_, rfl, by simp⟩
    · rw [decide_eq_false a2, Option.bind_some, if_neg (by simp)]
      by_cases a3 : (c.toNat : Int) = 95
      · rw [if_pos a3, ht]; exact ⟨_, rfl, by simp⟩
      · rw [if_neg a3]
        by_cases a4 : (c.toNat : Int) ≥ 65
        · rw [if_pos a4]
          by_cases a5 : (c.toNat : Int) ≤ 90
          · rw [if_pos a5, Option.bind_some, if_pos rfl, ht]; exact ⟨_, rfl, by simp⟩
          · rw [if_neg a5]
            by_cases a6 : (c.toNat : Int) ≥ 97
            · rw [if_pos a6]
              by_cases a7 : (c.toNat : Int) ≤ 122
              · rw [decide_eq_true a7, Option.bind_some, if_pos rfl, ht]; exact ⟨_, rfl, by simp⟩
              · rw [decide_eq_false a7, Option.bind_some, if_neg (by simp)]
                exact ⟨_, rfl, fun _ => by rw [if_neg (by omega), if_neg (by omega), if_neg (by omega)]⟩
            · rw [if_neg a6, Option.bind_some, if_neg (by simp)]
              exact ⟨_, rfl, fun _ => by rw [if_neg (by omega), if_neg (by omega), if_neg (by omega)]⟩
        · rw [if_neg a4, if_neg (by omega), Option.bind_some, if_neg (by simp)]
          exact ⟨_, rfl, fun _ => by rw [if_neg (by omega), if_neg (by omega), if_neg (by omega)]⟩
  · rw [if_neg a1, Option.bind_some, if_neg (by simp), if_neg (by omega), if_neg (by omega), if_neg (by omega), Option.bind_some, if_neg (by simp)]
    exact ⟨_, rfl, fun _ => by rw [if_neg (by omega), if_neg (by omega), if_neg (by omega)]⟩

theorem other_end (tail : List Int) (ht : tail.length ≤ 2147483647) (x : Int) (hx0 : 0 ≤ x) (hx1 : x ≤ 255) (hn : ∀ c : UInt8, (c.toNat : Int) = x → c ≠ 95 ∧ Dm.dig62 c = none) (p : List UInt8) (n : Int) (hp : Num62 p n) (hl : p.length ≤ 2147483647) (xs : List Int) (k : Nat) :
    laws_FnBase62Other.l0 (k + 1) x tail (bs p) xs (xs.length : Int) (xs.length : Int) = some true := by
  obtain ⟨t, hs, hz⟩ := bs_of (strOfNums tail)
  have hz2 : t.length = tail.length := by rw [hz, strOfNums_size]
  obtain ⟨c, hc, hcx⟩ := one_str x hx0 hx1
  obtain ⟨h95, hd⟩ := hn c hcx
  simp only [laws_FnBase62Other.l0]
  rw [if_neg (by omega), Option.bind_some, hc, hs, if_pos (by rw [bs_size, bs_size]; simp; omega), bs_app, if_pos (by rw [bs_size, bs_size]; simp; omega), bs_app, List.append_assoc, List.singleton_append]
  have hr : impl_Base62.f (bs (p ++ c :: t)) = some (0, ⟨#[]⟩, false) := by
    unfold impl_Base62.f
    rw [if_pos (by rw [bs_size]; simp; omega), bs_dl, num62_other hp h95 hd]
  rw [hr, Option.bind_some, if_neg (by simp), door_0]; rfl

theorem other_loop (tail : List Int) (ht : tail.length ≤ 2147483647) (x : Int) (hx0 : 0 ≤ x) (hx1 : x ≤ 255) (hn : ∀ c : UInt8, (c.toNat : Int) = x → c ≠ 95 ∧ Dm.dig62 c = none) (xs : List Int) (hx : ∀ x ∈ xs, (Lit.int .u8 x).wf = true) (hm : xs.length ≤ 2147483647) :
    ∀ (d i : Nat) (p : List UInt8) (n : Int) (k : Nat), i + d = xs.length → d < k → Num62 p n → p.length ≤ i → laws_FnBase62Other.l0 k x tail (bs p) xs (xs.length : Int) (i : Int) = some true := by
  intro d
  induction d with
  | zero =>
    intro i p n k hi hk hp hl
    obtain ⟨k, rfl⟩ : ∃ m, k = m + 1 := ⟨k - 1, by omega⟩
    obtain rfl : i = xs.length := by omega
    exact other_end tail ht x hx0 hx1 hn p n hp (by omega) xs k
  | succ d ih =>
    intro i p n k hi hk hp hl
    obtain ⟨k, rfl⟩ : ∃ m, k = m + 1 := ⟨k - 1, by omega⟩
    simp only [laws_FnBase62Other.l0]
    rw [if_pos (by omega), if_pos (by omega), if_pos (by omega), wrap_id (x := (i : Int) + 1) (by omega) (by omega)]
    by_cases h10 : (i : Int) < 8
    · rw [if_pos h10]
      obtain ⟨r0, r1⟩ := rd_range hx i
      have hm0 : 0 ≤ Int.tmod (rd xs (i : Int)) 62 := Int.tmod_nonneg _ r0
      have hm1 : Int.tmod (rd xs (i : Int)) 62 < 62 := Int.tmod_lt_of_pos _ (by omega)
      generalize Int.tmod (rd xs (i : Int)) 62 = q at hm0 hm1 ⊢
      obtain ⟨c, hc, hd, h95⟩ := d62_piece q hm0 hm1
      have hcs : (⟨#[48, 49, 50, 51, 52, 53, 54, 55, 56, 57, 97, 98, 99, 100, 101, 102, 103, 104, 105, 106, 107, 108, 109, 110, 111, 112, 113, 114, 115, 116, 117, 118, 119, 120, 121, 122, 65, 66, 67, 68, 69, 70, 71, 72, 73, 74, 75, 76, 77, 78, 79, 80, 81, 82, 83, 84, 85, 86, 87, 88, 89, 90]⟩ : ByteArray).extract q.toNat ((q + 1) % 256).toNat = bs [c] := hc
      rw [if_pos hm0, if_pos (by omega), if_pos (by omega), hcs, if_pos (by rw [bs_size, bs_size]; simp; omega), bs_app]
      exact ih (i + 1) (p ++ [c]) _ k (by omega) (by omega) (num62_snoc hp h95 hd) (by simp; omega)
    · rw [if_neg h10]
      exact ih (i + 1) p n k (by omega) (by omega) hp (by omega)

theorem FnBase62Other : laws_FnBase62Other.Pure := by
  intro l0 x l2 hm0 _ hw0 hwx hm2 _ hw2
  obtain ⟨hx0, hx1⟩ := bounds_u8 hwx
  by_cases h0 : (l0.length : Int) > 2147483647
  · exact ⟨1, by unfold laws_FnBase62Other.f; rw [if_pos h0]; rfl⟩
  · by_cases h2 : (l2.length : Int) > 2147483647
    · exact ⟨1, by unfold laws_FnBase62Other.f; rw [if_neg h0, decide_eq_true h2]; rfl⟩
    · refine ⟨l0.length + 4 + 1 + 1, ?_⟩
      unfold laws_FnBase62Other.f
      rw [if_neg h0, decide_eq_false h2]
      simp only [laws_FnBase62Other.j0]
      rw [if_neg (by simp)]
      by_cases h95 : x = 95
      · rw [if_pos h95]
        simp only [laws_FnBase62Other.j1]
        rw [if_pos trivial, door_z]; rfl
      · rw [if_neg h95]
        obtain ⟨c, hc, hcx⟩ := one_str x hx0 hx1
        obtain ⟨t, ht, htn⟩ := plain_one c
        have hup : spec_IdIsPlain.f (l0.length + 4 + 1) (strOfNums [x]) = some t := by
          rw [hc]
          have : ∀ m, spec_IdIsPlain.f (3 + m) (bs [c]) = some t := by
            intro m
            induction m with
            | zero => exact ht
            | succ m ih => exact spec_IdIsPlain.mono _ _ _ ih
          have := this (l0.length + 2)
          rwa [show 3 + (l0.length + 2) = l0.length + 4 + 1 from by omega] at this
        rw [hup, Option.bind_some]
        simp only [laws_FnBase62Other.j1]
        cases t with
        | true => rw [if_pos rfl, door_z]; rfl
        | false =>
          rw [if_neg (by simp)]
          refine other_loop l2 (by omega) x hx0 hx1 (fun e he => ?_) l0 hw0 (by omega) l0.length 0 [] 0 (l0.length + 4) (by omega) (by omega) num62_nil (by simp)
          have hec : e = c := by
            apply UInt8.toNat_inj.1; omega
          subst hec
          refine ⟨fun h => h95 ?_, htn rfl⟩
          rw [← hcx, h]; rfl

end Go.Proofs.Ytfblehpiecialaa.Pure
