/- FnConstantSigned, of letters alone. -/
import Derived.Test.YtpmlnhddkbgefaaDoorPFnConstantSignedx1
import Derived.Test.YtpmlnhddkbgefaaDoorPl
import Derived.Test.YtpmlnhddkbgefaaDoorHex
import Derived.Test.YtpmlnhddkbgefaaDoorWMore
namespace Go.Proofs.YtpmlnhddkbgefaaDoor.Pure
set_option linter.unusedVariables false
set_option linter.unusedSimpArgs false
open Go.RowKit Go.Proofs.YtpmlnhddkbgefaaDoor.PFnConstantSigned Go.Proofs.YtpmlnhddkbgefaaDoorW.PrintWords Go.Proofs.YtpmlnhddkbgefaaDoorW.PrintLast

theorem getD_mem' {l : List UInt8} {k : Nat} (h : k < l.length) : l.getD k 0 ∈ l := by
  rw [List.getD_eq_getElem?_getD, List.getElem?_eq_getElem h]; exact List.getElem_mem h
theorem app (l m : List UInt8) : bs l ++ bs m = bs (l ++ m) := by
  apply ByteArray.ext
  simp [bs, ByteArray.data_append]
theorem bind_of {α β : Type} {x : Option α} {a : α} {f : α → Option β} {r : Option β} (h : x = some a) (h2 : f a = r) : x.bind f = r := by subst h; exact h2
theorem u8_range {l : List Int} (h : ∀ x ∈ l, (Lit.int .u8 x).wf = true) (i : Nat) : 0 ≤ rd l (i : Int) ∧ rd l (i : Int) ≤ 255 := by
  unfold rd
  rw [Int.toNat_natCast, List.getD_eq_getElem?_getD]
  cases hi : l[i]? with
  | none => simp
  | some x =>
    have := h x (List.mem_of_getElem? hi)
    simp [Lit.wf, IntKind.min, IntKind.max, IntKind.bits, IntKind.signed] at this
    simp; omega
theorem strOf_list (a : List UInt8) : strOfNums (a.map (fun c => (c.toNat : Int))) = bs a := by
  unfold strOfNums bs
  congr 2
  rw [List.map_map, show ((fun n : Int => UInt8.ofNat n.toNat) ∘ fun c : UInt8 => (c.toNat : Int)) = id from by funext c; simp]
  simp
def L63 : List UInt8 := [97, 98, 99, 100, 101, 102, 103, 104, 105, 106, 107, 108, 109, 110, 111, 112, 113, 114, 115, 116, 117, 118, 119, 120, 121, 122, 65, 66, 67, 68, 69, 70, 71, 72, 73, 74, 75, 76, 77, 78, 79, 80, 81, 82, 83, 84, 85, 86, 87, 88, 89, 90, 48, 49, 50, 51, 52, 53, 54, 55, 56, 57, 95]
theorem l63_at (q : Int) (h0 : 0 ≤ q) (h1 : q < 63) : bt (⟨#[97, 98, 99, 100, 101, 102, 103, 104, 105, 106, 107, 108, 109, 110, 111, 112, 113, 114, 115, 116, 117, 118, 119, 120, 121, 122, 65, 66, 67, 68, 69, 70, 71, 72, 73, 74, 75, 76, 77, 78, 79, 80, 81, 82, 83, 84, 85, 86, 87, 88, 89, 90, 48, 49, 50, 51, 52, 53, 54, 55, 56, 57, 95]⟩ : ByteArray) q = ((L63.getD q.toNat 0).toNat : Int) := by
  have hq : q.toNat < L63.length := by show q.toNat < 63; omega
  have := bt_bs L63 q.toNat hq
  rw [Int.toNat_of_nonneg h0] at this
  refine (show bt (bs L63) q = _ from this).trans ?_
  rw [List.getD_eq_getElem?_getD, List.getElem?_eq_getElem hq]; rfl
theorem tmod_nat (m d : Nat) : Int.tmod (m : Int) (d : Int) = ((m % d : Nat) : Int) := rfl
theorem tdiv_nat (m d : Nat) : Int.tdiv (m : Int) (d : Int) = ((m / d : Nat) : Int) := rfl
theorem uwrap {x : Int} (h0 : 0 ≤ x) (h1 : x < 18446744073709551616) : IntKind.u64.wrap x = x := by rw [IntKind.wrap_u64]; omega
theorem str_one (c : UInt8) : strOfNums [(c.toNat : Int)] = bs [c] := by unfold strOfNums bs; simp
theorem hex_piece (d : Nat) (h : d < 16) : (⟨#[48, 49, 50, 51, 52, 53, 54, 55, 56, 57, 97, 98, 99, 100, 101, 102]⟩ : ByteArray).extract d (d + 1) = bs [Dm.hex1 d] := by
  have hp : ∀ d : Fin 16, (Dm.H16.drop d.val).take 1 = [Dm.H16.getD d.val 0] := by decide +kernel
  show (bs Dm.H16).extract _ _ = _
  apply ByteArray.ext
  have := hp ⟨d, h⟩
  simp only at this
  simp [bs, ByteArray.data_extract]
  rw [this]
  rfl
theorem hex_loop (m : Nat) : ∀ k, m < k → m < 18446744073709551616 → spec_rustHex.f k (m : Int) = some (bs (Dm.hexs m)) := by
  induction m using Nat.strongRecOn with
  | _ m ih =>
    intro k hk hm
    obtain ⟨k, rfl⟩ : ∃ j, k = j + 1 := ⟨k - 1, by omega⟩
    simp only [spec_rustHex.f]
    rw [Dm.hexs]
    by_cases h16 : m < 16
    · rw [if_pos (by omega), if_pos (by omega), uwrap (by omega) (by omega), if_pos (by omega), if_pos (by omega), dif_pos h16]
      rw [show ((m : Int)).toNat = m from Int.toNat_natCast _, show ((m : Int) + 1).toNat = m + 1 by omega, hex_piece m h16]
    · have e1 : Int.tmod (m : Int) 16 = ((m % 16 : Nat) : Int) := tmod_nat m 16
      have e2 : Int.tdiv (m : Int) 16 = ((m / 16 : Nat) : Int) := tdiv_nat m 16
      have hl := Dm.hexs_len16 (m / 16) (by omega)
      rw [if_neg (by omega), e1, e2, uwrap (x := ((m / 16 : Nat) : Int)) (by omega) (by omega), uwrap (x := ((m % 16 : Nat) : Int) + 1) (by omega) (by omega), dif_neg h16]
      refine bind_of (ih (m / 16) (by omega) k (by omega) (by omega)) ?_
      rw [if_pos (by omega), if_pos (by omega), if_pos (by omega)]
      rw [show (((m % 16 : Nat) : Int)).toNat = m % 16 from Int.toNat_natCast _, show (((m % 16 : Nat) : Int) + 1).toNat = m % 16 + 1 by omega, hex_piece (m % 16) (by omega)]
      rw [if_pos (by rw [bs_size, bs_size, List.length_singleton]; omega), app]
theorem hex_f (m k : Nat) (hk : m < k) (hm : m < 18446744073709551616) : spec_RustHex.f k (m : Int) = some (bs (Dm.hexs m)) := by
  unfold spec_RustHex.f
  exact bind_of (hex_loop m k hk hm) rfl
theorem dec_loop (m : Nat) : ∀ k, m < k → 1 < k → m < 18446744073709551616 → spec_RustDecimal.f k (m : Int) = some (bs (Lib.decDigits m)) := by
  have small : ∀ (d k : Nat), d < 10 → spec_RustDecimal.f (k + 1) (d : Int) = some (bs [UInt8.ofNat (48 + d)]) := by
    intro d k hd
    simp only [spec_RustDecimal.f]
    rw [if_pos (by omega), uwrap (by omega) (by omega)]
    have e : (48 + (d : Int)) % 256 = ((UInt8.ofNat (48 + d)).toNat : Int) := by simp
    rw [e, str_one]
  induction m using Nat.strongRecOn with
  | _ m ih =>
    intro k hk hk1 hm
    obtain ⟨k, rfl⟩ : ∃ j, k = j + 1 := ⟨k - 1, by omega⟩
    rw [Lib.decDigits]
    by_cases h10 : m < 10
    · rw [dif_pos h10]; exact small m k h10
    · rw [dif_neg h10]
      simp only [spec_RustDecimal.f]
      have e1 : Int.tmod (m : Int) 10 = ((m % 10 : Nat) : Int) := tmod_nat m 10
      have e2 : Int.tdiv (m : Int) 10 = ((m / 10 : Nat) : Int) := tdiv_nat m 10
      have hl := Dm.dec_len20 (m / 10) (by omega)
      rw [if_neg (by omega), e1, e2, uwrap (x := ((m / 10 : Nat) : Int)) (by omega) (by omega)]
      obtain ⟨k, rfl⟩ : ∃ j, k = j + 1 := ⟨k - 1, by omega⟩
      refine bind_of (ih (m / 10) (by omega) (k + 1) (by omega) (by omega) (by omega)) ?_
      refine bind_of (small (m % 10) k (by omega)) ?_
      rw [if_pos (by rw [bs_size, bs_size, List.length_singleton]; omega), app]
theorem const_f {l t r : List UInt8} (h1 : l.length ≤ 140737488355000) (h2 : l.head? ≠ some 66) (h : Dm.const l = .told t r) : impl_Constant.f (bs l) = some (bs t, bs r, true) := by
  unfold impl_Constant.f
  rw [if_pos ⟨by rw [bs_size]; exact h1, by rw [bs_dl]; exact h2⟩, bs_dl, h]
theorem constantIs_true {c r t : List UInt8} (h1 : (c ++ r).length ≤ 140737488355000) (h2 : (c ++ r).head? ≠ some 66) (h : Dm.const (c ++ r) = .told t r) : laws_constantIs.f (bs c) (bs r) (bs t) = some true := by
  unfold laws_constantIs.f
  rw [List.length_append] at h1
  rw [if_pos (by rw [bs_size, bs_size]; omega), app]
  refine bind_of (const_f (by rw [List.length_append]; exact h1) h2 h) ?_
  simp
/-- The index of a letter, counted round. -/
theorem six (a : Int) : ∃ q : Nat, Int.tmod (wrap64 ((Int.tmod a 6) + 6)) 6 = (q : Int) ∧ q < 6 := by
  have m0 := Int.tmod_lt_of_pos a (show (0 : Int) < 6 by omega)
  have m1 : -6 < Int.tmod a 6 := by
    have := Int.lt_tmod_of_pos a (show (0 : Int) < 6 by omega)
    omega
  rw [wrap_id (x := Int.tmod a 6 + 6) (by omega) (by omega)]
  have q0 : 0 ≤ Int.tmod (Int.tmod a 6 + 6) 6 := Int.tmod_nonneg _ (by omega)
  have q1 : Int.tmod (Int.tmod a 6 + 6) 6 < 6 := Int.tmod_lt_of_pos _ (by omega)
  obtain ⟨q, hq⟩ := Int.eq_ofNat_of_zero_le q0
  exact ⟨q, hq, by omega⟩
def S6 : List UInt8 := [97, 115, 108, 120, 110, 105]
theorem signed_f (a : Int) : ∃ c : UInt8, spec_RustSigned.f a = some (c.toNat : Int) ∧ c ∈ S6 := by
  obtain ⟨q, hq, h6⟩ := six a
  unfold spec_RustSigned.f
  rw [hq, if_pos (by omega), if_pos (by omega)]
  refine ⟨S6.getD q 0, ?_, getD_mem' (show q < S6.length from h6)⟩
  have := bt_bs S6 q h6
  rw [show (⟨#[97, 115, 108, 120, 110, 105]⟩ : ByteArray) = bs S6 from rfl, this, List.getD_eq_getElem?_getD, List.getElem?_eq_getElem (show q < S6.length from h6)]
  rfl
theorem s6_kind : ∀ c ∈ S6, Dm.ckind c = 1 ∧ c ≠ 66 := by decide

theorem right_f (c : UInt8) (h : c ∈ S6) (m : Int) : ∃ b, spec_RustRightConstant.f 20 (c.toNat : Int) (⟨#[]⟩ : ByteArray) m false ([] : List S31) = some b := by
  simp only [S6, List.mem_cons, List.not_mem_nil, or_false] at h
  rcases h with rfl | rfl | rfl | rfl | rfl | rfl <;> exact ⟨_, rfl⟩

theorem FnConstantSigned : laws_FnConstantSigned.Pure := by
  intro a0 a1 a2 hw0 hw1 hw2
  obtain ⟨r, rfl, hr⟩ := bs_of a2
  have l0 : 0 ≤ a1 ∧ a1 ≤ 18446744073709551615 := by
    simp [Lit.wf, IntKind.min, IntKind.max, IntKind.bits, IntKind.signed] at hw1
    omega
  obtain ⟨l1, l2⟩ := l0
  obtain ⟨m, rfl⟩ := Int.eq_ofNat_of_zero_le l1
  refine ⟨18446744073709551616 + 1, ?_⟩
  unfold laws_FnConstantSigned.f
  rw [bs_size] at *
  by_cases hz : (r.length : Int) > 2147483647
  · rw [if_pos hz]
  · rw [if_neg hz]
    obtain ⟨c, hc, hcm⟩ := signed_f a0
    obtain ⟨b, hb⟩ := right_f c hcm (m : Int)
    have hl := Dm.hexs_len16 m (by omega)
    have hd := Dm.dec_len20 m (by omega)
    obtain ⟨K, hK⟩ : ∃ K : Nat, 18446744073709551616 = K := ⟨_, rfl⟩
    rw [hK]
    have hk : m < K := by omega
    have hk1 : 1 < K := by omega
    refine bind_of hc ?_
    refine bind_of hb ?_
    have main : ∀ z : Bool, laws_FnConstantSigned.j0 (K + 1) (m : Int) (bs r) z 20 (c.toNat : Int) (⟨#[]⟩ : ByteArray) (m : Int) false = some true := by
      intro z
      simp only [laws_FnConstantSigned.j0]
      by_cases hzt : z = true
      · rw [if_pos hzt]
      · rw [if_neg hzt]
        refine bind_of rfl ?_
        rw [str_one]
        refine bind_of (hex_f m K hk (by omega)) ?_
        rw [if_pos (by rw [bs_size, bs_size]; simp; omega), app, if_pos (by rw [bs_size]; simp; omega)]
        refine bind_of (dec_loop m K hk hk1 (by omega)) ?_
        rw [show (⟨#[110]⟩ : ByteArray) = bs [110] from rfl, show (⟨#[95]⟩ : ByteArray) = bs [95] from rfl, show (⟨#[45]⟩ : ByteArray) = bs [45] from rfl, app]
        have k2 : Dm.const ((([c] ++ Dm.hexs m) ++ [95]) ++ r) = .told (Lib.decDigits m) r := by
          have := Dm.const_sgn c (s6_kind c hcm).1 m (by omega) r
          simpa using this
        refine bind_of (constantIs_true (by simp only [List.length_append, List.length_singleton]; omega) (by simpa using (s6_kind c hcm).2) k2) ?_
        rw [if_pos rfl, if_pos (by rw [bs_size, List.length_singleton]; omega)]
        refine bind_of (hex_f m K hk (by omega)) ?_
        rw [app, if_pos (by rw [bs_size, bs_size]; simp; omega), app, if_pos (by rw [bs_size]; simp; omega)]
        refine bind_of (dec_loop m K hk hk1 (by omega)) ?_
        rw [if_pos (by rw [bs_size]; omega), app, app]
        have k1 : Dm.const ((([c] ++ [110] ++ Dm.hexs m) ++ [95]) ++ r) = .told ([45] ++ Lib.decDigits m) r := by
          have := Dm.const_neg c (s6_kind c hcm).1 m (by omega) r
          simpa using this
        exact bind_of (constantIs_true (by simp only [List.length_append, List.length_singleton]; omega) (by simpa using (s6_kind c hcm).2) k1) rfl
    by_cases hbt : b = true
    · rw [if_pos hbt]; exact main _
    · rw [if_neg hbt]; exact main _
end Go.Proofs.YtpmlnhddkbgefaaDoor.Pure
