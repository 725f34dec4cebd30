/- FnConstantBool, of letters alone. -/
import Derived.Test.YtpmlnhddkbgefaaDoorPFnConstantBoolx1
import Derived.Test.YtpmlnhddkbgefaaDoorPl
import Derived.Test.YtpmlnhddkbgefaaDoorHex
import Derived.Test.YtpmlnhddkbgefaaDoorWMore
namespace Go.Proofs.YtpmlnhddkbgefaaDoor.Pure
set_option linter.unusedVariables false
set_option linter.unusedSimpArgs false
open Go.RowKit Go.Proofs.YtpmlnhddkbgefaaDoor.PFnConstantBool Go.Proofs.YtpmlnhddkbgefaaDoorW.PrintWords Go.Proofs.YtpmlnhddkbgefaaDoorW.PrintLast

theorem getD_mem' {l : List UInt8} {k : Nat} (h : k < l.length) : l.getD k 0 ∈ l := by
  rw [List.getD_eq_getElem?_getD, List.getElem?_eq_getElem h]; exact List.getElem_mem h
theorem app (l m : List UInt8) : bs l ++ bs m = bs (l ++ m) := by
  apply ByteArray.ext
  simp [bs, ByteArray.data_append]
theorem bind_of {α β : Type} {x : Option α} {a : α} {f : α → Option β} {r : Option β} (h : x = some a) (h2 : f a = r) : x.bind f = r := by subst h; exact h2
theorem u8_range {l : List Int} (h : ∀ x ∈ l, (Lit.int .u8 x).wf = true) (i : Nat) : 0 ≤ rd l (i : Int) ∧ rd l (i : Int) ≤ 255 := by
  unfold rd
  rw [Int.toNat_natCast, List.getD_eq_getElem?_getD]
  cases hi : l[i]? with
  | none => simp
  | some x =>
    have := h x (List.mem_of_getElem? hi)
    simp [Lit.wf, IntKind.min, IntKind.max, IntKind.bits, IntKind.signed] at this
    simp; omega
theorem strOf_list (a : List UInt8) : strOfNums (a.map (fun c => (c.toNat : Int))) = bs a := by
  unfold strOfNums bs
  congr 2
  rw [List.map_map, show ((fun n : Int => UInt8.ofNat n.toNat) ∘ fun c : UInt8 => (c.toNat : Int)) = id from by funext c; simp]
  simp
def L63 : List UInt8 := [97, 98, 99, 100, 101, 102, 103, 104, 105, 106, 107, 108, 109, 110, 111, 112, 113, 114, 115, 116, 117, 118, 119, 120, 121, 122, 65, 66, 67, 68, 69, 70, 71, 72, 73, 74, 75, 76, 77, 78, 79, 80, 81, 82, 83, 84, 85, 86, 87, 88, 89, 90, 48, 49, 50, 51, 52, 53, 54, 55, 56, 57, 95]
theorem l63_at (q : Int) (h0 : 0 ≤ q) (h1 : q < 63) : bt (⟨#[97, 98, 99, 100, 101, 102, 103, 104, 105, 106, 107, 108, 109, 110, 111, 112, 113, 114, 115, 116, 117, 118, 119, 120, 121, 122, 65, 66, 67, 68, 69, 70, 71, 72, 73, 74, 75, 76, 77, 78, 79, 80, 81, 82, 83, 84, 85, 86, 87, 88, 89, 90, 48, 49, 50, 51, 52, 53, 54, 55, 56, 57, 95]⟩ : ByteArray) q = ((L63.getD q.toNat 0).toNat : Int) := by
  have hq : q.toNat < L63.length := by show q.toNat < 63; omega
  have := bt_bs L63 q.toNat hq
  rw [Int.toNat_of_nonneg h0] at this
  refine (show bt (bs L63) q = _ from this).trans ?_
  rw [List.getD_eq_getElem?_getD, List.getElem?_eq_getElem hq]; rfl
theorem tmod_nat (m d : Nat) : Int.tmod (m : Int) (d : Int) = ((m % d : Nat) : Int) := rfl
theorem tdiv_nat (m d : Nat) : Int.tdiv (m : Int) (d : Int) = ((m / d : Nat) : Int) := rfl
theorem uwrap {x : Int} (h0 : 0 ≤ x) (h1 : x < 18446744073709551616) : IntKind.u64.wrap x = x := by rw [IntKind.wrap_u64]; omega
theorem str_one (c : UInt8) : strOfNums [(c.toNat : Int)] = bs [c] := by unfold strOfNums bs; simp
theorem const_f {l t r : List UInt8} (h1 : l.length ≤ 140737488355000) (h2 : l.head? ≠ some 66) (h : Dm.const l = .told t r) : impl_Constant.f (bs l) = some (bs t, bs r, true) := by
  unfold impl_Constant.f
  rw [if_pos ⟨by rw [bs_size]; exact h1, by rw [bs_dl]; exact h2⟩, bs_dl, h]
theorem constantIs_true {c r t : List UInt8} (h1 : (c ++ r).length ≤ 140737488355000) (h2 : (c ++ r).head? ≠ some 66) (h : Dm.const (c ++ r) = .told t r) : laws_constantIs.f (bs c) (bs r) (bs t) = some true := by
  unfold laws_constantIs.f
  rw [List.length_append] at h1
  rw [if_pos (by rw [bs_size, bs_size]; omega), app]
  refine bind_of (const_f (by rw [List.length_append]; exact h1) h2 h) ?_
  simp

theorem FnConstantBool : laws_FnConstantBool.Pure := by
  intro a0 hw0
  obtain ⟨r, rfl, hr⟩ := bs_of a0
  unfold laws_FnConstantBool.f
  rw [bs_size] at *
  by_cases hz : (r.length : Int) > 2147483647
  · rw [if_pos hz]
  · rw [if_neg hz]
    have hd : ∀ x : UInt8, x = 48 ∨ x = 49 → Dm.digits 3 (x :: 95 :: r) = .told (if x = 48 then [102, 97, 108, 115, 101] else [116, 114, 117, 101]) r := by
      rintro x (rfl | rfl)
      · unfold Dm.digits
        rw [show Dm.hexl 0 0 (48 :: 95 :: r) = some (0, 1, r) from by simp [Dm.hexl, Dm.hexd, IntKind.wrap_u64]]
        rfl
      · unfold Dm.digits
        rw [show Dm.hexl 0 0 (49 :: 95 :: r) = some (1, 1, r) from by simp [Dm.hexl, Dm.hexd, IntKind.wrap_u64]]
        rfl
    have hc : ∀ x : UInt8, x = 48 ∨ x = 49 → Dm.const ([98, x, 95] ++ r) = .told (if x = 48 then [102, 97, 108, 115, 101] else [116, 114, 117, 101]) r := by
      intro x hx
      have hs : Dm.sgn 3 (x :: 95 :: r) = (false, x :: 95 :: r) := by simp [Dm.sgn]
      show Dm.const (98 :: x :: 95 :: r) = _
      simp only [Dm.const]
      rw [if_neg (by decide), if_neg (by decide), show Dm.ckind 98 = 3 from rfl, if_neg (by decide), hs, hd x hx]
      rfl
    refine bind_of (constantIs_true (c := [98, 48, 95]) (t := [102, 97, 108, 115, 101]) (by simp; omega) (by simp) (hc 48 (.inl rfl))) ?_
    rw [if_pos rfl]
    exact bind_of (constantIs_true (c := [98, 49, 95]) (t := [116, 114, 117, 101]) (by simp; omega) (by simp) (hc 49 (.inr rfl))) rfl
end Go.Proofs.YtpmlnhddkbgefaaDoor.Pure
