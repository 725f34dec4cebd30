/- FnNoSpaceRefused, of numbers and lists alone: a path in no namespace is refused. -/
import Derived.Test.YtdmkdclockmjbaaDoorPFnNoSpaceRefusedx2
import Derived.Test.YtdmkdclockmjbaaDoorM6
import Derived.Test.YtdmkdclockmjbaaDoorM4
import Derived.Test.YtdmkdclockmjbaaDoorM5
import Derived.Test.YtdmkdclockmjbaaDoorWMore
import Derived.Laws.Bits64
namespace Go.Proofs.YtdmkdclockmjbaaDoor.Pure
set_option linter.unusedVariables false
set_option linter.unusedSimpArgs false
open Go.RowKit Go.Proofs.YtdmkdclockmjbaaDoor.PFnNoSpaceRefused Go.Proofs.YtdmkdclockmjbaaDoorW.PrintWords Go.Proofs.YtdmkdclockmjbaaDoorW.PrintLast

theorem getD_mem' {l : List UInt8} {k : Nat} (h : k < l.length) : l.getD k 0 ∈ l := by
  rw [List.getD_eq_getElem?_getD, List.getElem?_eq_getElem h]; exact List.getElem_mem h
theorem app (l m : List UInt8) : bs l ++ bs m = bs (l ++ m) := by
  apply ByteArray.ext
  simp [bs, ByteArray.data_append]
theorem bind_of {α β : Type} {x : Option α} {a : α} {f : α → Option β} {r : Option β} (h : x = some a) (h2 : f a = r) : x.bind f = r := by subst h; exact h2
theorem u8_range {l : List Int} (h : ∀ x ∈ l, (Lit.int .u8 x).wf = true) (i : Nat) : 0 ≤ rd l (i : Int) ∧ rd l (i : Int) ≤ 255 := by
  unfold rd
  rw [Int.toNat_natCast, List.getD_eq_getElem?_getD]
  cases hi : l[i]? with
  | none => simp
  | some x =>
    have := h x (List.mem_of_getElem? hi)
    simp [Lit.wf, IntKind.min, IntKind.max, IntKind.bits, IntKind.signed] at this
    simp; omega
theorem strOf_list (a : List UInt8) : strOfNums (a.map (fun c => (c.toNat : Int))) = bs a := by
  unfold strOfNums bs
  congr 2
  rw [List.map_map, show ((fun n : Int => UInt8.ofNat n.toNat) ∘ fun c : UInt8 => (c.toNat : Int)) = id from by funext c; simp]
  simp
def L63 : List UInt8 := [97, 98, 99, 100, 101, 102, 103, 104, 105, 106, 107, 108, 109, 110, 111, 112, 113, 114, 115, 116, 117, 118, 119, 120, 121, 122, 65, 66, 67, 68, 69, 70, 71, 72, 73, 74, 75, 76, 77, 78, 79, 80, 81, 82, 83, 84, 85, 86, 87, 88, 89, 90, 48, 49, 50, 51, 52, 53, 54, 55, 56, 57, 95]
theorem l63_at (q : Int) (h0 : 0 ≤ q) (h1 : q < 63) : bt (⟨#[97, 98, 99, 100, 101, 102, 103, 104, 105, 106, 107, 108, 109, 110, 111, 112, 113, 114, 115, 116, 117, 118, 119, 120, 121, 122, 65, 66, 67, 68, 69, 70, 71, 72, 73, 74, 75, 76, 77, 78, 79, 80, 81, 82, 83, 84, 85, 86, 87, 88, 89, 90, 48, 49, 50, 51, 52, 53, 54, 55, 56, 57, 95]⟩ : ByteArray) q = ((L63.getD q.toNat 0).toNat : Int) := by
  have hq : q.toNat < L63.length := by show q.toNat < 63; omega
  have := bt_bs L63 q.toNat hq
  rw [Int.toNat_of_nonneg h0] at this
  refine (show bt (bs L63) q = _ from this).trans ?_
  rw [List.getD_eq_getElem?_getD, List.getElem?_eq_getElem hq]; rfl
theorem l63_plain : ∀ c ∈ L63, Dm.isPlain c = true := by decide
theorem plain_loop (xs : List Int) (hx : ∀ x ∈ xs, (Lit.int .u8 x).wf = true) (hm : xs.length ≤ 1000) :
    ∀ (d i : Nat) (p : List UInt8) (k : Nat), i + d = xs.length → d < k → p.length = i → (∀ c ∈ p, Dm.isPlain c = true) →
      ∃ a : List UInt8, spec_AnPlain.l0 k (p.map (fun c => (c.toNat : Int)) ++ List.replicate d 0) xs (xs.length : Int) (i : Int) = some (bs a) ∧ a.length = xs.length ∧ ∀ c ∈ a, Dm.isPlain c = true := by
  intro d
  induction d with
  | zero =>
    intro i p k hi hk hp hl
    obtain ⟨k, rfl⟩ : ∃ m, k = m + 1 := ⟨k - 1, by omega⟩
    simp only [spec_AnPlain.l0]
    rw [if_neg (by omega)]
    refine ⟨p, ?_, by omega, hl⟩
    rw [List.replicate_zero, List.append_nil, strOf_list]
  | succ d ih =>
    intro i p k hi hk hp hl
    obtain ⟨k, rfl⟩ : ∃ m, k = m + 1 := ⟨k - 1, by omega⟩
    obtain ⟨r0, r1⟩ := u8_range hx i
    simp only [spec_AnPlain.l0]
    rw [wrap_id (x := rd xs (i : Int)) (by omega) (by omega)]
    have hm0 : 0 ≤ Int.tmod (rd xs (i : Int)) 63 := Int.tmod_nonneg _ r0
    have hm1 : Int.tmod (rd xs (i : Int)) 63 < 63 := Int.tmod_lt_of_pos _ (by omega)
    generalize Int.tmod (rd xs (i : Int)) 63 = q at hm0 hm1 ⊢
    rw [if_pos (by omega), if_pos (by omega), if_pos (by omega), if_pos hm0, if_pos hm1, if_pos (by simp; omega), wrap_id (x := (i : Int) + 1) (by omega) (by omega), l63_at q hm0 hm1]
    have hc := l63_plain _ (getD_mem' (show q.toNat < L63.length by show q.toNat < 63; omega))
    generalize L63.getD q.toNat 0 = c at hc
    have hset : (p.map (fun c : UInt8 => (c.toNat : Int)) ++ List.replicate (d + 1) 0).set ((i : Int)).toNat (c.toNat : Int) = (p ++ [c]).map (fun c : UInt8 => (c.toNat : Int)) ++ List.replicate d 0 := by
      rw [Int.toNat_natCast, List.set_append_right _ _ (by rw [List.length_map]; omega)]
      simp [hp, List.replicate_succ]
    rw [hset]
    obtain ⟨a, e, hl1, hl2⟩ := ih (i + 1) (p ++ [c]) k (by omega) (by omega) (by simp; omega) (by
      intro x hx2
      rcases List.mem_append.1 hx2 with hx2 | hx2
      · exact hl x hx2
      · obtain rfl := List.mem_singleton.1 hx2; exact hc)
    exact ⟨a, e, hl1, hl2⟩

theorem plain_f (xs : List Int) (hx : ∀ x ∈ xs, (Lit.int .u8 x).wf = true) (hm : xs.length ≤ 1000) (k : Nat) (hk : 1000 < k) :
    ∃ a : List UInt8, spec_AnPlain.f k xs = some (bs a) ∧ a ≠ [] ∧ a.length ≤ 1000 ∧ a.all Dm.isPlain = true := by
  unfold spec_AnPlain.f
  by_cases h0 : (xs.length : Int) = 0
  · rw [if_pos h0]; exact ⟨[97], rfl, by simp, by simp, by decide⟩
  · rw [if_neg h0, if_pos (by omega), if_pos (by omega)]
    obtain ⟨a, e, h1, h2⟩ := plain_loop xs hx hm xs.length 0 [] k (by omega) (by omega) rfl (by simp)
    refine ⟨a, by simpa using e, ?_, by omega, List.all_eq_true.2 h2⟩
    rintro rfl; simp at h1; omega
theorem bd_of {α β : Type} {x : Option α} {a : α} {f : α → Option β} {r : Option β} (h : x = some a) (h2 : f a = r) : x.bind f = r := by subst h; exact h2
theorem mn_take (n : Nat) : 0 ≤ mn (n : Int) 1000 ∧ mn (n : Int) 1000 ≤ (n : Int) ∧ (mn (n : Int) 1000).toNat ≤ 1000 := by unfold mn; split <;> omega
theorem itoa_f (n : Nat) (h : n < 9223372036854775808) : strconv_Itoa.f (n : Int) = some (bs (Lib.decDigits n)) := by
  unfold strconv_Itoa.f
  rw [if_pos (by omega), Dm.itoa_nat]
theorem counted_f (t : List UInt8) (h : t.length ≤ 1000) : spec_AnCounted.f (bs t) true = some (bs (Lib.decDigits t.length ++ 95 :: t)) := by
  have := Dm.digits_len t.length
  unfold spec_AnCounted.f
  rw [if_pos rfl, bs_size]
  refine bd_of (itoa_f t.length (by omega)) ?_
  rw [if_pos (by rw [bs_size]; omega), show (⟨#[95]⟩ : ByteArray) = bs [95] from rfl, app, if_pos (by rw [bs_size]; simp; omega), app]
  simp
/-! ### what is refused -/
theorem refused_f (l : List UInt8) (hl : l.length ≤ 4611686018427387904) (t : ByteArray) (n : Int) (h : toldAns l false false (mxOf 0) = some (t, n)) (hn : n ≠ 0) : laws_idRefused.f (bs l) = some true := by
  unfold laws_idRefused.f
  refine bd_of (a := (t, n)) ?_ ?_
  · unfold impl_Told.f
    rw [if_pos ⟨by rw [bs_size]; exact hl, by omega, by omega⟩, bs_dl]; exact h
  · simp [hn]
theorem refused_bad (l : List UInt8) (hl : l.length ≤ 4611686018427380000) (h : ∀ mx, toldM l false false mx = .bad) : laws_idRefused.f (bs (95 :: 82 :: l)) = some true :=
  refused_f _ (by simp only [List.length_cons]; omega) ⟨#[]⟩ 2 (by show ansOf (toldM l false false (mxOf 0)) = _; rw [h]; rfl) (by decide)

def L11 : List UInt8 := [48, 49, 50, 51, 52, 53, 54, 55, 56, 57, 95]
theorem l11_props : ∀ k : Fin 11, (isLow (L11.getD k.val 0) = false ∧ isUp (L11.getD k.val 0) = false) ∧ Dm.isPlain (L11.getD k.val 0) = true := by decide +kernel
theorem piece11 (d : Nat) (h : d < 11) : (⟨#[48, 49, 50, 51, 52, 53, 54, 55, 56, 57, 95]⟩ : ByteArray).extract d (d + 1) = bs [L11.getD d 0] := by
  have hp : ∀ d : Fin 11, (L11.drop d.val).take 1 = [L11.getD d.val 0] := by decide +kernel
  show (bs L11).extract _ _ = _
  apply ByteArray.ext
  have := hp ⟨d, h⟩
  simp only at this
  simp [bs, ByteArray.data_extract]
  rw [this]
  rfl
theorem FnNoSpaceRefused : laws_FnNoSpaceRefused.Pure := by
  intro a0 l0 l1 hw2 hm0 _ hw0 hm1 _ hw1
  have hbad : laws_FnNoSpaceRefused.j0 (2000 + 1) a0 l0 l1 true = some true := by simp only [laws_FnNoSpaceRefused.j0, if_true]
  refine ⟨2000 + 1, ?_⟩
  unfold laws_FnNoSpaceRefused.f
  by_cases hz : (l0.length : Int) > 2147483647
  · rw [if_pos hz]; exact hbad
  · rw [if_neg hz]
    cases hz2 : decide ((l1.length : Int) > 2147483647) with
    | true => exact hbad
    | false =>
      have ha : 0 ≤ a0 ∧ a0 ≤ 255 := by
        simp [Lit.wf, IntKind.min, IntKind.max, IntKind.bits, IntKind.signed] at hw2; omega
      have q0 : 0 ≤ Int.tmod a0 11 := Int.tmod_nonneg _ ha.1
      have q1 := Int.tmod_lt_of_pos a0 (show (0 : Int) < 11 by omega)
      obtain ⟨q, hq⟩ := Int.eq_ofNat_of_zero_le q0
      have hmn := mn_take l0.length
      have hmn1 := mn_take l1.length
      simp only [laws_FnNoSpaceRefused.j0]
      rw [hq] at q1 ⊢
      have e1 : ((q : Int) + 1) % 256 = ((q + 1 : Nat) : Int) := by omega
      rw [if_neg (by decide), e1, if_pos (by omega), if_pos (by omega), if_pos (by omega), Int.toNat_natCast, Int.toNat_natCast, piece11 q (by omega)]
      obtain ⟨hc, hcp⟩ := l11_props ⟨q, by omega⟩
      simp only at hc hcp
      generalize L11.getD q 0 = c at hc hcp ⊢
      rw [show (⟨#[95, 82, 78]⟩ : ByteArray) = bs [95, 82, 78] from rfl, show (⟨#[67]⟩ : ByteArray) = bs [67] from rfl, app, app]
      rw [if_pos (by simp only [bs_size, List.length_append, List.length_cons, List.length_nil]; omega), if_pos (by simp only [bs_size, List.length_append, List.length_cons, List.length_nil]; omega), if_pos hmn.1, if_pos hmn.2.1]
      obtain ⟨t, et, ht0, htl, htp⟩ := plain_f (l0.take (mn (l0.length : Int) 1000).toNat) (fun x h => hw0 x (List.mem_of_mem_take h)) (by rw [List.length_take]; omega) 2000 (by omega)
      refine bd_of et (bd_of (counted_f t htl) ?_)
      have hdt := Dm.digits_len t.length
      rw [if_pos (by simp only [bs_size, List.length_append, List.length_cons, List.length_nil]; omega), if_pos hmn1.1, if_pos hmn1.2.1]
      obtain ⟨u, eu, hu0, hul, hup⟩ := plain_f (l1.take (mn (l1.length : Int) 1000).toNat) (fun x h => hw1 x (List.mem_of_mem_take h)) (by rw [List.length_take]; omega) 2000 (by omega)
      refine bd_of eu (bd_of (counted_f u hul) ?_)
      have hdu := Dm.digits_len u.length
      rw [app, if_pos (by simp only [bs_size, List.length_append, List.length_cons, List.length_nil]; omega), app]
      refine bd_of (a := true) ?_ rfl
      have := refused_bad (78 :: c :: (67 :: ((Lib.decDigits t.length ++ 95 :: t) ++ (Lib.decDigits u.length ++ 95 :: u)))) (by simp only [List.length_append, List.length_cons]; omega) fun mx =>
        told_nospace c _ hc (Pl.cons hcp (Pl.cons (by decide) (((pl_digits _).app (Pl.cons (by decide) (pl_all htp))).app ((pl_digits _).app (Pl.cons (by decide) (pl_all hup)))))) false false mx
      simpa using this
end Go.Proofs.YtdmkdclockmjbaaDoor.Pure
