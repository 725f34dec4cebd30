/- FnIdentifierShort, of numbers and lists alone. -/
import Derived.Test.YtfblehpiecialaaDoorPFnIdentifierShortx1
import Derived.Test.YtfblehpiecialaaDoorPl
import Derived.Test.YtfblehpiecialaaDoorDig10
import Derived.Test.YtfblehpiecialaaDoorWMore
namespace Go.Proofs.YtfblehpiecialaaDoor.Pure
set_option linter.unusedVariables false
set_option linter.unusedSimpArgs false
open Go.RowKit Go.Proofs.YtfblehpiecialaaDoor.PFnIdentifierShort Go.Proofs.YtfblehpiecialaaDoorW.PrintWords Go.Proofs.YtfblehpiecialaaDoorW.PrintLast

def L63 : List UInt8 := [97, 98, 99, 100, 101, 102, 103, 104, 105, 106, 107, 108, 109, 110, 111, 112, 113, 114, 115, 116, 117, 118, 119, 120, 121, 122, 65, 66, 67, 68, 69, 70, 71, 72, 73, 74, 75, 76, 77, 78, 79, 80, 81, 82, 83, 84, 85, 86, 87, 88, 89, 90, 48, 49, 50, 51, 52, 53, 54, 55, 56, 57, 95]
def isLetter (c : UInt8) : Prop := (65 ≤ c.toNat ∧ c.toNat ≤ 90) ∨ (97 ≤ c.toNat ∧ c.toNat ≤ 122)
instance (c : UInt8) : Decidable (isLetter c) := by unfold isLetter; exact inferInstance
theorem l63_letter : ∀ k : Fin 52, isLetter (L63.getD k.val 0) := by decide
theorem l63_plain : ∀ c ∈ L63, Dm.isPlain c = true := by decide

theorem getD_mem' {l : List UInt8} {k : Nat} (h : k < l.length) : l.getD k 0 ∈ l := by
  rw [List.getD_eq_getElem?_getD, List.getElem?_eq_getElem h]; exact List.getElem_mem h
theorem app (l m : List UInt8) : bs l ++ bs m = bs (l ++ m) := by
  apply ByteArray.ext
  simp [bs, ByteArray.data_append]
theorem u8_range {l : List Int} (h : ∀ x ∈ l, (Lit.int .u8 x).wf = true) (i : Nat) : 0 ≤ rd l (i : Int) ∧ rd l (i : Int) ≤ 255 := by
  unfold rd
  rw [Int.toNat_natCast, List.getD_eq_getElem?_getD]
  cases hi : l[i]? with
  | none => simp
  | some x =>
    have := h x (List.mem_of_getElem? hi)
    simp [Lit.wf, IntKind.min, IntKind.max, IntKind.bits, IntKind.signed] at this
    simp; omega
theorem l63_at (q : Int) (h0 : 0 ≤ q) (h1 : q < 63) : bt (⟨#[97, 98, 99, 100, 101, 102, 103, 104, 105, 106, 107, 108, 109, 110, 111, 112, 113, 114, 115, 116, 117, 118, 119, 120, 121, 122, 65, 66, 67, 68, 69, 70, 71, 72, 73, 74, 75, 76, 77, 78, 79, 80, 81, 82, 83, 84, 85, 86, 87, 88, 89, 90, 48, 49, 50, 51, 52, 53, 54, 55, 56, 57, 95]⟩ : ByteArray) q = ((L63.getD q.toNat 0).toNat : Int) := by
  have hq : q.toNat < L63.length := by show q.toNat < 63; omega
  have := bt_bs L63 q.toNat hq
  rw [Int.toNat_of_nonneg h0] at this
  refine (show bt (bs L63) q = _ from this).trans ?_
  rw [List.getD_eq_getElem?_getD, List.getElem?_eq_getElem hq]; rfl
theorem strOf_list (a : List UInt8) : strOfNums (a.map (fun c => (c.toNat : Int))) = bs a := by
  unfold strOfNums bs
  congr 2
  rw [List.map_map, show ((fun n : Int => UInt8.ofNat n.toNat) ∘ fun c : UInt8 => (c.toNat : Int)) = id from by funext c; simp]
  simp

theorem word_loop (xs : List Int) (hx : ∀ x ∈ xs, (Lit.int .u8 x).wf = true) (hm : xs.length ≤ 1000) (hne : 0 < xs.length) :
    ∀ (d i : Nat) (p : List UInt8) (k : Nat), i + d = xs.length → d < k → p.length = i → (∀ c ∈ p, Dm.isPlain c = true) →
      ∃ (c : UInt8) (a : List UInt8), spec_AnWord.l0 k xs (p.map (fun c => (c.toNat : Int)) ++ List.replicate d 0) xs (xs.length : Int) (i : Int) = some (bs (c :: a)) ∧ a.length + 1 = xs.length ∧ isLetter c ∧ ∀ x ∈ c :: a, Dm.isPlain x = true := by
  intro d
  induction d with
  | zero =>
    intro i p k hi hk hp hl
    obtain ⟨k, rfl⟩ : ∃ m, k = m + 1 := ⟨k - 1, by omega⟩
    simp only [spec_AnWord.l0]
    rw [if_neg (by omega), if_pos (by omega)]
    obtain ⟨r0, r1⟩ := u8_range hx 0
    rw [show ((0 : Nat) : Int) = 0 from rfl] at r0 r1
    rw [wrap_id (x := rd xs 0) (by omega) (by omega)]
    have hm0 : 0 ≤ Int.tmod (rd xs 0) 52 := Int.tmod_nonneg _ r0
    have hm1 : Int.tmod (rd xs 0) 52 < 52 := Int.tmod_lt_of_pos _ (by omega)
    generalize Int.tmod (rd xs 0) 52 = q at hm0 hm1 ⊢
    rw [if_pos hm0, if_pos (by omega), if_pos (by simp; omega), l63_at q hm0 (by omega)]
    have hlet := l63_letter ⟨q.toNat, by omega⟩
    have hpl := l63_plain _ (getD_mem' (show q.toNat < L63.length by show q.toNat < 63; omega))
    simp only at hlet
    generalize L63.getD q.toNat 0 = c at hlet hpl
    cases p with
    | nil => simp at hp; omega
    | cons y p =>
      refine ⟨c, p, ?_, by simp at hp; omega, hlet, ?_⟩
      · have e : ((y :: p).map (fun c : UInt8 => (c.toNat : Int)) ++ List.replicate 0 0).set ((0 : Int)).toNat (c.toNat : Int) = (c :: p).map (fun c : UInt8 => (c.toNat : Int)) := by simp
        rw [e, strOf_list]
      · intro x hx2
        rcases List.mem_cons.1 hx2 with rfl | hx2
        · exact hpl
        · exact hl x (List.mem_cons_of_mem _ hx2)
  | succ d ih =>
    intro i p k hi hk hp hl
    obtain ⟨k, rfl⟩ : ∃ m, k = m + 1 := ⟨k - 1, by omega⟩
    obtain ⟨r0, r1⟩ := u8_range hx i
    simp only [spec_AnWord.l0]
    rw [wrap_id (x := rd xs (i : Int)) (by omega) (by omega)]
    have hm0 : 0 ≤ Int.tmod (rd xs (i : Int)) 62 := Int.tmod_nonneg _ r0
    have hm1 : Int.tmod (rd xs (i : Int)) 62 < 62 := Int.tmod_lt_of_pos _ (by omega)
    generalize Int.tmod (rd xs (i : Int)) 62 = q at hm0 hm1 ⊢
    rw [if_pos (by omega), if_pos (by omega), if_pos (by omega), if_pos hm0, if_pos (by omega), if_pos (by simp; omega), wrap_id (x := (i : Int) + 1) (by omega) (by omega), l63_at q hm0 (by omega)]
    have hpl := l63_plain _ (getD_mem' (show q.toNat < L63.length by show q.toNat < 63; omega))
    generalize L63.getD q.toNat 0 = c at hpl
    have hset : (p.map (fun c : UInt8 => (c.toNat : Int)) ++ List.replicate (d + 1) 0).set ((i : Int)).toNat (c.toNat : Int) = (p ++ [c]).map (fun c : UInt8 => (c.toNat : Int)) ++ List.replicate d 0 := by
      rw [Int.toNat_natCast, List.set_append_right _ _ (by rw [List.length_map]; omega)]
      simp [hp, List.replicate_succ]
    rw [hset]
    exact ih (i + 1) (p ++ [c]) k (by omega) (by omega) (by simp; omega) (by
      intro x hx2
      rcases List.mem_append.1 hx2 with hx2 | hx2
      · exact hl x hx2
      · obtain rfl := List.mem_singleton.1 hx2; exact hpl)

theorem word_f (xs : List Int) (hx : ∀ x ∈ xs, (Lit.int .u8 x).wf = true) (hm : xs.length ≤ 1000) (k : Nat) (hk : 1000 < k) :
    ∃ (c : UInt8) (a : List UInt8), spec_AnWord.f k xs = some (bs (c :: a)) ∧ a.length ≤ 1000 ∧ isLetter c ∧ ∀ x ∈ c :: a, Dm.isPlain x = true := by
  unfold spec_AnWord.f
  by_cases h0 : (xs.length : Int) = 0
  · rw [if_pos h0]; exact ⟨97, [], rfl, by simp, by decide, by decide⟩
  · rw [if_neg h0, if_pos (by omega), if_pos (by omega)]
    obtain ⟨c, a, e, h1, h2, h3⟩ := word_loop xs hx hm (by omega) xs.length 0 [] k (by omega) (by omega) rfl (by simp)
    exact ⟨c, a, by simpa using e, by omega, h2, h3⟩

theorem dec_any (u : Nat) : ∀ r, Dm.dec 0 (Lib.decDigits u ++ r) = none ∨ Dm.dec 0 (Lib.decDigits u ++ r) = Dm.dec (u : Int) r := by
  have step : ∀ (v : Int) (d : Nat) (r : List UInt8), d < 10 → Dm.dec v (UInt8.ofNat (48 + d) :: r) = none ∨ Dm.dec v (UInt8.ofNat (48 + d) :: r) = Dm.dec (v * 10 + d) r := by
    intro v d r hd
    have e : ((UInt8.ofNat (48 + d)).toNat : Int) = 48 + d := by simp; omega
    rw [Dm.dec, if_pos (by unfold Dm.isDig; simp; omega), e]
    by_cases hv : v ≥ 214748364 - (48 + (d : Int) - 48)
    · left; rw [if_pos hv]
    · right; rw [if_neg hv]; congr 1; omega
  induction u using Nat.strongRecOn with
  | _ u ih =>
    intro r
    rw [Lib.decDigits]
    by_cases h : u < 10
    · rw [dif_pos h, List.singleton_append]
      have := step 0 u r h
      rwa [show (0 : Int) * 10 + (u : Int) = (u : Int) from by omega] at this
    · rw [dif_neg h, List.append_assoc, List.singleton_append]
      rcases ih (u / 10) (by omega) (UInt8.ofNat (48 + u % 10) :: r) with h1 | h1
      · exact .inl h1
      · rw [h1]
        have := step ((u / 10 : Nat) : Int) (u % 10) r (by omega)
        rwa [show ((u / 10 : Nat) : Int) * 10 + ((u % 10 : Nat) : Int) = (u : Int) from by omega] at this

theorem letter_not {c : UInt8} (h : isLetter c) : Dm.isDig c = false ∧ c ≠ 95 := by
  unfold isLetter at h
  refine ⟨?_, ?_⟩
  · unfold Dm.isDig; simp; omega
  · rintro rfl; simp at h

theorem short_ident (c : UInt8) (a : List UInt8) (hc : isLetter c) (u : Nat) (hu : (c :: a).length < u) : Dm.ident (Lib.decDigits u ++ c :: a) = none := by
  obtain ⟨hd, h95⟩ := letter_not hc
  have hdig := Dm.digits_dig u
  have hn := Dm.digits_ne u
  have hdec := dec_any u (c :: a)
  have hs : Dm.dec (u : Int) (c :: a) = some ((u : Int), c :: a) := Dm.dec_stop _ _ (by intro x t h; injection h with h _; rw [← h]; exact hd)
  rw [hs] at hdec
  obtain ⟨x, t, hx⟩ : ∃ x t, Lib.decDigits u = x :: t := by
    cases h : Lib.decDigits u with
    | nil => exact absurd h hn
    | cons x t => exact ⟨x, t, rfl⟩
  have hxd := hdig x (by rw [hx]; simp)
  have hx1 : x ≠ 115 := by rintro rfl; exact absurd hxd (by decide)
  have hx2 : x ≠ 117 := by rintro rfl; exact absurd hxd (by decide)
  rw [hx] at hdec ⊢
  have e1 : Dm.disamb (x :: t ++ c :: a) = some (0, x :: t ++ c :: a) := by show Dm.disamb (x :: (t ++ c :: a)) = _; simp only [Dm.disamb, if_neg hx1]; rfl
  have e2 : Dm.pu (x :: t ++ c :: a) = (false, x :: t ++ c :: a) := by show Dm.pu (x :: (t ++ c :: a)) = _; simp only [Dm.pu, if_neg hx2]; rfl
  have e3 : Dm.us (c :: a) = c :: a := by simp only [Dm.us, if_neg h95]
  have e4 : Dm.undis (x :: t ++ c :: a) = none := by
    unfold Dm.undis
    rw [e2]
    simp only
    have hdc : Dm.decimal (x :: t ++ c :: a) = Dm.dec 0 (x :: t ++ c :: a) := by unfold Dm.decimal; rw [if_neg (by simp)]
    rw [hdc]
    rcases hdec with h | h
    · rw [h]
    · rw [h]
      simp only [e3]
      unfold Dm.named
      rw [if_pos (by omega)]
  unfold Dm.ident
  rw [e1]
  simp only [e4]

theorem number_f (u : Nat) (h : u ≤ 9223372036854775807) : spec_AnNumber.f (u : Int) = some (bs (Lib.decDigits u)) := by
  unfold spec_AnNumber.f strconv_Itoa.f
  rw [if_pos (by omega), Dm.itoa_nat]
  simp only [Option.bind_some]
theorem ident_one : Dm.ident [49, 97] = some (0, [97], []) := by
  simp [Dm.ident, Dm.disamb, Dm.undis, Dm.pu, Dm.us, Dm.decimal, Dm.dec, Dm.isDig, Dm.named, Dm.isPlain]
theorem door_one : laws_doorIdentifier.f (⟨#[49, 97]⟩ : ByteArray) 0 (⟨#[97]⟩ : ByteArray) (⟨#[]⟩ : ByteArray) = some true := by
  unfold laws_doorIdentifier.f impl_Identifier.f
  rw [if_pos (by show 2 ≤ 4611686018427387904; omega), show (⟨#[49, 97]⟩ : ByteArray).data.toList = [49, 97] from rfl, ident_one]
  simp only [Option.bind_some, if_true]
  rw [show (⟨#[97]⟩ : ByteArray) = bs [97] from rfl, show (⟨#[]⟩ : ByteArray) = bs [] from rfl, if_pos rfl]
  simp

theorem idAt40 (a1 : Int) : ∃ q : Nat, laws_idAt.f a1 1099511627776 = some (q : Int) ∧ (q : Int) < 1099511627776 := by
  have key : ∀ n : Int, 0 < n → n ≤ 4611686018427387904 → ∃ q : Nat, laws_idAt.f a1 n = some (q : Int) ∧ (q : Int) < n := by
    intro n h0 h1
    unfold laws_idAt.f
    rw [if_neg (by omega)]
    have m0 := Int.tmod_lt_of_pos a1 h0
    have m1 := Int.lt_tmod_of_pos a1 h0
    rw [wrap_id (x := Int.tmod a1 n + n) (by omega) (by omega)]
    have q0 : 0 ≤ Int.tmod (Int.tmod a1 n + n) n := Int.tmod_nonneg _ (by omega)
    have q1 : Int.tmod (Int.tmod a1 n + n) n < n := Int.tmod_lt_of_pos _ h0
    obtain ⟨q, hq⟩ := Int.eq_ofNat_of_zero_le q0
    exact ⟨q, by rw [hq], by omega⟩
  exact key _ (by omega) (by omega)

theorem bind_of {α β : Type} {x : Option α} {a : α} {f : α → Option β} {r : Option β} (h : x = some a) (h2 : f a = r) : x.bind f = r := by subst h; exact h2

theorem u_of (z q : Nat) (h : z ≤ 1001) (hq : (q : Int) < 1099511627776) : ∃ u : Nat, wrap64 (wrap64 ((z : Int) + 1) + (q : Int)) = (u : Int) ∧ z < u ∧ u ≤ 2000000000000 := by
  rw [wrap_id (x := (z : Int) + 1) (by omega) (by omega), wrap_id (by omega) (by omega)]
  exact ⟨z + 1 + q, by omega, by omega, by omega⟩
theorem dig_bound (u z : Nat) (h : u ≤ 2000000000000) (hz : z ≤ 1001) : (Lib.decDigits u).length + z ≤ 4611686018427387904 := by
  have := Dm.digits_len u
  generalize (Lib.decDigits u).length = y at this ⊢
  omega
theorem short_end (L : List UInt8) (q : Nat) (hL : L.length ≤ 1001) (hq : (q : Int) < 1099511627776) (hs : ∀ u, L.length < u → Dm.ident (Lib.decDigits u ++ L) = none) :
    ((spec_AnNumber.f (wrap64 ((wrap64 (((bs L).size : Int) + 1)) + (q : Int)))).bind fun t119 => (if t119.size + (bs L).size ≤ 9223372036854775807 then ((impl_Identifier.f (t119 ++ bs L)).bind fun bt120 => (if bt120.2.2.2 = true then (some false) else ((laws_doorIdentifier.f (⟨#[49, 97]⟩ : ByteArray) 0 (⟨#[97]⟩ : ByteArray) (⟨#[]⟩ : ByteArray)).bind fun t124 => (some t124)))) else (none))) = some true := by
  obtain ⟨u, hu, hlt, hle⟩ := u_of L.length q hL hq
  have hb := dig_bound u L.length hle hL
  rw [bs_size, hu, number_f u (Nat.le_trans hle (by decide))]
  have e1 : impl_Identifier.f (bs (Lib.decDigits u ++ L)) = some (0, ⟨#[]⟩, ⟨#[]⟩, false) := by
    unfold impl_Identifier.f
    rw [if_pos (by rw [bs_size, List.length_append]; exact hb), bs_dl, hs u hlt]
  refine bind_of rfl ?_
  rw [if_pos (by rw [bs_size]; exact Nat.le_trans hb (by decide)), app]
  refine bind_of e1 ?_
  rw [if_neg (by simp)]
  exact bind_of door_one rfl

theorem FnIdentifierShort : laws_FnIdentifierShort.Pure := by
  intro l0 a1 hm0 _ hw0 hw1
  obtain ⟨K, hK⟩ : ∃ K : Nat, 1001 ≤ K := ⟨1001, Nat.le_refl _⟩
  refine ⟨K, ?_⟩
  unfold laws_FnIdentifierShort.f
  by_cases hz : (l0.length : Int) > 2147483647
  · rw [if_pos hz]
  · rw [if_neg hz]
    have hmn : 0 ≤ mn (l0.length : Int) 1000 ∧ mn (l0.length : Int) 1000 ≤ (l0.length : Int) ∧ mn (l0.length : Int) 1000 ≤ 1000 := by unfold mn; split <;> omega
    rw [if_pos hmn.1, if_pos hmn.2.1]
    have hl : (l0.take (mn (l0.length : Int) 1000).toNat).length ≤ 1000 := by rw [List.length_take]; omega
    obtain ⟨c, a, ea, la, hc, hp⟩ := word_f (l0.take (mn (l0.length : Int) 1000).toNat) (fun x h => hw0 x (List.mem_of_mem_take h)) hl K (by omega)
    obtain ⟨q, hq, hq1⟩ := idAt40 a1
    refine bind_of ea ?_
    refine bind_of hq ?_
    exact short_end (c :: a) q (by rw [List.length_cons]; exact Nat.succ_le_succ la) hq1 (fun u hu => short_ident c a hc u hu)
end Go.Proofs.YtfblehpiecialaaDoor.Pure
