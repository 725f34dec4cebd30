/- FnLegacyFirst, of numbers and lists alone: a name that begins with an escape, behind an underscore, is told. -/
import Derived.Test.YtpmlnhddkbgefaaDoorPFnLegacyFirstx1
import Derived.Test.YtpmlnhddkbgefaaDoorM6
import Derived.Test.YtpmlnhddkbgefaaDoorN1
import Derived.Test.YtpmlnhddkbgefaaDoorWMore
import Derived.Laws.Bits64
namespace Go.Proofs.YtpmlnhddkbgefaaDoor.Pure
set_option linter.unusedVariables false
set_option linter.unusedSimpArgs false
open Go.RowKit Go.Proofs.YtpmlnhddkbgefaaDoor.PFnLegacyFirst Go.Proofs.YtpmlnhddkbgefaaDoorW.PrintWords Go.Proofs.YtpmlnhddkbgefaaDoorW.PrintLast

theorem getD_mem' {l : List UInt8} {k : Nat} (h : k < l.length) : l.getD k 0 ∈ l := by
  rw [List.getD_eq_getElem?_getD, List.getElem?_eq_getElem h]; exact List.getElem_mem h
theorem app (l m : List UInt8) : bs l ++ bs m = bs (l ++ m) := by
  apply ByteArray.ext
  simp [bs, ByteArray.data_append]
theorem bind_of {α β : Type} {x : Option α} {a : α} {f : α → Option β} {r : Option β} (h : x = some a) (h2 : f a = r) : x.bind f = r := by subst h; exact h2
theorem u8_range {l : List Int} (h : ∀ x ∈ l, (Lit.int .u8 x).wf = true) (i : Nat) : 0 ≤ rd l (i : Int) ∧ rd l (i : Int) ≤ 255 := by
  unfold rd
  rw [Int.toNat_natCast, List.getD_eq_getElem?_getD]
  cases hi : l[i]? with
  | none => simp
  | some x =>
    have := h x (List.mem_of_getElem? hi)
    simp [Lit.wf, IntKind.min, IntKind.max, IntKind.bits, IntKind.signed] at this
    simp; omega
theorem strOf_list (a : List UInt8) : strOfNums (a.map (fun c => (c.toNat : Int))) = bs a := by
  unfold strOfNums bs
  congr 2
  rw [List.map_map, show ((fun n : Int => UInt8.ofNat n.toNat) ∘ fun c : UInt8 => (c.toNat : Int)) = id from by funext c; simp]
  simp
def L63 : List UInt8 := [97, 98, 99, 100, 101, 102, 103, 104, 105, 106, 107, 108, 109, 110, 111, 112, 113, 114, 115, 116, 117, 118, 119, 120, 121, 122, 65, 66, 67, 68, 69, 70, 71, 72, 73, 74, 75, 76, 77, 78, 79, 80, 81, 82, 83, 84, 85, 86, 87, 88, 89, 90, 48, 49, 50, 51, 52, 53, 54, 55, 56, 57, 95]
theorem l63_at (q : Int) (h0 : 0 ≤ q) (h1 : q < 63) : bt (⟨#[97, 98, 99, 100, 101, 102, 103, 104, 105, 106, 107, 108, 109, 110, 111, 112, 113, 114, 115, 116, 117, 118, 119, 120, 121, 122, 65, 66, 67, 68, 69, 70, 71, 72, 73, 74, 75, 76, 77, 78, 79, 80, 81, 82, 83, 84, 85, 86, 87, 88, 89, 90, 48, 49, 50, 51, 52, 53, 54, 55, 56, 57, 95]⟩ : ByteArray) q = ((L63.getD q.toNat 0).toNat : Int) := by
  have hq : q.toNat < L63.length := by show q.toNat < 63; omega
  have := bt_bs L63 q.toNat hq
  rw [Int.toNat_of_nonneg h0] at this
  refine (show bt (bs L63) q = _ from this).trans ?_
  rw [List.getD_eq_getElem?_getD, List.getElem?_eq_getElem hq]; rfl
theorem l63_plain : ∀ c ∈ L63, Dm.isPlain c = true := by decide
theorem l63_letter : ∀ k : Fin 52, Dm.isDig (L63.getD k.val 0) = false ∧ L63.getD k.val 0 ≠ 95 := by decide +kernel
theorem word_loop (xs : List Int) (hx : ∀ x ∈ xs, (Lit.int .u8 x).wf = true) (hm : xs.length ≤ 1000) (hn : 0 < xs.length) :
    ∀ (d i : Nat) (p : List UInt8) (k : Nat), i + d = xs.length → d < k → p.length = i → (∀ c ∈ p, Dm.isPlain c = true) →
      ∃ (a : List UInt8) (c : UInt8), spec_AnWord.l0 k xs (p.map (fun c => (c.toNat : Int)) ++ List.replicate d 0) xs (xs.length : Int) (i : Int) = some (bs (a.set 0 c)) ∧ a.length = xs.length ∧ (∀ c ∈ a, Dm.isPlain c = true) ∧ Dm.isPlain c = true ∧ Dm.isDig c = false ∧ c ≠ 95 := by
  intro d
  induction d with
  | zero =>
    intro i p k hi hk hp hl
    obtain ⟨k, rfl⟩ : ∃ m, k = m + 1 := ⟨k - 1, by omega⟩
    simp only [spec_AnWord.l0]
    obtain ⟨r0, r1⟩ := u8_range hx 0
    have r0 : 0 ≤ rd xs 0 := r0
    have r1 : rd xs 0 ≤ 255 := r1
    rw [wrap_id (x := rd xs 0) (by omega) (by omega)]
    have hm0 : 0 ≤ Int.tmod (rd xs 0) 52 := Int.tmod_nonneg _ r0
    have hm1 : Int.tmod (rd xs 0) 52 < 52 := Int.tmod_lt_of_pos _ (by omega)
    generalize Int.tmod (rd xs 0) 52 = q at hm0 hm1 ⊢
    rw [if_neg (by omega), if_pos (by omega), if_pos hm0, if_pos (by omega), if_pos (by simp; omega), l63_at q hm0 (by omega)]
    have hlet := l63_letter ⟨q.toNat, by omega⟩
    simp only at hlet
    have hc := l63_plain _ (getD_mem' (show q.toNat < L63.length by show q.toNat < 63; omega))
    refine ⟨p, L63.getD q.toNat 0, ?_, by omega, hl, hc, hlet.1, hlet.2⟩
    rw [List.replicate_zero, List.append_nil]
    generalize L63.getD q.toNat 0 = c
    rw [← strOf_list, List.map_set]; rfl
  | succ d ih =>
    intro i p k hi hk hp hl
    obtain ⟨k, rfl⟩ : ∃ m, k = m + 1 := ⟨k - 1, by omega⟩
    obtain ⟨r0, r1⟩ := u8_range hx i
    simp only [spec_AnWord.l0]
    rw [wrap_id (x := rd xs (i : Int)) (by omega) (by omega)]
    have hm0 : 0 ≤ Int.tmod (rd xs (i : Int)) 62 := Int.tmod_nonneg _ r0
    have hm1 : Int.tmod (rd xs (i : Int)) 62 < 62 := Int.tmod_lt_of_pos _ (by omega)
    generalize Int.tmod (rd xs (i : Int)) 62 = q at hm0 hm1 ⊢
    rw [if_pos (by omega), if_pos (by omega), if_pos (by omega), if_pos hm0, if_pos (by omega), if_pos (by simp; omega), wrap_id (x := (i : Int) + 1) (by omega) (by omega), l63_at q hm0 (by omega)]
    have hc := l63_plain _ (getD_mem' (show q.toNat < L63.length by show q.toNat < 63; omega))
    generalize L63.getD q.toNat 0 = c at hc
    have hset : (p.map (fun c : UInt8 => (c.toNat : Int)) ++ List.replicate (d + 1) 0).set ((i : Int)).toNat (c.toNat : Int) = (p ++ [c]).map (fun c : UInt8 => (c.toNat : Int)) ++ List.replicate d 0 := by
      rw [Int.toNat_natCast, List.set_append_right _ _ (by rw [List.length_map]; omega)]
      simp [hp, List.replicate_succ]
    rw [hset]
    exact ih (i + 1) (p ++ [c]) k (by omega) (by omega) (by simp; omega) (by
      intro x hx2
      rcases List.mem_append.1 hx2 with hx2 | hx2
      · exact hl x hx2
      · obtain rfl := List.mem_singleton.1 hx2; exact hc)
theorem word_f (xs : List Int) (hx : ∀ x ∈ xs, (Lit.int .u8 x).wf = true) (hm : xs.length ≤ 1000) (k : Nat) (hk : 1000 < k) :
    ∃ (c : UInt8) (r : List UInt8), spec_AnWord.f k xs = some (bs (c :: r)) ∧ (c :: r).length ≤ 1000 ∧ (c :: r).all Dm.isPlain = true ∧ Dm.isDig c = false ∧ c ≠ 95 := by
  unfold spec_AnWord.f
  by_cases h0 : (xs.length : Int) = 0
  · rw [if_pos h0]; exact ⟨97, [], rfl, by simp, by decide, by decide, by decide⟩
  · rw [if_neg h0, if_pos (by omega), if_pos (by omega)]
    obtain ⟨a, c, e, h1, h2, h3, h4, h5⟩ := word_loop xs hx hm (by omega) xs.length 0 [] k (by omega) (by omega) rfl (by simp)
    cases a with
    | nil => simp at h1; omega
    | cons x a =>
      refine ⟨c, a, by simpa using e, by rw [List.length_cons] at h1 ⊢; omega, ?_, h4, h5⟩
      rw [List.all_cons, h3, Bool.true_and]
      exact List.all_eq_true.2 fun y hy => h2 y (List.mem_cons_of_mem _ hy)
theorem idAt_n (a n : Int) (h0 : 0 < n) (h1 : n ≤ 4611686018427387904) : ∃ q : Nat, laws_idAt.f a n = some (q : Int) ∧ (q : Int) < n := by
  unfold laws_idAt.f
  rw [if_neg (by omega)]
  have m0 := Int.tmod_lt_of_pos a h0
  have m1 := Int.lt_tmod_of_pos a h0
  rw [wrap_id (x := Int.tmod a n + n) (by omega) (by omega)]
  have q0 : 0 ≤ Int.tmod (Int.tmod a n + n) n := Int.tmod_nonneg _ (by omega)
  have q1 : Int.tmod (Int.tmod a n + n) n < n := Int.tmod_lt_of_pos _ h0
  obtain ⟨q, hq⟩ := Int.eq_ofNat_of_zero_le q0
  exact ⟨q, by rw [hq], by omega⟩
theorem bd_of {α β : Type} {x : Option α} {a : α} {f : α → Option β} {r : Option β} (h : x = some a) (h2 : f a = r) : x.bind f = r := by subst h; exact h2
theorem mn_take (n : Nat) : 0 ≤ mn (n : Int) 1000 ∧ mn (n : Int) 1000 ≤ (n : Int) ∧ (mn (n : Int) 1000).toNat ≤ 1000 := by unfold mn; split <;> omega
theorem itoa_f (n : Nat) (h : n < 9223372036854775808) : strconv_Itoa.f (n : Int) = some (bs (Lib.decDigits n)) := by
  unfold strconv_Itoa.f
  rw [if_pos (by omega), Dm.itoa_nat]
theorem rdO {α : Type} {x : α} (l : List α) (i : Nat) (h : i < l.length) : rdOf x l (i : Int) = l[i] := by
  unfold rdOf
  rw [Int.toNat_natCast, List.getD_eq_getElem?_getD, List.getElem?_eq_getElem h]; rfl
/-! ### the hash -/
theorem hash_f (l : List Int) (h : ∀ x ∈ l, (Lit.int .u8 x).wf = true) : laws_lgHash.f l = some (bs (Dm.lgText l 16), decide (((Dm.ones16 (Dm.lgBits l 16) : Nat) : Int) ≥ 8)) := by
  unfold laws_lgHash.f spec_LgHash.f
  rw [if_pos (fun x hx => by
    have := h x hx
    simp [Lit.wf, IntKind.min, IntKind.max, IntKind.bits, IntKind.signed] at this
    omega)]
  rfl
/-! ### the whole name -/
theorem sym_loop (ws : List (List UInt8)) (h : List UInt8) (hh : h.length = 16) :
    ∀ (d i : Nat) (k : Nat) (t : List UInt8), i + d = ws.length → d < k → ws.length ≤ 1000000 → t.length + (Dm.namesW (ws.drop i)).length ≤ 17592186044416 → (∀ w ∈ ws, w.length ≤ 17592186044416) →
      spec_LgSymbol.l0 k (bs h) (bs t) (ws.map bs) ((ws.map bs).length : Int) (i : Int) = some (bs (t ++ (Dm.namesW (ws.drop i) ++ Dm.lgTail h))) := by
  intro d
  induction d with
  | zero =>
    intro i k t hi hk hm hl hw
    obtain ⟨k, rfl⟩ : ∃ m, k = m + 1 := ⟨k - 1, by omega⟩
    simp only [spec_LgSymbol.l0]
    rw [if_neg (by rw [List.length_map]; omega), List.drop_of_length_le (by omega)]
    rw [show (⟨#[49, 55, 104]⟩ : ByteArray) = bs [49, 55, 104] from rfl, show (⟨#[69]⟩ : ByteArray) = bs [69] from rfl]
    simp only [app]
    rw [if_pos (by rw [bs_size]; omega), if_pos (by rw [bs_size, bs_size, List.length_append]; simp; omega), if_pos (by rw [bs_size, List.length_append, List.length_append]; simp; omega)]
    unfold Dm.lgTail Dm.namesW
    simp
  | succ d ih =>
    intro i k t hi hk hm hl hw
    obtain ⟨k, rfl⟩ : ∃ m, k = m + 1 := ⟨k - 1, by omega⟩
    have hlt : i < ws.length := by omega
    have hw1 := hw ws[i] (List.getElem_mem hlt)
    simp only [spec_LgSymbol.l0]
    rw [if_pos (by rw [List.length_map]; omega), if_pos (by omega), if_pos (by rw [List.length_map]; omega), rdO _ i (by rw [List.length_map]; omega), List.getElem_map, wrap_id (x := (i : Int) + 1) (by omega) (by omega)]
    rw [List.drop_eq_getElem_cons hlt] at hl ⊢
    have hdl := Dm.digits_len ws[i].length
    simp only [Dm.namesW, List.length_append] at hl
    rw [bs_size]
    refine bd_of (itoa_f ws[i].length (by omega)) ?_
    simp only [app]
    rw [if_pos (by rw [bs_size]; omega), if_pos (by rw [bs_size, bs_size, List.length_append]; omega)]
    have := ih (i + 1) k (t ++ (Lib.decDigits ws[i].length ++ ws[i])) (by omega) (by omega) hm (by rw [List.length_append, List.length_append]; omega) hw
    rw [show ((i : Int) + 1) = ((i + 1 : Nat) : Int) by omega, this]
    simp only [Dm.namesW, List.append_assoc]
theorem sym_f (ws : List (List UInt8)) (h : List UInt8) (hh : h.length = 16) (k : Nat) (hk : ws.length < k) (hm : ws.length ≤ 1000000) (hl : (Dm.namesW ws).length ≤ 17592186044000) (hw : ∀ w ∈ ws, w.length ≤ 17592186044416) :
    spec_LgSymbol.f k (ws.map bs) (bs h) = some (bs ([95, 90, 78] ++ (Dm.namesW ws ++ Dm.lgTail h))) :=
  sym_loop ws h hh ws.length 0 k [95, 90, 78] (by omega) hk hm (by simp; omega) hw
/-! ### what is told of it -/
theorem cut0 (t : List UInt8) : Dm.cutMx 0 t = t := by unfold Dm.cutMx; rw [if_neg (by omega)]
theorem old_f (n : List UInt8) (t : Dm.LR) (o0 o1 o2 o3 o4 o5 o6 : Bool) (o7 : Int) (h7 : 0 ≤ o7 ∧ o7 ≤ 30) (hn : 20 ≤ n.length) (hl : n.length ≤ 35184372088000) (h : Dm.old (mxOf o7) n = t) :
    impl_Old.f (bs ([95, 90, 78] ++ n)) o0 o1 o2 o3 o4 o5 o6 o7 = ansOld t := by
  unfold impl_Old.f
  rw [if_pos ⟨by rw [bs_size]; simp; omega, by rw [bs_size]; simp; omega, h7.1, h7.2⟩, bs_dl]
  show ansOld (Dm.old (mxOf o7) n) = _
  rw [h]
theorem told_f (ws : List (List UInt8)) (l : List Int) (t : List UInt8) (k : Nat) (hk : ws.length < k) (hm : ws.length ≤ 1000000) (hl : (Dm.namesW ws).length ≤ 17592186044000) (hok : ∀ w ∈ ws, Dm.LgOk w)
    (h8 : ((Dm.ones16 (Dm.lgBits l 16) : Nat) : Int) ≥ 8) (ht : Dm.joinT [] ws = t) : laws_lgTold.f k (ws.map bs) (bs (Dm.lgText l 16)) (bs t) = some true := by
  unfold laws_lgTold.f
  have h16 := Dm.lgText_len l 16
  refine bd_of (sym_f ws _ h16 k hk hm hl (fun w hw => by have := (hok w hw).ln; omega)) ?_
  refine bd_of ((old_f (Dm.namesW ws ++ Dm.lgTail (Dm.lgText l 16)) (.told t) false false false false false false false 0 (by omega) ?_ ?_ ?_).trans rfl) ?_
  · unfold Dm.lgTail; simp [h16]
  · unfold Dm.lgTail; simp [h16]; omega
  · show Dm.old 0 _ = _
    rw [Dm.old_read 0 ws _ _ h16 (Dm.seen_text l 16) (by omega) hok, cut0, ht]
  · rw [if_pos rfl]; simp
/-! ### plain names -/
theorem plain_not (c : UInt8) (h : Dm.isPlain c = true) : c ≠ 36 ∧ c ≠ 46 := by
  constructor
  · rintro rfl; exact absurd h (by decide)
  · rintro rfl; exact absurd h (by decide)
theorem plain_name (c : UInt8) (r : List UInt8) (h : (c :: r).all Dm.isPlain = true) (h5 : c ≠ 95) : Dm.nametext (c :: r) = c :: r := by
  rw [Dm.nametext_plain _ (by simp [h5])]
  have := Dm.tl_text (c :: r) [] (fun x hx => plain_not x (List.all_eq_true.1 h x hx))
  rw [List.append_nil] at this
  rw [this, Dm.tl_nil, List.append_nil]
theorem plain_ok (c : UInt8) (r : List UInt8) (hl : (c :: r).length ≤ 1000) (hd : Dm.isDig c = false) : Dm.LgOk (c :: r) := ⟨by simp, by omega, fun x t e => by injection e with e _; rw [← e]; exact hd⟩
theorem names_len (ws : List (List UInt8)) (B : Nat) (h : ∀ w ∈ ws, w.length ≤ B) : (Dm.namesW ws).length ≤ ws.length * (2 * B + 1) := by
  induction ws with
  | nil => simp [Dm.namesW]
  | cons w ws ih =>
    have h1 := h w (by simp)
    have h2 := ih fun x hx => h x (by simp [hx])
    have h3 := Dm.digits_len w.length
    simp only [Dm.namesW, List.length_append, List.length_cons]
    rw [Nat.add_mul]
    omega

theorem escs_f : spec_LgEscapes.f = some (Dm.escTab.map fun x => ⟨bs x.1, bs x.2⟩) := rfl
theorem rdE (i : Nat) (h : i < Dm.escTab.length) : rd_T56 (Dm.escTab.map fun x => ⟨bs x.1, bs x.2⟩) (i : Int) = ⟨bs Dm.escTab[i].1, bs Dm.escTab[i].2⟩ := by
  unfold rd_T56
  rw [Int.toNat_natCast, List.getD_eq_getElem?_getD, List.getElem?_map, List.getElem?_eq_getElem h]; rfl
theorem esc_len : ∀ x ∈ Dm.escTab, x.1.length ≤ 5 ∧ x.2.length ≤ 2 := by decide
theorem esc_head : ∀ i : Fin 18, (Dm.escTab.getD i.val ([], [])).1.head? = some 36 ∧ (Dm.escTab.getD i.val ([], [])).2 ≠ [] := by decide
theorem first_name (i : Nat) (hi : i < 18) (c : UInt8) (r : List UInt8) (hp : (c :: r).all Dm.isPlain = true) (h : i < Dm.escTab.length) :
    Dm.nametext (95 :: (Dm.escTab[i].1 ++ c :: r)) = Dm.escTab[i].2 ++ c :: r := by
  have he := esc_head ⟨i, hi⟩
  simp only [List.getD_eq_getElem?_getD, List.getElem?_eq_getElem h, Option.getD_some] at he
  rw [Dm.nametext_bar _ (by
    cases hx : Dm.escTab[i].1 with
    | nil => rw [hx] at he; cases he.1
    | cons y t => rw [hx] at he; exact he.1), Dm.tl_esc _ (List.getElem_mem h)]
  have := Dm.tl_text (c :: r) [] (fun x hx => plain_not x (List.all_eq_true.1 hp x hx))
  rw [List.append_nil] at this
  rw [this, Dm.tl_nil, List.append_nil]
theorem first_told (i : Nat) (hi : i < 18) (c : UInt8) (r : List UInt8) (hl : (c :: r).length ≤ 1000) (hp : (c :: r).all Dm.isPlain = true) (h : i < Dm.escTab.length) (l : List Int) (k : Nat) (hk : 1000 < k) (h8 : ((Dm.ones16 (Dm.lgBits l 16) : Nat) : Int) ≥ 8) :
    laws_lgTold.f k [bs (95 :: (Dm.escTab[i].1 ++ c :: r))] (bs (Dm.lgText l 16)) (bs (Dm.escTab[i].2 ++ c :: r)) = some true := by
  have h1 := (esc_len _ (List.getElem_mem h)).1
  have hlen : (95 :: (Dm.escTab[i].1 ++ c :: r)).length ≤ 1006 := by rw [List.length_cons, List.length_append]; omega
  refine told_f [95 :: (Dm.escTab[i].1 ++ c :: r)] l (Dm.escTab[i].2 ++ c :: r) k (by simp; omega) (by simp) ?_ ?_ h8 ?_
  · have := names_len [95 :: (Dm.escTab[i].1 ++ c :: r)] 1006 (by intro w hw; rw [List.mem_singleton] at hw; subst hw; exact hlen)
    rw [List.length_singleton] at this
    omega
  · intro w hw; rw [List.mem_singleton] at hw; subst hw
    exact ⟨by simp, by omega, fun x t e => by injection e with e _; rw [← e]; decide⟩
  · show Dm.joinT ((if ([] : List UInt8) = [] then [] else [] ++ [58, 58]) ++ Dm.nametext (95 :: (Dm.escTab[i].1 ++ c :: r))) [] = _
    rw [if_pos rfl, List.nil_append, first_name i hi c r hp h]
    rfl
theorem first_sizes (i : Nat) (w : List UInt8) (hl : w.length ≤ 1000) (h : i < Dm.escTab.length) : 1 + (bs Dm.escTab[i].1).size ≤ 9223372036854775807 ∧ (bs (95 :: Dm.escTab[i].1)).size + (bs w).size ≤ 9223372036854775807 ∧ (bs Dm.escTab[i].2).size + (bs w).size ≤ 9223372036854775807 := by
  obtain ⟨h1, h2⟩ := esc_len _ (List.getElem_mem h)
  refine ⟨?_, ?_, ?_⟩
  · rw [bs_size]; omega
  · rw [bs_size, bs_size, List.length_cons]; omega
  · rw [bs_size, bs_size]; omega

theorem FnLegacyFirst : laws_FnLegacyFirst.Pure := by
  intro a0 l1 l2 ha0 hm1 _ hw1 hm2 _ hw2
  have hbad : laws_FnLegacyFirst.j0 (2000 + 1) a0 l1 l2 true = some true := by simp only [laws_FnLegacyFirst.j0, if_true]
  refine ⟨2000 + 1, ?_⟩
  unfold laws_FnLegacyFirst.f
  by_cases hz : (l1.length : Int) > 2147483647
  · rw [if_pos hz]; exact hbad
  · rw [if_neg hz]
    cases hz2 : decide ((l2.length : Int) > 2147483647) with
    | true => exact hbad
    | false =>
      have hmn := mn_take l1.length
      simp only [laws_FnLegacyFirst.j0]
      rw [if_neg (by decide), if_pos hmn.1, if_pos hmn.2.1]
      obtain ⟨c, r, ea, hal, hap, hd, h5⟩ := word_f (l1.take (mn (l1.length : Int) 1000).toNat) (fun x h => hw1 x (List.mem_of_mem_take h)) (by rw [List.length_take]; omega) 2000 (by omega)
      obtain ⟨q, eq, hq⟩ := idAt_n a0 18 (by omega) (by omega)
      have hq18 : q < 18 := by omega
      have hq19 : q < Dm.escTab.length := by show q < 19; omega
      refine bd_of ea (bd_of escs_f (bd_of escs_f (bd_of (a := (q : Int)) ?_ ?_)))
      · rw [List.length_map, show (Dm.escTab.length : Int) = 19 from rfl, wrap_id (x := (19 : Int) - 1) (by omega) (by omega)]; exact eq
      · rw [if_pos (by omega), if_pos (by rw [List.length_map]; omega), rdE q hq19]
        refine bd_of (hash_f l2 hw2) ?_
        by_cases h8 : ((Dm.ones16 (Dm.lgBits l2 16) : Nat) : Int) ≥ 8
        · rw [if_pos (by simpa using h8)]
          obtain ⟨s1, s2, s3⟩ := first_sizes q (c :: r) hal hq19
          rw [show (⟨#[95]⟩ : ByteArray) = bs [95] from rfl]
          simp only [app, List.singleton_append, List.cons_append, List.nil_append]
          rw [if_pos s1, if_pos s2, if_pos s3]
          refine bd_of (a := true) ?_ rfl
          exact first_told q hq18 c r hal hap hq19 l2 2000 (by omega) h8
        · rw [if_neg (by simpa using h8)]
end Go.Proofs.YtpmlnhddkbgefaaDoor.Pure
