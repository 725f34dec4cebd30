/- FnLegacyOptions, of numbers and lists alone: options other than MaxLength and Verbose change nothing. -/
import Derived.Test.YtpmlnhddkbgefaaDoorPFnLegacyOptionsx3
import Derived.Test.YtpmlnhddkbgefaaDoorM6
import Derived.Test.YtpmlnhddkbgefaaDoorN1
import Derived.Test.YtpmlnhddkbgefaaDoorWMore
import Derived.Laws.Bits64
namespace Go.Proofs.YtpmlnhddkbgefaaDoor.Pure
set_option linter.unusedVariables false
set_option linter.unusedSimpArgs false
open Go.RowKit Go.Proofs.YtpmlnhddkbgefaaDoor.PFnLegacyOptions Go.Proofs.YtpmlnhddkbgefaaDoorW.PrintWords Go.Proofs.YtpmlnhddkbgefaaDoorW.PrintLast

theorem getD_mem' {l : List UInt8} {k : Nat} (h : k < l.length) : l.getD k 0 ∈ l := by
  rw [List.getD_eq_getElem?_getD, List.getElem?_eq_getElem h]; exact List.getElem_mem h
theorem app (l m : List UInt8) : bs l ++ bs m = bs (l ++ m) := by
  apply ByteArray.ext
  simp [bs, ByteArray.data_append]
theorem bind_of {α β : Type} {x : Option α} {a : α} {f : α → Option β} {r : Option β} (h : x = some a) (h2 : f a = r) : x.bind f = r := by subst h; exact h2
theorem u8_range {l : List Int} (h : ∀ x ∈ l, (Lit.int .u8 x).wf = true) (i : Nat) : 0 ≤ rd l (i : Int) ∧ rd l (i : Int) ≤ 255 := by
  unfold rd
  rw [Int.toNat_natCast, List.getD_eq_getElem?_getD]
  cases hi : l[i]? with
  | none => simp
  | some x =>
    have := h x (List.mem_of_getElem? hi)
    simp [Lit.wf, IntKind.min, IntKind.max, IntKind.bits, IntKind.signed] at this
    simp; omega
theorem strOf_list (a : List UInt8) : strOfNums (a.map (fun c => (c.toNat : Int))) = bs a := by
  unfold strOfNums bs
  congr 2
  rw [List.map_map, show ((fun n : Int => UInt8.ofNat n.toNat) ∘ fun c : UInt8 => (c.toNat : Int)) = id from by funext c; simp]
  simp
def L63 : List UInt8 := [97, 98, 99, 100, 101, 102, 103, 104, 105, 106, 107, 108, 109, 110, 111, 112, 113, 114, 115, 116, 117, 118, 119, 120, 121, 122, 65, 66, 67, 68, 69, 70, 71, 72, 73, 74, 75, 76, 77, 78, 79, 80, 81, 82, 83, 84, 85, 86, 87, 88, 89, 90, 48, 49, 50, 51, 52, 53, 54, 55, 56, 57, 95]
theorem l63_at (q : Int) (h0 : 0 ≤ q) (h1 : q < 63) : bt (⟨#[97, 98, 99, 100, 101, 102, 103, 104, 105, 106, 107, 108, 109, 110, 111, 112, 113, 114, 115, 116, 117, 118, 119, 120, 121, 122, 65, 66, 67, 68, 69, 70, 71, 72, 73, 74, 75, 76, 77, 78, 79, 80, 81, 82, 83, 84, 85, 86, 87, 88, 89, 90, 48, 49, 50, 51, 52, 53, 54, 55, 56, 57, 95]⟩ : ByteArray) q = ((L63.getD q.toNat 0).toNat : Int) := by
  have hq : q.toNat < L63.length := by show q.toNat < 63; omega
  have := bt_bs L63 q.toNat hq
  rw [Int.toNat_of_nonneg h0] at this
  refine (show bt (bs L63) q = _ from this).trans ?_
  rw [List.getD_eq_getElem?_getD, List.getElem?_eq_getElem hq]; rfl
theorem l63_plain : ∀ c ∈ L63, Dm.isPlain c = true := by decide
theorem l63_letter : ∀ k : Fin 52, Dm.isDig (L63.getD k.val 0) = false ∧ L63.getD k.val 0 ≠ 95 := by decide +kernel
theorem word_loop (xs : List Int) (hx : ∀ x ∈ xs, (Lit.int .u8 x).wf = true) (hm : xs.length ≤ 1000) (hn : 0 < xs.length) :
    ∀ (d i : Nat) (p : List UInt8) (k : Nat), i + d = xs.length → d < k → p.length = i → (∀ c ∈ p, Dm.isPlain c = true) →
      ∃ (a : List UInt8) (c : UInt8), spec_AnWord.l0 k xs (p.map (fun c => (c.toNat : Int)) ++ List.replicate d 0) xs (xs.length : Int) (i : Int) = some (bs (a.set 0 c)) ∧ a.length = xs.length ∧ (∀ c ∈ a, Dm.isPlain c = true) ∧ Dm.isPlain c = true ∧ Dm.isDig c = false ∧ c ≠ 95 := by
  intro d
  induction d with
  | zero =>
    intro i p k hi hk hp hl
    obtain ⟨k, rfl⟩ : ∃ m, k = m + 1 := ⟨k - 1, by omega⟩
    simp only [spec_AnWord.l0]
    obtain ⟨r0, r1⟩ := u8_range hx 0
    have r0 : 0 ≤ rd xs 0 := r0
    have r1 : rd xs 0 ≤ 255 := r1
    rw [wrap_id (x := rd xs 0) (by omega) (by omega)]
    have hm0 : 0 ≤ Int.tmod (rd xs 0) 52 := Int.tmod_nonneg _ r0
    have hm1 : Int.tmod (rd xs 0) 52 < 52 := Int.tmod_lt_of_pos _ (by omega)
    generalize Int.tmod (rd xs 0) 52 = q at hm0 hm1 ⊢
    rw [if_neg (by omega), if_pos (by omega), if_pos hm0, if_pos (by omega), if_pos (by simp; omega), l63_at q hm0 (by omega)]
    have hlet := l63_letter ⟨q.toNat, by omega⟩
    simp only at hlet
    have hc := l63_plain _ (getD_mem' (show q.toNat < L63.length by show q.toNat < 63; omega))
    refine ⟨p, L63.getD q.toNat 0, ?_, by omega, hl, hc, hlet.1, hlet.2⟩
    rw [List.replicate_zero, List.append_nil]
    generalize L63.getD q.toNat 0 = c
    rw [← strOf_list, List.map_set]; rfl
  | succ d ih =>
    intro i p k hi hk hp hl
    obtain ⟨k, rfl⟩ : ∃ m, k = m + 1 := ⟨k - 1, by omega⟩
    obtain ⟨r0, r1⟩ := u8_range hx i
    simp only [spec_AnWord.l0]
    rw [wrap_id (x := rd xs (i : Int)) (by omega) (by omega)]
    have hm0 : 0 ≤ Int.tmod (rd xs (i : Int)) 62 := Int.tmod_nonneg _ r0
    have hm1 : Int.tmod (rd xs (i : Int)) 62 < 62 := Int.tmod_lt_of_pos _ (by omega)
    generalize Int.tmod (rd xs (i : Int)) 62 = q at hm0 hm1 ⊢
    rw [if_pos (by omega), if_pos (by omega), if_pos (by omega), if_pos hm0, if_pos (by omega), if_pos (by simp; omega), wrap_id (x := (i : Int) + 1) (by omega) (by omega), l63_at q hm0 (by omega)]
    have hc := l63_plain _ (getD_mem' (show q.toNat < L63.length by show q.toNat < 63; omega))
    generalize L63.getD q.toNat 0 = c at hc
    have hset : (p.map (fun c : UInt8 => (c.toNat : Int)) ++ List.replicate (d + 1) 0).set ((i : Int)).toNat (c.toNat : Int) = (p ++ [c]).map (fun c : UInt8 => (c.toNat : Int)) ++ List.replicate d 0 := by
      rw [Int.toNat_natCast, List.set_append_right _ _ (by rw [List.length_map]; omega)]
      simp [hp, List.replicate_succ]
    rw [hset]
    exact ih (i + 1) (p ++ [c]) k (by omega) (by omega) (by simp; omega) (by
      intro x hx2
      rcases List.mem_append.1 hx2 with hx2 | hx2
      · exact hl x hx2
      · obtain rfl := List.mem_singleton.1 hx2; exact hc)
theorem word_f (xs : List Int) (hx : ∀ x ∈ xs, (Lit.int .u8 x).wf = true) (hm : xs.length ≤ 1000) (k : Nat) (hk : 1000 < k) :
    ∃ (c : UInt8) (r : List UInt8), spec_AnWord.f k xs = some (bs (c :: r)) ∧ (c :: r).length ≤ 1000 ∧ (c :: r).all Dm.isPlain = true ∧ Dm.isDig c = false ∧ c ≠ 95 := by
  unfold spec_AnWord.f
  by_cases h0 : (xs.length : Int) = 0
  · rw [if_pos h0]; exact ⟨97, [], rfl, by simp, by decide, by decide, by decide⟩
  · rw [if_neg h0, if_pos (by omega), if_pos (by omega)]
    obtain ⟨a, c, e, h1, h2, h3, h4, h5⟩ := word_loop xs hx hm (by omega) xs.length 0 [] k (by omega) (by omega) rfl (by simp)
    cases a with
    | nil => simp at h1; omega
    | cons x a =>
      refine ⟨c, a, by simpa using e, by rw [List.length_cons] at h1 ⊢; omega, ?_, h4, h5⟩
      rw [List.all_cons, h3, Bool.true_and]
      exact List.all_eq_true.2 fun y hy => h2 y (List.mem_cons_of_mem _ hy)
theorem idAt_n (a n : Int) (h0 : 0 < n) (h1 : n ≤ 4611686018427387904) : ∃ q : Nat, laws_idAt.f a n = some (q : Int) ∧ (q : Int) < n := by
  unfold laws_idAt.f
  rw [if_neg (by omega)]
  have m0 := Int.tmod_lt_of_pos a h0
  have m1 := Int.lt_tmod_of_pos a h0
  rw [wrap_id (x := Int.tmod a n + n) (by omega) (by omega)]
  have q0 : 0 ≤ Int.tmod (Int.tmod a n + n) n := Int.tmod_nonneg _ (by omega)
  have q1 : Int.tmod (Int.tmod a n + n) n < n := Int.tmod_lt_of_pos _ h0
  obtain ⟨q, hq⟩ := Int.eq_ofNat_of_zero_le q0
  exact ⟨q, by rw [hq], by omega⟩
theorem bd_of {α β : Type} {x : Option α} {a : α} {f : α → Option β} {r : Option β} (h : x = some a) (h2 : f a = r) : x.bind f = r := by subst h; exact h2
theorem mn_take (n : Nat) : 0 ≤ mn (n : Int) 1000 ∧ mn (n : Int) 1000 ≤ (n : Int) ∧ (mn (n : Int) 1000).toNat ≤ 1000 := by unfold mn; split <;> omega
theorem itoa_f (n : Nat) (h : n < 9223372036854775808) : strconv_Itoa.f (n : Int) = some (bs (Lib.decDigits n)) := by
  unfold strconv_Itoa.f
  rw [if_pos (by omega), Dm.itoa_nat]
theorem rdO {α : Type} {x : α} (l : List α) (i : Nat) (h : i < l.length) : rdOf x l (i : Int) = l[i] := by
  unfold rdOf
  rw [Int.toNat_natCast, List.getD_eq_getElem?_getD, List.getElem?_eq_getElem h]; rfl
/-! ### the hash -/
theorem hash_f (l : List Int) (h : ∀ x ∈ l, (Lit.int .u8 x).wf = true) : laws_lgHash.f l = some (bs (Dm.lgText l 16), decide (((Dm.ones16 (Dm.lgBits l 16) : Nat) : Int) ≥ 8)) := by
  unfold laws_lgHash.f spec_LgHash.f
  rw [if_pos (fun x hx => by
    have := h x hx
    simp [Lit.wf, IntKind.min, IntKind.max, IntKind.bits, IntKind.signed] at this
    omega)]
  rfl
/-! ### the whole name -/
theorem sym_loop (ws : List (List UInt8)) (h : List UInt8) (hh : h.length = 16) :
    ∀ (d i : Nat) (k : Nat) (t : List UInt8), i + d = ws.length → d < k → ws.length ≤ 1000000 → t.length + (Dm.namesW (ws.drop i)).length ≤ 17592186044416 → (∀ w ∈ ws, w.length ≤ 17592186044416) →
      spec_LgSymbol.l0 k (bs h) (bs t) (ws.map bs) ((ws.map bs).length : Int) (i : Int) = some (bs (t ++ (Dm.namesW (ws.drop i) ++ Dm.lgTail h))) := by
  intro d
  induction d with
  | zero =>
    intro i k t hi hk hm hl hw
    obtain ⟨k, rfl⟩ : ∃ m, k = m + 1 := ⟨k - 1, by omega⟩
    simp only [spec_LgSymbol.l0]
    rw [if_neg (by rw [List.length_map]; omega), List.drop_of_length_le (by omega)]
    rw [show (⟨#[49, 55, 104]⟩ : ByteArray) = bs [49, 55, 104] from rfl, show (⟨#[69]⟩ : ByteArray) = bs [69] from rfl]
    simp only [app]
    rw [if_pos (by rw [bs_size]; omega), if_pos (by rw [bs_size, bs_size, List.length_append]; simp; omega), if_pos (by rw [bs_size, List.length_append, List.length_append]; simp; omega)]
    unfold Dm.lgTail Dm.namesW
    simp
  | succ d ih =>
    intro i k t hi hk hm hl hw
    obtain ⟨k, rfl⟩ : ∃ m, k = m + 1 := ⟨k - 1, by omega⟩
    have hlt : i < ws.length := by omega
    have hw1 := hw ws[i] (List.getElem_mem hlt)
    simp only [spec_LgSymbol.l0]
    rw [if_pos (by rw [List.length_map]; omega), if_pos (by omega), if_pos (by rw [List.length_map]; omega), rdO _ i (by rw [List.length_map]; omega), List.getElem_map, wrap_id (x := (i : Int) + 1) (by omega) (by omega)]
    rw [List.drop_eq_getElem_cons hlt] at hl ⊢
    have hdl := Dm.digits_len ws[i].length
    simp only [Dm.namesW, List.length_append] at hl
    rw [bs_size]
    refine bd_of (itoa_f ws[i].length (by omega)) ?_
    simp only [app]
    rw [if_pos (by rw [bs_size]; omega), if_pos (by rw [bs_size, bs_size, List.length_append]; omega)]
    have := ih (i + 1) k (t ++ (Lib.decDigits ws[i].length ++ ws[i])) (by omega) (by omega) hm (by rw [List.length_append, List.length_append]; omega) hw
    rw [show ((i : Int) + 1) = ((i + 1 : Nat) : Int) by omega, this]
    simp only [Dm.namesW, List.append_assoc]
theorem sym_f (ws : List (List UInt8)) (h : List UInt8) (hh : h.length = 16) (k : Nat) (hk : ws.length < k) (hm : ws.length ≤ 1000000) (hl : (Dm.namesW ws).length ≤ 17592186044000) (hw : ∀ w ∈ ws, w.length ≤ 17592186044416) :
    spec_LgSymbol.f k (ws.map bs) (bs h) = some (bs ([95, 90, 78] ++ (Dm.namesW ws ++ Dm.lgTail h))) :=
  sym_loop ws h hh ws.length 0 k [95, 90, 78] (by omega) hk hm (by simp; omega) hw
/-! ### what is told of it -/
theorem cut0 (t : List UInt8) : Dm.cutMx 0 t = t := by unfold Dm.cutMx; rw [if_neg (by omega)]
theorem old_f (n : List UInt8) (t : Dm.LR) (o0 o1 o2 o3 o4 o5 o6 : Bool) (o7 : Int) (h7 : 0 ≤ o7 ∧ o7 ≤ 30) (hn : 20 ≤ n.length) (hl : n.length ≤ 35184372088000) (h : Dm.old (mxOf o7) n = t) :
    impl_Old.f (bs ([95, 90, 78] ++ n)) o0 o1 o2 o3 o4 o5 o6 o7 = ansOld t := by
  unfold impl_Old.f
  rw [if_pos ⟨by rw [bs_size]; simp; omega, by rw [bs_size]; simp; omega, h7.1, h7.2⟩, bs_dl]
  show ansOld (Dm.old (mxOf o7) n) = _
  rw [h]
theorem plain_not (c : UInt8) (h : Dm.isPlain c = true) : c ≠ 36 ∧ c ≠ 46 := by
  constructor
  · rintro rfl; exact absurd h (by decide)
  · rintro rfl; exact absurd h (by decide)
theorem plain_name (c : UInt8) (r : List UInt8) (h : (c :: r).all Dm.isPlain = true) (h5 : c ≠ 95) : Dm.nametext (c :: r) = c :: r := by
  rw [Dm.nametext_plain _ (by simp [h5])]
  have := Dm.tl_text (c :: r) [] (fun x hx => plain_not x (List.all_eq_true.1 h x hx))
  rw [List.append_nil] at this
  rw [this, Dm.tl_nil, List.append_nil]
theorem plain_ok (c : UInt8) (r : List UInt8) (hl : (c :: r).length ≤ 1000) (hd : Dm.isDig c = false) : Dm.LgOk (c :: r) := ⟨by simp, by omega, fun x t e => by injection e with e _; rw [← e]; exact hd⟩
theorem names_len (ws : List (List UInt8)) (B : Nat) (h : ∀ w ∈ ws, w.length ≤ B) : (Dm.namesW ws).length ≤ ws.length * (2 * B + 1) := by
  induction ws with
  | nil => simp [Dm.namesW]
  | cons w ws ih =>
    have h1 := h w (by simp)
    have h2 := ih fun x hx => h x (by simp [hx])
    have h3 := Dm.digits_len w.length
    simp only [Dm.namesW, List.length_append, List.length_cons]
    rw [Nat.add_mul]
    omega
/-! ### words of a path -/
theorem path_loop (ws : List (List UInt8)) (hB : ∀ w ∈ ws, w.length ≤ 100000) (hm : ws.length ≤ 1000) :
    ∀ (d i k : Nat) (t : List UInt8), i + d = ws.length → 0 < i → d < k → t.length ≤ i * 100002 →
      spec_LgPath.l0 k (bs t) (ws.map bs) ((ws.map bs).length : Int) (i : Int) = some (bs (t ++ (ws.drop i).flatMap fun t => 58 :: 58 :: t)) := by
  intro d
  induction d with
  | zero =>
    intro i k t hi h0 hk ht
    obtain ⟨k, rfl⟩ : ∃ m, k = m + 1 := ⟨k - 1, by omega⟩
    simp only [spec_LgPath.l0]
    rw [if_neg (by rw [List.length_map]; omega), List.drop_of_length_le (by omega)]
    simp
  | succ d ih =>
    intro i k t hi h0 hk ht
    obtain ⟨k, rfl⟩ : ∃ m, k = m + 1 := ⟨k - 1, by omega⟩
    have hlt : i < ws.length := by omega
    have hw1 := hB ws[i] (List.getElem_mem hlt)
    simp only [spec_LgPath.l0]
    rw [if_pos (by rw [List.length_map]; omega), if_pos (by omega), if_pos (by rw [List.length_map]; omega), if_pos (by omega), rdO _ i (by rw [List.length_map]; omega), List.getElem_map, wrap_id (x := (i : Int) + 1) (by omega) (by omega)]
    rw [show (⟨#[58, 58]⟩ : ByteArray) = bs [58, 58] from rfl]
    simp only [app]
    rw [if_pos (by rw [bs_size]; omega), if_pos (by rw [bs_size, bs_size, List.length_append]; simp; omega)]
    have := ih (i + 1) k (t ++ [58, 58] ++ ws[i]) (by omega) (by omega) (by omega) (by rw [List.length_append, List.length_append, Nat.add_mul]; simp; omega)
    rw [show ((i : Int) + 1) = ((i + 1 : Nat) : Int) by omega, this, List.drop_eq_getElem_cons hlt]
    simp only [List.flatMap_cons, List.append_assoc, List.cons_append, List.nil_append]
theorem path_f (ws : List (List UInt8)) (hB : ∀ w ∈ ws, w.length ≤ 100000) (hm : ws.length ≤ 1000) (k : Nat) (hk : 1001 < k) : spec_LgPath.f k (ws.map bs) = some (bs (Dm.pathT ws)) := by
  unfold spec_LgPath.f
  obtain ⟨k, rfl⟩ : ∃ m, k = m + 1 := ⟨k - 1, by omega⟩
  cases ws with
  | nil => simp only [spec_LgPath.l0]; rw [if_neg (by simp)]; rfl
  | cons w ws =>
    have hw1 := hB w (by simp)
    simp only [spec_LgPath.l0]
    rw [if_pos (by simp <;> omega), if_pos (by omega), if_pos (by simp <;> omega), if_neg (by omega)]
    have e : rdOf ByteArray.empty ((w :: ws).map bs) 0 = bs w := rdO ((w :: ws).map bs) 0 (by simp)
    rw [e, show (⟨#[]⟩ : ByteArray) = bs [] from rfl]
    simp only [app]
    rw [if_pos (by rw [bs_size, bs_size]; simp; omega), wrap_id (x := (0 : Int) + 1) (by omega) (by omega)]
    have := path_loop (w :: ws) hB hm ws.length 1 k w (by simp; omega) (by omega) (by simp at hm; omega) (by omega)
    rw [show ((0 : Int) + 1) = ((1 : Nat) : Int) from rfl, List.nil_append, this]
    simp [Dm.pathT]
theorem rdL (rows : List (List Int)) (i : Nat) (h : i < rows.length) : rd_L1 rows (i : Int) = rows[i] := by
  unfold rd_L1
  rw [Int.toNat_natCast, List.getD_eq_getElem?_getD, List.getElem?_eq_getElem h]; rfl
theorem fits_loop (rows : List (List Int)) (hm : rows.length ≤ 2147483647) : ∀ (d i k : Nat), i + d = rows.length → d < k → (∀ r ∈ rows.take i, r.length ≤ 2147483647) →
    ∃ b, laws_zzFits3.l0 k rows (rows.length : Int) (i : Int) = some b ∧ (b = true → ∀ r ∈ rows, r.length ≤ 2147483647) := by
  intro d
  induction d with
  | zero =>
    intro i k hi hk hp
    obtain ⟨k, rfl⟩ : ∃ m, k = m + 1 := ⟨k - 1, by omega⟩
    simp only [laws_zzFits3.l0]
    rw [if_neg (by omega)]
    rw [List.take_of_length_le (by omega)] at hp
    exact ⟨_, rfl, fun _ => hp⟩
  | succ d ih =>
    intro i k hi hk hp
    obtain ⟨k, rfl⟩ : ∃ m, k = m + 1 := ⟨k - 1, by omega⟩
    have hlt : i < rows.length := by omega
    simp only [laws_zzFits3.l0]
    rw [if_pos (by omega), if_pos (by omega), if_pos (by omega), rdL rows i hlt, wrap_id (x := (i : Int) + 1) (by omega) (by omega)]
    by_cases h : ((rows[i].length : Nat) : Int) > 2147483647
    · rw [if_pos h]; exact ⟨false, rfl, fun h => by cases h⟩
    · rw [if_neg h]
      refine ih (i + 1) k (by omega) (by omega) ?_
      intro r hr
      rw [List.take_succ_eq_append_getElem hlt] at hr
      rcases List.mem_append.1 hr with hr | hr
      · exact hp r hr
      · rw [List.mem_singleton] at hr; subst hr; omega
theorem fits_f (rows : List (List Int)) (k : Nat) (hk : rows.length < k) : ∃ b, laws_zzFits3.f k rows = some b ∧ (b = true → rows.length ≤ 2147483647 ∧ ∀ r ∈ rows, r.length ≤ 2147483647) := by
  unfold laws_zzFits3.f
  by_cases h : (rows.length : Int) > 2147483647
  · rw [if_pos h]; exact ⟨false, rfl, fun h => by cases h⟩
  · rw [if_neg h]
    obtain ⟨b, hb, h2⟩ := fits_loop rows (by omega) rows.length 0 k (by omega) hk (by simp)
    exact ⟨b, hb, fun hb => ⟨by omega, h2 hb⟩⟩
/-! ### pieces -/
/-- A piece as the laws make it: an escape, or one or two letters or digits. -/
def PcG (p : S106) : Prop := (0 ≤ p.f0 ∧ p.f0 < 19 ∧ p.f1 = ⟨#[]⟩) ∨ (p.f0 = -1 ∧ ∃ (c : UInt8) (r : List UInt8), p.f1 = bs (c :: r) ∧ (c :: r).length ≤ 2 ∧ (c :: r).all Dm.isPlain = true ∧ Dm.isDig c = false ∧ c ≠ 95)
theorem escs_f : spec_LgEscapes.f = some (Dm.escTab.map fun x => ⟨bs x.1, bs x.2⟩) := rfl
theorem rdI (xs : List Int) (i : Nat) (h : i < xs.length) : rd xs (i : Int) = xs[i] := by
  unfold rd
  rw [Int.toNat_natCast, List.getD_eq_getElem?_getD, List.getElem?_eq_getElem h]; rfl
theorem u8wf (x : Int) (h0 : 0 ≤ x) (h1 : x < 256) : (Lit.int .u8 x).wf = true := by simp [Lit.wf, IntKind.min, IntKind.max, IntKind.bits, IntKind.signed]; omega
theorem word_f' (xs : List Int) (hx : ∀ x ∈ xs, (Lit.int .u8 x).wf = true) (hm : xs.length ≤ 2) (k : Nat) (hk : 1000 < k) :
    ∃ (c : UInt8) (r : List UInt8), spec_AnWord.f k xs = some (bs (c :: r)) ∧ (c :: r).length ≤ 2 ∧ (c :: r).all Dm.isPlain = true ∧ Dm.isDig c = false ∧ c ≠ 95 := by
  unfold spec_AnWord.f
  by_cases h0 : (xs.length : Int) = 0
  · rw [if_pos h0]; exact ⟨97, [], rfl, by simp, by decide, by decide, by decide⟩
  · rw [if_neg h0, if_pos (by omega), if_pos (by omega)]
    obtain ⟨a, c, e, h1, h2, h3, h4, h5⟩ := word_loop xs hx (by omega) (by omega) xs.length 0 [] k (by omega) (by omega) rfl (by simp)
    cases a with
    | nil => simp at h1; omega
    | cons x a =>
      refine ⟨c, a, by simpa using e, by rw [List.length_cons] at h1 ⊢; omega, ?_, h4, h5⟩
      rw [List.all_cons, h3, Bool.true_and]
      exact List.all_eq_true.2 fun y hy => h2 y (List.mem_cons_of_mem _ hy)
theorem text_f (q m : Nat) (hq : q < 40) (k : Nat) (hk : 1000 < k) : ∃ (c : UInt8) (r : List UInt8), spec_AnWord.f k (([(wrap64 (Int.tdiv (m : Int) 40)) % 256, ((wrap64 (Int.tdiv (m : Int) 40)) / 256) % 256] : List Int).take ((wrap64 (1 + (Int.tmod (q : Int) 2))) : Int).toNat) = some (bs (c :: r)) ∧ (c :: r).length ≤ 2 ∧ (c :: r).all Dm.isPlain = true ∧ Dm.isDig c = false ∧ c ≠ 95 := by
  generalize wrap64 (Int.tdiv (m : Int) 40) = b
  obtain ⟨xs, hxs⟩ : ∃ xs : List Int, xs = ([b % 256, (b / 256) % 256] : List Int).take ((wrap64 (1 + (Int.tmod (q : Int) 2))) : Int).toNat := ⟨_, rfl⟩
  rw [← hxs]
  have hl : xs.length ≤ 2 := by rw [hxs, List.length_take]; simp; omega
  have hw : ∀ x ∈ xs, (Lit.int .u8 x).wf = true := by
    intro x hx
    rw [hxs] at hx
    have := List.mem_of_mem_take hx
    simp only [List.mem_cons, List.not_mem_nil, or_false] at this
    rcases this with rfl | rfl
    · exact u8wf _ (by omega) (by omega)
    · exact u8wf _ (by omega) (by omega)
  obtain ⟨c, r, e, h1, h2, h3, h4⟩ := word_f' xs hw hl k hk
  exact ⟨c, r, e, h1, h2, h3, h4⟩
theorem half_b (q : Nat) : 0 ≤ wrap64 (1 + Int.tmod (q : Int) 2) ∧ wrap64 (1 + Int.tmod (q : Int) 2) ≤ 2 := by
  have t0 : 0 ≤ Int.tmod (q : Int) 2 := Int.tmod_nonneg _ (by omega)
  have t1 := Int.tmod_lt_of_pos (q : Int) (show (0 : Int) < 2 by omega)
  generalize Int.tmod (q : Int) 2 = t at *
  rw [wrap_id (x := 1 + t) (by omega) (by omega)]
  omega
theorem half_l (q : Nat) (a b : Int) : wrap64 (1 + Int.tmod (q : Int) 2) ≤ (([a, b] : List Int).length : Int) := (half_b q).2
theorem pieces_loop (xs : List Int) (hm : xs.length ≤ 2147483647) : ∀ (d i k : Nat) (ps : List S106), i + d = xs.length → d + 1001 < k → ps.length ≤ i → ps.length ≤ 1000 → (∀ p ∈ ps, PcG p) →
    ∃ qs, laws_lgPieces.l0 k ps xs (xs.length : Int) (i : Int) = some qs ∧ qs.length ≤ 1000 ∧ ∀ p ∈ qs, PcG p := by
  intro d
  induction d with
  | zero =>
    intro i k ps hi hk h1 h2 hg
    obtain ⟨k, rfl⟩ : ∃ m, k = m + 1 := ⟨k - 1, by omega⟩
    simp only [laws_lgPieces.l0]
    rw [if_neg (by omega)]
    exact ⟨ps, rfl, h2, hg⟩
  | succ d ih =>
    intro i k ps hi hk h1 h2 hg
    obtain ⟨k, rfl⟩ : ∃ m, k = m + 1 := ⟨k - 1, by omega⟩
    simp only [laws_lgPieces.l0]
    rw [if_pos (by omega), if_pos (by omega), if_pos (by omega)]
    by_cases h1000 : (i : Int) ≥ 1000
    · rw [if_pos h1000]; exact ⟨ps, rfl, h2, hg⟩
    · rw [if_neg h1000]
      obtain ⟨q, eq, hq⟩ := idAt_n (rd xs (i : Int)) 40 (by omega) (by omega)
      obtain ⟨m, em, hm2⟩ := idAt_n (rd xs (i : Int)) 1099511627776 (by omega) (by omega)
      rw [wrap_id (x := (i : Int) + 1) (by omega) (by omega), show (i : Int) + 1 = ((i + 1 : Nat) : Int) by omega]
      have hl3 : ps.length < 5864062014805 := by omega
      have hq40 : q < 40 := by omega
      have hk0 : 1000 < k := by omega
      have step : ∀ p, PcG p → ∃ qs, laws_lgPieces.l0 k (ps ++ [p]) xs (xs.length : Int) ((i + 1 : Nat) : Int) = some qs ∧ qs.length ≤ 1000 ∧ ∀ p ∈ qs, PcG p := fun p hp =>
        ih (i + 1) k (ps ++ [p]) (by omega) (by omega) (by rw [List.length_append]; simp; omega) (by rw [List.length_append]; simp; omega) (fun x hx => by
          rcases List.mem_append.1 hx with hx | hx
          · exact hg x hx
          · rw [List.mem_singleton] at hx; subst hx; exact hp)
      by_cases h19 : (q : Int) ≥ 19
      · obtain ⟨c, r, et, ht1, ht2, ht3, ht4⟩ := text_f q m hq40 k hk0
        obtain ⟨qs, e, hql, hqg⟩ := step ⟨-1, bs (c :: r)⟩ (.inr ⟨rfl, c, r, rfl, ht1, ht2, ht3, ht4⟩)
        refine ⟨qs, ?_, hql, hqg⟩
        refine bd_of eq (bd_of em (bd_of escs_f ?_))
        rw [if_pos (by rw [List.length_map]; exact h19), Option.bind_some, if_pos (half_b q).1, if_pos (half_l q _ _)]
        refine bd_of et ?_
        rw [if_pos hl3]
        exact e
      · obtain ⟨qs, e, hql, hqg⟩ := step ⟨(q : Int), ⟨#[]⟩⟩ (.inl ⟨by show (0 : Int) ≤ (q : Int); omega, by show (q : Int) < 19; omega, rfl⟩)
        refine ⟨qs, ?_, hql, hqg⟩
        refine bd_of eq (bd_of em (bd_of escs_f ?_))
        rw [if_neg (by rw [List.length_map]; exact h19), if_pos hl3]
        exact e
theorem pieces_f (xs : List Int) (hm : xs.length ≤ 2147483647) (k : Nat) (hk : 2147485000 < k) : ∃ qs, laws_lgPieces.f k xs = some qs ∧ qs.length ≤ 1000 ∧ ∀ p ∈ qs, PcG p := by
  unfold laws_lgPieces.f
  exact pieces_loop xs hm xs.length 0 k [] (by omega) (by omega) (by simp) (by simp) (by simp)
/-! ### a name of pieces -/
theorem esc_first : ∀ i : Fin 19, ((Dm.escTab.getD i.val ([], [])).1.head? = some 36 ∨ (Dm.escTab.getD i.val ([], [])).1.head? = some 46) ∧ (Dm.escTab.getD i.val ([], [])).2 ≠ [] := by decide
theorem pc_bytes {p : S106} (h : p.f0 = -1) {c : UInt8} {r : List UInt8} (e : p.f1 = bs (c :: r)) : pw p = c :: r ∧ pt p = c :: r := by
  unfold pw pt
  rw [if_pos (by omega), if_pos (by omega), e]
  exact ⟨bs_dl _, bs_dl _⟩
/-- What a piece begins with, that it tells something, how it is read. -/
theorem pc_say {p : S106} (h : PcG p) : (∃ (c : UInt8) (r : List UInt8), pw p = c :: r ∧ Dm.isDig c = false ∧ c ≠ 95) ∧ pt p ≠ [] ∧ ∀ r, Dm.tl (pw p ++ r) = pt p ++ Dm.tl r := by
  rcases h with ⟨h0, h1, h2⟩ | ⟨h0, c, r, h1, h2, h3, h4, h5⟩
  · have hi : p.f0.toNat < 19 := by omega
    have hl : p.f0.toNat < Dm.escTab.length := hi
    have e1 := esc_first ⟨p.f0.toNat, hi⟩
    have hw : pw p = (Dm.escTab.getD p.f0.toNat ([], [])).1 := by unfold pw; rw [if_neg (by omega)]
    have ht : pt p = (Dm.escTab.getD p.f0.toNat ([], [])).2 := by unfold pt; rw [if_neg (by omega)]
    have hm : Dm.escTab.getD p.f0.toNat ([], []) ∈ Dm.escTab := by
      rw [List.getD_eq_getElem?_getD, List.getElem?_eq_getElem hl]; exact List.getElem_mem hl
    simp only at e1
    have htl := Dm.tl_esc _ hm
    rw [hw, ht]
    generalize Dm.escTab.getD p.f0.toNat ([], []) = E at *
    refine ⟨?_, e1.2, htl⟩
    obtain ⟨E1, E2⟩ := E
    cases E1 with
    | nil => rcases e1.1 with h | h <;> cases h
    | cons c r =>
      refine ⟨c, r, rfl, ?_⟩
      rcases e1.1 with h | h
      · injection h with h; subst h; exact ⟨by decide, by decide⟩
      · injection h with h; subst h; exact ⟨by decide, by decide⟩
  · obtain ⟨e1, e2⟩ := pc_bytes h0 h1
    rw [e1, e2]
    exact ⟨⟨c, r, rfl, h4, h5⟩, by simp, fun t => Dm.tl_text (c :: r) t (fun x hx => plain_not x (List.all_eq_true.1 h3 x hx))⟩
theorem pcs_tl : ∀ ps : List S106, (∀ p ∈ ps, PcG p) → Dm.tl (pws ps) = pts ps := by
  intro ps
  induction ps with
  | nil => intro _; rfl
  | cons p ps ih =>
    intro h
    show Dm.tl (pw p ++ pws ps) = pt p ++ pts ps
    rw [(pc_say (h p (List.mem_cons_self ..))).2.2, ih fun q hq => h q (List.mem_cons_of_mem _ hq)]
theorem pc_ok {p : S106} (h : PcG p) : p.f0 < 19 ∧ p.f1.size ≤ 2 := by
  rcases h with ⟨h0, h1, h2⟩ | ⟨h0, c, r, h1, h2, _⟩
  · exact ⟨h1, by rw [h2]; decide⟩
  · exact ⟨by omega, by rw [h1, bs_size]; exact h2⟩
/-- A name as it is written, and as it is told. -/
structure NmOk (w : List UInt8) : Prop where
  ok : Dm.LgOk w
  ln : w.length ≤ 5001
  tn : (Dm.nametext w).length ≤ 5000
  tx : Dm.nametext w ≠ []
theorem name_ok (ps : List S106) (h : ∀ p ∈ ps, PcG p) (hl : ps.length ≤ 1000) (hne : barred (pws ps) ≠ []) : NmOk (barred (pws ps)) ∧ Dm.nametext (barred (pws ps)) = pts ps := by
  have hpl := pws_len ps fun p hp => pc_ok (h p hp)
  cases ps with
  | nil => exact absurd rfl hne
  | cons p ps =>
    obtain ⟨⟨c, r, e, hd, h5⟩, hp2, _⟩ := pc_say (h p (List.mem_cons_self ..))
    have htl := pcs_tl (p :: ps) h
    have hpts : pts (p :: ps) ≠ [] := by show pt p ++ pts ps ≠ []; simp [hp2]
    have hw : pws (p :: ps) = c :: (r ++ pws ps) := by show pw p ++ pws ps = _; rw [e]; rfl
    rw [hw] at htl hpl hne ⊢
    have hlen : (p :: ps).length ≤ 1000 := hl
    have hn : Dm.nametext (barred (c :: (r ++ pws ps))) = pts (p :: ps) := by
      unfold barred
      by_cases hc : c = 36
      · subst hc
        rw [if_pos (show ((36 : UInt8) :: (r ++ pws ps)).head? = some 36 from rfl), Dm.nametext_bar _ rfl, htl]
      · rw [if_neg (by simpa using hc), Dm.nametext_plain _ (by simp [h5]), htl]
    refine ⟨⟨⟨hne, ?_, ?_⟩, ?_, by rw [hn]; omega, by rw [hn]; exact hpts⟩, hn⟩
    all_goals unfold barred
    all_goals split
    · rw [List.length_cons]; omega
    · omega
    · intro x t ex; injection ex with ex _; rw [← ex]; decide
    · intro x t ex; injection ex with ex _; rw [← ex]; exact hd
    · rw [List.length_cons]; omega
    · omega
theorem toList_bs (l : List UInt8) : (bs l).toList = l := by simp [bs]
theorem esc_loop (rows : List (List Int)) (hr : ∀ r ∈ rows, r.length ≤ 2147483647) (hm : rows.length ≤ 2147483647) : ∀ (d i k : Nat) (ws : List (List UInt8)), i + d = rows.length → d + 2147485000 < k → ws.length ≤ i → ws.length ≤ 100 → (∀ w ∈ ws, NmOk w) →
    ∃ vs : List (List UInt8), laws_lgEscaped.l0 k (ws.map bs) ((ws.map Dm.nametext).map bs) rows (rows.length : Int) (i : Int) = some (vs.map bs, (vs.map Dm.nametext).map bs) ∧ vs.length ≤ 100 ∧ vs ≠ [] ∧ ∀ w ∈ vs, NmOk w := by
  have hend : ∀ ws : List (List UInt8), ws.length ≤ 100 → (∀ w ∈ ws, NmOk w) → ∃ vs : List (List UInt8), (if ((ws.map bs).length : Int) = 0 then (some ((([(⟨#[102]⟩ : ByteArray)] : List ByteArray)), (([(⟨#[102]⟩ : ByteArray)] : List ByteArray)))) else (some (ws.map bs, (ws.map Dm.nametext).map bs))) = some (vs.map bs, (vs.map Dm.nametext).map bs) ∧ vs.length ≤ 100 ∧ vs ≠ [] ∧ ∀ w ∈ vs, NmOk w := by
    intro ws h2 hg
    by_cases h0 : ((ws.map bs).length : Int) = 0
    · rw [if_pos h0]
      have h102 := plain_name 102 [] (by decide) (by decide)
      refine ⟨[[102]], by simp only [List.map_cons, List.map_nil, h102]; rfl, by simp, by simp, ?_⟩
      intro w hw; rw [List.mem_singleton] at hw; subst hw
      exact ⟨plain_ok 102 [] (by simp) (by decide), by simp, by rw [h102]; simp, by rw [h102]; simp⟩
    · rw [if_neg h0]
      exact ⟨ws, rfl, h2, by rintro rfl; exact h0 rfl, hg⟩
  intro d
  induction d with
  | zero =>
    intro i k ws hi hk h1 h2 hg
    obtain ⟨k, rfl⟩ : ∃ m, k = m + 1 := ⟨k - 1, by omega⟩
    simp only [laws_lgEscaped.l0]
    rw [if_neg (by omega)]
    exact hend ws h2 hg
  | succ d ih =>
    intro i k ws hi hk h1 h2 hg
    obtain ⟨k, rfl⟩ : ∃ m, k = m + 1 := ⟨k - 1, by omega⟩
    have hlt : i < rows.length := by omega
    simp only [laws_lgEscaped.l0]
    rw [if_pos (by omega), if_pos (by omega), if_pos (by omega)]
    by_cases h100 : (i : Int) ≥ 100
    · rw [if_pos h100]
      exact hend ws h2 hg
    · rw [if_neg h100, rdL rows i hlt, wrap_id (x := (i : Int) + 1) (by omega) (by omega), show (i : Int) + 1 = ((i + 1 : Nat) : Int) by omega]
      have hrow := hr rows[i] (List.getElem_mem hlt)
      generalize rows[i] = r at hrow ⊢
      obtain ⟨qs, e, hql, hqg⟩ := pieces_f r hrow k (by omega)
      obtain ⟨hs1, hs2⟩ := ones_sub qs true
      have hN : spec_LgName.f qs = some (bs (barred (pws (ones true qs))), bs (pts (ones true qs))) := by
        unfold spec_LgName.f
        rw [if_pos ⟨by omega, fun p hp => pc_ok (hqg p hp)⟩]
      have hnk := fun hne => name_ok (ones true qs) (fun p hp => hqg p (hs2 p hp)) (by omega) hne
      generalize barred (pws (ones true qs)) = W at *
      generalize pts (ones true qs) = T at *
      by_cases hW : W = []
      · obtain ⟨vs, ev, hv⟩ := ih (i + 1) k ws (by omega) (by omega) (by omega) h2 hg
        refine ⟨vs, ?_, hv⟩
        refine bd_of e (bd_of hN ?_)
        rw [if_pos (by rw [toList_bs]; exact hW)]
        exact ev
      · obtain ⟨hok, hnt⟩ := hnk hW
        obtain ⟨vs, ev, hv⟩ := ih (i + 1) k (ws ++ [W]) (by omega) (by omega) (by rw [List.length_append]; simp; omega) (by rw [List.length_append]; simp; omega) (by
          intro w hw
          rcases List.mem_append.1 hw with hw | hw
          · exact hg w hw
          · rw [List.mem_singleton] at hw; subst hw; exact hok)
        refine ⟨vs, ?_, hv⟩
        refine bd_of e (bd_of hN ?_)
        rw [if_neg (by rw [toList_bs]; exact hW), if_pos (by rw [List.length_map]; omega), if_pos (by rw [List.length_map, List.length_map]; omega), ← ev]
        simp only [List.map_append, List.map_cons, List.map_nil, hnt]
theorem escaped_f (rows : List (List Int)) (hr : ∀ r ∈ rows, r.length ≤ 2147483647) (hm : rows.length ≤ 2147483647) (k : Nat) (hk : 4294970000 < k) :
    ∃ vs : List (List UInt8), laws_lgEscaped.f k rows = some (vs.map bs, (vs.map Dm.nametext).map bs) ∧ vs.length ≤ 100 ∧ vs ≠ [] ∧ ∀ w ∈ vs, NmOk w := by
  unfold laws_lgEscaped.f
  exact esc_loop rows hr hm rows.length 0 k [] (by omega) (by omega) (by simp) (by simp) (by simp)
theorem escaped_join (vs : List (List UInt8)) (h : ∀ w ∈ vs, NmOk w) : Dm.joinT [] vs = Dm.pathT (vs.map Dm.nametext) :=
  Dm.joinT_path vs (by
    intro w hw
    cases vs with
    | nil => cases hw
    | cons x vs => injection hw with hw; subst hw; exact (h x (List.mem_cons_self ..)).tx)
theorem escaped_names (vs : List (List UInt8)) (hl : vs.length ≤ 100) (h : ∀ w ∈ vs, NmOk w) : (Dm.namesW vs).length ≤ 1000300 := by
  have := names_len vs 5001 fun w hw => (h w hw).ln
  have := Nat.mul_le_mul_right (2 * 5001 + 1) hl
  omega
theorem escaped_path (vs : List (List UInt8)) (hl : vs.length ≤ 100) (h : ∀ w ∈ vs, NmOk w) (k : Nat) (hk : 2000 < k) : spec_LgPath.f k ((vs.map Dm.nametext).map bs) = some (bs (Dm.pathT (vs.map Dm.nametext))) :=
  path_f _ (fun w hw => by obtain ⟨x, hx, rfl⟩ := List.mem_map.1 hw; have := (h x hx).tn; omega) (by rw [List.length_map]; omega) k (by omega)
theorem escaped_sym (vs : List (List UInt8)) (hl : vs.length ≤ 100) (h : ∀ w ∈ vs, NmOk w) (t : List UInt8) (ht : t.length = 16) (k : Nat) (hk : 2000 < k) : spec_LgSymbol.f k (vs.map bs) (bs t) = some (bs ([95, 90, 78] ++ (Dm.namesW vs ++ Dm.lgTail t))) :=
  sym_f vs t ht k (by omega) (by omega) (by have := escaped_names vs hl h; omega) (fun w hw => by have := (h w hw).ln; omega)
theorem escaped_lens (vs : List (List UInt8)) (hl : vs.length ≤ 100) (hg : ∀ w ∈ vs, NmOk w) (h : List UInt8) (hh : h.length = 16) : 20 ≤ (Dm.namesW vs ++ Dm.lgTail h).length ∧ (Dm.namesW vs ++ Dm.lgTail h).length ≤ 35184372088000 := by
  have := escaped_names vs hl hg
  unfold Dm.lgTail
  rw [List.length_append, List.length_append, List.length_append, hh]
  constructor
  · simp
  · simp; omega
theorem old_ans (vs : List (List UInt8)) (l : List Int) (mx : Int) (h : ∀ w ∈ vs, NmOk w) : ∃ r, ansOld (Dm.old mx (Dm.namesW vs ++ Dm.lgTail (Dm.lgText l 16))) = some r := by
  have h16 := Dm.lgText_len l 16
  by_cases h5 : Dm.ones16 (Dm.lgBits l 16) < 5
  · rw [old_few mx _ _ (by rw [(Dm.old_parts _ _ h16).1]; exact Dm.seen_text l 16) h5]; exact ⟨_, rfl⟩
  · rw [Dm.old_read mx vs _ _ h16 (Dm.seen_text l 16) h5 (fun w hw => (h w hw).ok)]; exact ⟨_, rfl⟩

theorem FnLegacyOptions : laws_FnLegacyOptions.Pure := by
  intro l0 l1 o0 o1 o2 o3 o4 o5 o6 o7 hm0 hw0 hm1 _ hw1
  obtain ⟨K, hK⟩ : ∃ K : Nat, 4294970000 + l0.length < K := ⟨_, Nat.lt_succ_self _⟩
  have hK1 : 4294970000 < K := by omega
  have hK2 : 2000 < K := by omega
  have hbad : laws_FnLegacyOptions.j0 (K + 1) l0 l1 true o0 o1 o2 o3 o4 o5 o6 o7 = some true := by simp only [laws_FnLegacyOptions.j0, if_true]
  refine ⟨K + 1, ?_⟩
  unfold laws_FnLegacyOptions.f
  obtain ⟨b, hb, hb2⟩ := fits_f l0 (K + 1) (by omega)
  refine bd_of hb ?_
  cases b with
  | false => rw [if_neg (by decide)]; exact hbad
  | true =>
    rw [if_pos rfl]
    cases hz2 : decide ((l1.length : Int) > 2147483647) with
    | true => exact hbad
    | false =>
      obtain ⟨hl0, hr0⟩ := hb2 rfl
      simp only [laws_FnLegacyOptions.j0]
      rw [if_neg (by decide)]
      obtain ⟨vs, ev, hvl, hvn, hvg⟩ := escaped_f l0 hr0 hl0 K hK1
      have h16 := Dm.lgText_len l1 16
      obtain ⟨n1, n2⟩ := escaped_lens vs hvl hvg _ h16
      refine bd_of ev (bd_of (hash_f l1 hw1) (bd_of (escaped_sym vs hvl hvg _ h16 K hK2) ?_))
      by_cases h8 : ((Dm.ones16 (Dm.lgBits l1 16) : Nat) : Int) ≥ 8
      · refine bd_of ((old_f _ (.told (Dm.pathT (vs.map Dm.nametext))) o0 o1 o2 o3 o4 false o6 0 (by omega) n1 n2 ?_).trans rfl) ?_
        · show Dm.old 0 _ = _
          rw [Dm.old_read 0 vs _ _ h16 (Dm.seen_text l1 16) (by omega) (fun w hw => (hvg w hw).ok), cut0, escaped_join vs hvg]
        · rw [if_pos (by simpa using h8), if_pos rfl]
          refine bd_of (escaped_path vs hvl hvg K hK2) ?_
          simp
      · obtain ⟨r, hr⟩ := old_ans vs l1 (mxOf 0) hvg
        refine bd_of ((old_f _ _ o0 o1 o2 o3 o4 false o6 0 (by omega) n1 n2 rfl).trans hr) ?_
        rw [if_neg (by simpa using h8)]
end Go.Proofs.YtpmlnhddkbgefaaDoor.Pure
