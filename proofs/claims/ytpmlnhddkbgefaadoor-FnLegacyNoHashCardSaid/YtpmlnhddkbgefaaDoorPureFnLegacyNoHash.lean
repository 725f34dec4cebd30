/- FnLegacyNoHash, of numbers and lists alone: a name with a letter from g to z in its hash is refused. -/
import Derived.Test.YtpmlnhddkbgefaaDoorPFnLegacyNoHashx2
import Derived.Test.YtpmlnhddkbgefaaDoorM6
import Derived.Test.YtpmlnhddkbgefaaDoorN1
import Derived.Test.YtpmlnhddkbgefaaDoorWMore
import Derived.Laws.Bits64
namespace Go.Proofs.YtpmlnhddkbgefaaDoor.Pure
set_option linter.unusedVariables false
set_option linter.unusedSimpArgs false
open Go.RowKit Go.Proofs.YtpmlnhddkbgefaaDoor.PFnLegacyNoHash Go.Proofs.YtpmlnhddkbgefaaDoorW.PrintWords Go.Proofs.YtpmlnhddkbgefaaDoorW.PrintLast

theorem getD_mem' {l : List UInt8} {k : Nat} (h : k < l.length) : l.getD k 0 ∈ l := by
  rw [List.getD_eq_getElem?_getD, List.getElem?_eq_getElem h]; exact List.getElem_mem h
theorem app (l m : List UInt8) : bs l ++ bs m = bs (l ++ m) := by
  apply ByteArray.ext
  simp [bs, ByteArray.data_append]
theorem bind_of {α β : Type} {x : Option α} {a : α} {f : α → Option β} {r : Option β} (h : x = some a) (h2 : f a = r) : x.bind f = r := by subst h; exact h2
theorem u8_range {l : List Int} (h : ∀ x ∈ l, (Lit.int .u8 x).wf = true) (i : Nat) : 0 ≤ rd l (i : Int) ∧ rd l (i : Int) ≤ 255 := by
  unfold rd
  rw [Int.toNat_natCast, List.getD_eq_getElem?_getD]
  cases hi : l[i]? with
  | none => simp
  | some x =>
    have := h x (List.mem_of_getElem? hi)
    simp [Lit.wf, IntKind.min, IntKind.max, IntKind.bits, IntKind.signed] at this
    simp; omega
theorem strOf_list (a : List UInt8) : strOfNums (a.map (fun c => (c.toNat : Int))) = bs a := by
  unfold strOfNums bs
  congr 2
  rw [List.map_map, show ((fun n : Int => UInt8.ofNat n.toNat) ∘ fun c : UInt8 => (c.toNat : Int)) = id from by funext c; simp]
  simp
def L63 : List UInt8 := [97, 98, 99, 100, 101, 102, 103, 104, 105, 106, 107, 108, 109, 110, 111, 112, 113, 114, 115, 116, 117, 118, 119, 120, 121, 122, 65, 66, 67, 68, 69, 70, 71, 72, 73, 74, 75, 76, 77, 78, 79, 80, 81, 82, 83, 84, 85, 86, 87, 88, 89, 90, 48, 49, 50, 51, 52, 53, 54, 55, 56, 57, 95]
theorem l63_at (q : Int) (h0 : 0 ≤ q) (h1 : q < 63) : bt (⟨#[97, 98, 99, 100, 101, 102, 103, 104, 105, 106, 107, 108, 109, 110, 111, 112, 113, 114, 115, 116, 117, 118, 119, 120, 121, 122, 65, 66, 67, 68, 69, 70, 71, 72, 73, 74, 75, 76, 77, 78, 79, 80, 81, 82, 83, 84, 85, 86, 87, 88, 89, 90, 48, 49, 50, 51, 52, 53, 54, 55, 56, 57, 95]⟩ : ByteArray) q = ((L63.getD q.toNat 0).toNat : Int) := by
  have hq : q.toNat < L63.length := by show q.toNat < 63; omega
  have := bt_bs L63 q.toNat hq
  rw [Int.toNat_of_nonneg h0] at this
  refine (show bt (bs L63) q = _ from this).trans ?_
  rw [List.getD_eq_getElem?_getD, List.getElem?_eq_getElem hq]; rfl
theorem l63_plain : ∀ c ∈ L63, Dm.isPlain c = true := by decide
theorem l63_letter : ∀ k : Fin 52, Dm.isDig (L63.getD k.val 0) = false ∧ L63.getD k.val 0 ≠ 95 := by decide +kernel
theorem word_loop (xs : List Int) (hx : ∀ x ∈ xs, (Lit.int .u8 x).wf = true) (hm : xs.length ≤ 1000) (hn : 0 < xs.length) :
    ∀ (d i : Nat) (p : List UInt8) (k : Nat), i + d = xs.length → d < k → p.length = i → (∀ c ∈ p, Dm.isPlain c = true) →
      ∃ (a : List UInt8) (c : UInt8), spec_AnWord.l0 k xs (p.map (fun c => (c.toNat : Int)) ++ List.replicate d 0) xs (xs.length : Int) (i : Int) = some (bs (a.set 0 c)) ∧ a.length = xs.length ∧ (∀ c ∈ a, Dm.isPlain c = true) ∧ Dm.isPlain c = true ∧ Dm.isDig c = false ∧ c ≠ 95 := by
  intro d
  induction d with
  | zero =>
    intro i p k hi hk hp hl
    obtain ⟨k, rfl⟩ : ∃ m, k = m + 1 := ⟨k - 1, by omega⟩
    simp only [spec_AnWord.l0]
    obtain ⟨r0, r1⟩ := u8_range hx 0
    have r0 : 0 ≤ rd xs 0 := r0
    have r1 : rd xs 0 ≤ 255 := r1
    rw [wrap_id (x := rd xs 0) (by omega) (by omega)]
    have hm0 : 0 ≤ Int.tmod (rd xs 0) 52 := Int.tmod_nonneg _ r0
    have hm1 : Int.tmod (rd xs 0) 52 < 52 := Int.tmod_lt_of_pos _ (by omega)
    generalize Int.tmod (rd xs 0) 52 = q at hm0 hm1 ⊢
    rw [if_neg (by omega), if_pos (by omega), if_pos hm0, if_pos (by omega), if_pos (by simp; omega), l63_at q hm0 (by omega)]
    have hlet := l63_letter ⟨q.toNat, by omega⟩
    simp only at hlet
    have hc := l63_plain _ (getD_mem' (show q.toNat < L63.length by show q.toNat < 63; omega))
    refine ⟨p, L63.getD q.toNat 0, ?_, by omega, hl, hc, hlet.1, hlet.2⟩
    rw [List.replicate_zero, List.append_nil]
    generalize L63.getD q.toNat 0 = c
    rw [← strOf_list, List.map_set]; rfl
  | succ d ih =>
    intro i p k hi hk hp hl
    obtain ⟨k, rfl⟩ : ∃ m, k = m + 1 := ⟨k - 1, by omega⟩
    obtain ⟨r0, r1⟩ := u8_range hx i
    simp only [spec_AnWord.l0]
    rw [wrap_id (x := rd xs (i : Int)) (by omega) (by omega)]
    have hm0 : 0 ≤ Int.tmod (rd xs (i : Int)) 62 := Int.tmod_nonneg _ r0
    have hm1 : Int.tmod (rd xs (i : Int)) 62 < 62 := Int.tmod_lt_of_pos _ (by omega)
    generalize Int.tmod (rd xs (i : Int)) 62 = q at hm0 hm1 ⊢
    rw [if_pos (by omega), if_pos (by omega), if_pos (by omega), if_pos hm0, if_pos (by omega), if_pos (by simp; omega), wrap_id (x := (i : Int) + 1) (by omega) (by omega), l63_at q hm0 (by omega)]
    have hc := l63_plain _ (getD_mem' (show q.toNat < L63.length by show q.toNat < 63; omega))
    generalize L63.getD q.toNat 0 = c at hc
    have hset : (p.map (fun c : UInt8 => (c.toNat : Int)) ++ List.replicate (d + 1) 0).set ((i : Int)).toNat (c.toNat : Int) = (p ++ [c]).map (fun c : UInt8 => (c.toNat : Int)) ++ List.replicate d 0 := by
      rw [Int.toNat_natCast, List.set_append_right _ _ (by rw [List.length_map]; omega)]
      simp [hp, List.replicate_succ]
    rw [hset]
    exact ih (i + 1) (p ++ [c]) k (by omega) (by omega) (by simp; omega) (by
      intro x hx2
      rcases List.mem_append.1 hx2 with hx2 | hx2
      · exact hl x hx2
      · obtain rfl := List.mem_singleton.1 hx2; exact hc)
theorem word_f (xs : List Int) (hx : ∀ x ∈ xs, (Lit.int .u8 x).wf = true) (hm : xs.length ≤ 1000) (k : Nat) (hk : 1000 < k) :
    ∃ (c : UInt8) (r : List UInt8), spec_AnWord.f k xs = some (bs (c :: r)) ∧ (c :: r).length ≤ 1000 ∧ (c :: r).all Dm.isPlain = true ∧ Dm.isDig c = false ∧ c ≠ 95 := by
  unfold spec_AnWord.f
  by_cases h0 : (xs.length : Int) = 0
  · rw [if_pos h0]; exact ⟨97, [], rfl, by simp, by decide, by decide, by decide⟩
  · rw [if_neg h0, if_pos (by omega), if_pos (by omega)]
    obtain ⟨a, c, e, h1, h2, h3, h4, h5⟩ := word_loop xs hx hm (by omega) xs.length 0 [] k (by omega) (by omega) rfl (by simp)
    cases a with
    | nil => simp at h1; omega
    | cons x a =>
      refine ⟨c, a, by simpa using e, by rw [List.length_cons] at h1 ⊢; omega, ?_, h4, h5⟩
      rw [List.all_cons, h3, Bool.true_and]
      exact List.all_eq_true.2 fun y hy => h2 y (List.mem_cons_of_mem _ hy)
theorem idAt_n (a n : Int) (h0 : 0 < n) (h1 : n ≤ 4611686018427387904) : ∃ q : Nat, laws_idAt.f a n = some (q : Int) ∧ (q : Int) < n := by
  unfold laws_idAt.f
  rw [if_neg (by omega)]
  have m0 := Int.tmod_lt_of_pos a h0
  have m1 := Int.lt_tmod_of_pos a h0
  rw [wrap_id (x := Int.tmod a n + n) (by omega) (by omega)]
  have q0 : 0 ≤ Int.tmod (Int.tmod a n + n) n := Int.tmod_nonneg _ (by omega)
  have q1 : Int.tmod (Int.tmod a n + n) n < n := Int.tmod_lt_of_pos _ h0
  obtain ⟨q, hq⟩ := Int.eq_ofNat_of_zero_le q0
  exact ⟨q, by rw [hq], by omega⟩
theorem bd_of {α β : Type} {x : Option α} {a : α} {f : α → Option β} {r : Option β} (h : x = some a) (h2 : f a = r) : x.bind f = r := by subst h; exact h2
theorem mn_take (n : Nat) : 0 ≤ mn (n : Int) 1000 ∧ mn (n : Int) 1000 ≤ (n : Int) ∧ (mn (n : Int) 1000).toNat ≤ 1000 := by unfold mn; split <;> omega
theorem itoa_f (n : Nat) (h : n < 9223372036854775808) : strconv_Itoa.f (n : Int) = some (bs (Lib.decDigits n)) := by
  unfold strconv_Itoa.f
  rw [if_pos (by omega), Dm.itoa_nat]
theorem rdO {α : Type} {x : α} (l : List α) (i : Nat) (h : i < l.length) : rdOf x l (i : Int) = l[i] := by
  unfold rdOf
  rw [Int.toNat_natCast, List.getD_eq_getElem?_getD, List.getElem?_eq_getElem h]; rfl
/-! ### the hash -/
theorem hash_f (l : List Int) (h : ∀ x ∈ l, (Lit.int .u8 x).wf = true) : laws_lgHash.f l = some (bs (Dm.lgText l 16), decide (((Dm.ones16 (Dm.lgBits l 16) : Nat) : Int) ≥ 8)) := by
  unfold laws_lgHash.f spec_LgHash.f
  rw [if_pos (fun x hx => by
    have := h x hx
    simp [Lit.wf, IntKind.min, IntKind.max, IntKind.bits, IntKind.signed] at this
    omega)]
  rfl
/-! ### the whole name -/
theorem sym_loop (ws : List (List UInt8)) (h : List UInt8) (hh : h.length = 16) :
    ∀ (d i : Nat) (k : Nat) (t : List UInt8), i + d = ws.length → d < k → ws.length ≤ 1000000 → t.length + (Dm.namesW (ws.drop i)).length ≤ 17592186044416 → (∀ w ∈ ws, w.length ≤ 17592186044416) →
      spec_LgSymbol.l0 k (bs h) (bs t) (ws.map bs) ((ws.map bs).length : Int) (i : Int) = some (bs (t ++ (Dm.namesW (ws.drop i) ++ Dm.lgTail h))) := by
  intro d
  induction d with
  | zero =>
    intro i k t hi hk hm hl hw
    obtain ⟨k, rfl⟩ : ∃ m, k = m + 1 := ⟨k - 1, by omega⟩
    simp only [spec_LgSymbol.l0]
    rw [if_neg (by rw [List.length_map]; omega), List.drop_of_length_le (by omega)]
    rw [show (⟨#[49, 55, 104]⟩ : ByteArray) = bs [49, 55, 104] from rfl, show (⟨#[69]⟩ : ByteArray) = bs [69] from rfl]
    simp only [app]
    rw [if_pos (by rw [bs_size]; omega), if_pos (by rw [bs_size, bs_size, List.length_append]; simp; omega), if_pos (by rw [bs_size, List.length_append, List.length_append]; simp; omega)]
    unfold Dm.lgTail Dm.namesW
    simp
  | succ d ih =>
    intro i k t hi hk hm hl hw
    obtain ⟨k, rfl⟩ : ∃ m, k = m + 1 := ⟨k - 1, by omega⟩
    have hlt : i < ws.length := by omega
    have hw1 := hw ws[i] (List.getElem_mem hlt)
    simp only [spec_LgSymbol.l0]
    rw [if_pos (by rw [List.length_map]; omega), if_pos (by omega), if_pos (by rw [List.length_map]; omega), rdO _ i (by rw [List.length_map]; omega), List.getElem_map, wrap_id (x := (i : Int) + 1) (by omega) (by omega)]
    rw [List.drop_eq_getElem_cons hlt] at hl ⊢
    have hdl := Dm.digits_len ws[i].length
    simp only [Dm.namesW, List.length_append] at hl
    rw [bs_size]
    refine bd_of (itoa_f ws[i].length (by omega)) ?_
    simp only [app]
    rw [if_pos (by rw [bs_size]; omega), if_pos (by rw [bs_size, bs_size, List.length_append]; omega)]
    have := ih (i + 1) k (t ++ (Lib.decDigits ws[i].length ++ ws[i])) (by omega) (by omega) hm (by rw [List.length_append, List.length_append]; omega) hw
    rw [show ((i : Int) + 1) = ((i + 1 : Nat) : Int) by omega, this]
    simp only [Dm.namesW, List.append_assoc]
theorem sym_f (ws : List (List UInt8)) (h : List UInt8) (hh : h.length = 16) (k : Nat) (hk : ws.length < k) (hm : ws.length ≤ 1000000) (hl : (Dm.namesW ws).length ≤ 17592186044000) (hw : ∀ w ∈ ws, w.length ≤ 17592186044416) :
    spec_LgSymbol.f k (ws.map bs) (bs h) = some (bs ([95, 90, 78] ++ (Dm.namesW ws ++ Dm.lgTail h))) :=
  sym_loop ws h hh ws.length 0 k [95, 90, 78] (by omega) hk hm (by simp; omega) hw
/-! ### what is told of it -/
theorem cut0 (t : List UInt8) : Dm.cutMx 0 t = t := by unfold Dm.cutMx; rw [if_neg (by omega)]
theorem old_f (n : List UInt8) (t : Dm.LR) (o0 o1 o2 o3 o4 o5 o6 : Bool) (o7 : Int) (h7 : 0 ≤ o7 ∧ o7 ≤ 30) (hn : 20 ≤ n.length) (hl : n.length ≤ 35184372088000) (h : Dm.old (mxOf o7) n = t) :
    impl_Old.f (bs ([95, 90, 78] ++ n)) o0 o1 o2 o3 o4 o5 o6 o7 = ansOld t := by
  unfold impl_Old.f
  rw [if_pos ⟨by rw [bs_size]; simp; omega, by rw [bs_size]; simp; omega, h7.1, h7.2⟩, bs_dl]
  show ansOld (Dm.old (mxOf o7) n) = _
  rw [h]
theorem told_f (ws : List (List UInt8)) (l : List Int) (t : List UInt8) (k : Nat) (hk : ws.length < k) (hm : ws.length ≤ 1000000) (hl : (Dm.namesW ws).length ≤ 17592186044000) (hok : ∀ w ∈ ws, Dm.LgOk w)
    (h8 : ((Dm.ones16 (Dm.lgBits l 16) : Nat) : Int) ≥ 8) (ht : Dm.joinT [] ws = t) : laws_lgTold.f k (ws.map bs) (bs (Dm.lgText l 16)) (bs t) = some true := by
  unfold laws_lgTold.f
  have h16 := Dm.lgText_len l 16
  refine bd_of (sym_f ws _ h16 k hk hm hl (fun w hw => by have := (hok w hw).ln; omega)) ?_
  refine bd_of ((old_f (Dm.namesW ws ++ Dm.lgTail (Dm.lgText l 16)) (.told t) false false false false false false false 0 (by omega) ?_ ?_ ?_).trans rfl) ?_
  · unfold Dm.lgTail; simp [h16]
  · unfold Dm.lgTail; simp [h16]; omega
  · show Dm.old 0 _ = _
    rw [Dm.old_read 0 ws _ _ h16 (Dm.seen_text l 16) (by omega) hok, cut0, ht]
  · rw [if_pos rfl]; simp
/-! ### plain names -/
theorem plain_not (c : UInt8) (h : Dm.isPlain c = true) : c ≠ 36 ∧ c ≠ 46 := by
  constructor
  · rintro rfl; exact absurd h (by decide)
  · rintro rfl; exact absurd h (by decide)
theorem plain_name (c : UInt8) (r : List UInt8) (h : (c :: r).all Dm.isPlain = true) (h5 : c ≠ 95) : Dm.nametext (c :: r) = c :: r := by
  rw [Dm.nametext_plain _ (by simp [h5])]
  have := Dm.tl_text (c :: r) [] (fun x hx => plain_not x (List.all_eq_true.1 h x hx))
  rw [List.append_nil] at this
  rw [this, Dm.tl_nil, List.append_nil]
theorem plain_ok (c : UInt8) (r : List UInt8) (hl : (c :: r).length ≤ 1000) (hd : Dm.isDig c = false) : Dm.LgOk (c :: r) := ⟨by simp, by omega, fun x t e => by injection e with e _; rw [← e]; exact hd⟩
theorem names_len (ws : List (List UInt8)) (B : Nat) (h : ∀ w ∈ ws, w.length ≤ B) : (Dm.namesW ws).length ≤ ws.length * (2 * B + 1) := by
  induction ws with
  | nil => simp [Dm.namesW]
  | cons w ws ih =>
    have h1 := h w (by simp)
    have h2 := ih fun x hx => h x (by simp [hx])
    have h3 := Dm.digits_len w.length
    simp only [Dm.namesW, List.length_append, List.length_cons]
    rw [Nat.add_mul]
    omega
/-! ### words of a path -/
theorem path_loop (ws : List (List UInt8)) (hB : ∀ w ∈ ws, w.length ≤ 100000) (hm : ws.length ≤ 1000) :
    ∀ (d i k : Nat) (t : List UInt8), i + d = ws.length → 0 < i → d < k → t.length ≤ i * 100002 →
      spec_LgPath.l0 k (bs t) (ws.map bs) ((ws.map bs).length : Int) (i : Int) = some (bs (t ++ (ws.drop i).flatMap fun t => 58 :: 58 :: t)) := by
  intro d
  induction d with
  | zero =>
    intro i k t hi h0 hk ht
    obtain ⟨k, rfl⟩ : ∃ m, k = m + 1 := ⟨k - 1, by omega⟩
    simp only [spec_LgPath.l0]
    rw [if_neg (by rw [List.length_map]; omega), List.drop_of_length_le (by omega)]
    simp
  | succ d ih =>
    intro i k t hi h0 hk ht
    obtain ⟨k, rfl⟩ : ∃ m, k = m + 1 := ⟨k - 1, by omega⟩
    have hlt : i < ws.length := by omega
    have hw1 := hB ws[i] (List.getElem_mem hlt)
    simp only [spec_LgPath.l0]
    rw [if_pos (by rw [List.length_map]; omega), if_pos (by omega), if_pos (by rw [List.length_map]; omega), if_pos (by omega), rdO _ i (by rw [List.length_map]; omega), List.getElem_map, wrap_id (x := (i : Int) + 1) (by omega) (by omega)]
    rw [show (⟨#[58, 58]⟩ : ByteArray) = bs [58, 58] from rfl]
    simp only [app]
    rw [if_pos (by rw [bs_size]; omega), if_pos (by rw [bs_size, bs_size, List.length_append]; simp; omega)]
    have := ih (i + 1) k (t ++ [58, 58] ++ ws[i]) (by omega) (by omega) (by omega) (by rw [List.length_append, List.length_append, Nat.add_mul]; simp; omega)
    rw [show ((i : Int) + 1) = ((i + 1 : Nat) : Int) by omega, this, List.drop_eq_getElem_cons hlt]
    simp only [List.flatMap_cons, List.append_assoc, List.cons_append, List.nil_append]
theorem path_f (ws : List (List UInt8)) (hB : ∀ w ∈ ws, w.length ≤ 100000) (hm : ws.length ≤ 1000) (k : Nat) (hk : 1001 < k) : spec_LgPath.f k (ws.map bs) = some (bs (Dm.pathT ws)) := by
  unfold spec_LgPath.f
  obtain ⟨k, rfl⟩ : ∃ m, k = m + 1 := ⟨k - 1, by omega⟩
  cases ws with
  | nil => simp only [spec_LgPath.l0]; rw [if_neg (by simp)]; rfl
  | cons w ws =>
    have hw1 := hB w (by simp)
    simp only [spec_LgPath.l0]
    rw [if_pos (by simp <;> omega), if_pos (by omega), if_pos (by simp <;> omega), if_neg (by omega)]
    have e : rdOf ByteArray.empty ((w :: ws).map bs) 0 = bs w := rdO ((w :: ws).map bs) 0 (by simp)
    rw [e, show (⟨#[]⟩ : ByteArray) = bs [] from rfl]
    simp only [app]
    rw [if_pos (by rw [bs_size, bs_size]; simp; omega), wrap_id (x := (0 : Int) + 1) (by omega) (by omega)]
    have := path_loop (w :: ws) hB hm ws.length 1 k w (by simp; omega) (by omega) (by simp at hm; omega) (by omega)
    rw [show ((0 : Int) + 1) = ((1 : Nat) : Int) from rfl, List.nil_append, this]
    simp [Dm.pathT]
theorem rdL (rows : List (List Int)) (i : Nat) (h : i < rows.length) : rd_L2 rows (i : Int) = rows[i] := by
  unfold rd_L2
  rw [Int.toNat_natCast, List.getD_eq_getElem?_getD, List.getElem?_eq_getElem h]; rfl
/-! ### words -/
structure WOk (w : List UInt8) : Prop where
  ok : Dm.LgOk w
  ln : w.length ≤ 1000
  tx : Dm.nametext w = w
theorem word_ok (c : UInt8) (r : List UInt8) (hl : (c :: r).length ≤ 1000) (hp : (c :: r).all Dm.isPlain = true) (hd : Dm.isDig c = false) (h5 : c ≠ 95) : WOk (c :: r) := ⟨plain_ok c r hl hd, hl, plain_name c r hp h5⟩
theorem words_join (ws : List (List UInt8)) (h : ∀ w ∈ ws, WOk w) : Dm.joinT [] ws = Dm.pathT ws := by
  rw [Dm.joinT_path _ (by
    intro w hw
    cases ws with
    | nil => cases hw
    | cons x ws => injection hw with hw; subst hw; rw [(h x (by simp)).tx]; exact (h x (by simp)).ok.ne)]
  congr 1
  exact (List.map_congr_left fun w hw => (h w hw).tx).trans (List.map_id _)
theorem words_loop (rows : List (List Int)) (hr : ∀ r ∈ rows, ∀ x ∈ r, (Lit.int .u8 x).wf = true) (hm : rows.length ≤ 2147483647) :
    ∀ (d i k : Nat) (ws : List (List UInt8)), i + d = rows.length → d + 1001 < k → ws.length ≤ i → ws.length ≤ 100 → (∀ w ∈ ws, WOk w) →
      ∃ vs : List (List UInt8), laws_lgWords.l0 k (ws.map bs) rows (rows.length : Int) (i : Int) = some (vs.map bs) ∧ vs.length ≤ 101 ∧ vs ≠ [] ∧ ∀ w ∈ vs, WOk w := by
  intro d
  induction d with
  | zero =>
    intro i k ws hi hk h1 h2 hg
    obtain ⟨k, rfl⟩ : ∃ m, k = m + 1 := ⟨k - 1, by omega⟩
    simp only [laws_lgWords.l0]
    rw [if_neg (by omega)]
    by_cases h0 : ((ws.map bs).length : Int) = 0
    · have hws : ws = [] := by cases ws with | nil => rfl | cons w ws => simp at h0; omega
      subst hws
      rw [if_pos h0, if_pos (by simp)]
      exact ⟨[[102]], rfl, by simp, by simp, by intro w hw; rw [List.mem_singleton] at hw; subst hw; exact word_ok 102 [] (by simp) (by decide) (by decide) (by decide)⟩
    · rw [if_neg h0]
      exact ⟨ws, rfl, by omega, by rintro rfl; exact h0 rfl, hg⟩
  | succ d ih =>
    intro i k ws hi hk h1 h2 hg
    obtain ⟨k, rfl⟩ : ∃ m, k = m + 1 := ⟨k - 1, by omega⟩
    have hlt : i < rows.length := by omega
    simp only [laws_lgWords.l0]
    rw [if_pos (by omega), if_pos (by omega), if_pos (by omega), rdL rows i hlt, wrap_id (x := (i : Int) + 1) (by omega) (by omega)]
    have hrow := hr rows[i] (List.getElem_mem hlt)
    generalize rows[i] = r at hrow ⊢
    by_cases h100 : (i : Int) < 100
    · obtain ⟨c, t, et, htl, htp, hd, h5⟩ := word_f (r.take (mn (r.length : Int) 1000).toNat) (fun x h => hrow x (List.mem_of_mem_take h)) (by have := mn_take r.length; rw [List.length_take]; omega) k (by omega)
      obtain ⟨vs, e, hl, hne, hgs⟩ := ih (i + 1) k (ws ++ [c :: t]) (by omega) (by omega) (by rw [List.length_append]; simp; omega) (by rw [List.length_append]; simp; omega) (by
        intro w hw
        rcases List.mem_append.1 hw with hw | hw
        · exact hg w hw
        · rw [List.mem_singleton] at hw; subst hw; exact word_ok c t htl htp hd h5)
      refine ⟨vs, ?_, hl, hne, hgs⟩
      have hmn := mn_take r.length
      rw [if_pos h100, if_pos hmn.1, if_pos hmn.2.1]
      refine bd_of et ?_
      rw [if_pos (by rw [List.length_map]; omega), ← e, List.map_append]
      rfl
    · rw [if_neg h100]
      exact ih (i + 1) k ws (by omega) (by omega) (by omega) h2 hg
theorem words_f (rows : List (List Int)) (hr : ∀ r ∈ rows, ∀ x ∈ r, (Lit.int .u8 x).wf = true) (hm : rows.length ≤ 2147483647) (k : Nat) (hk : 2147485000 < k) :
    ∃ vs : List (List UInt8), laws_lgWords.f k rows = some (vs.map bs) ∧ vs.length ≤ 101 ∧ vs ≠ [] ∧ ∀ w ∈ vs, WOk w := by
  unfold laws_lgWords.f
  exact words_loop rows hr hm rows.length 0 k [] (by omega) (by omega) (by simp) (by simp) (by simp)
theorem words_names (vs : List (List UInt8)) (hl : vs.length ≤ 101) (h : ∀ w ∈ vs, WOk w) : (Dm.namesW vs).length ≤ 202101 := by
  have := names_len vs 1000 fun w hw => (h w hw).ln
  have := Nat.mul_le_mul_right (2 * 1000 + 1) hl
  omega
/-- What such a law says of the same name with its hash. -/
theorem told_words (vs : List (List UInt8)) (hl : vs.length ≤ 101) (h : ∀ w ∈ vs, WOk w) (l : List Int) (k : Nat) (hk : 2000 < k) (h8 : ((Dm.ones16 (Dm.lgBits l 16) : Nat) : Int) ≥ 8) :
    laws_lgTold.f k (vs.map bs) (bs (Dm.lgText l 16)) (bs (Dm.pathT vs)) = some true :=
  told_f vs l _ k (by omega) (by omega) (by have := words_names vs hl h; omega) (fun w hw => (h w hw).ok) h8 (words_join vs h)
theorem sym_words (vs : List (List UInt8)) (hl : vs.length ≤ 101) (hg : ∀ w ∈ vs, WOk w) (h : List UInt8) (hh : h.length = 16) (k : Nat) (hk : 2000 < k) : spec_LgSymbol.f k (vs.map bs) (bs h) = some (bs ([95, 90, 78] ++ (Dm.namesW vs ++ Dm.lgTail h))) :=
  sym_f vs h hh k (by omega) (by omega) (by have := words_names vs hl hg; omega) (fun w hw => by have := (hg w hw).ln; omega)
theorem path_words (vs : List (List UInt8)) (hl : vs.length ≤ 101) (hg : ∀ w ∈ vs, WOk w) (k : Nat) (hk : 2000 < k) : spec_LgPath.f k (vs.map bs) = some (bs (Dm.pathT vs)) :=
  path_f vs (fun w hw => by have := (hg w hw).ln; omega) (by omega) k (by omega)
theorem fits_loop (rows : List (List Int)) (hm : rows.length ≤ 2147483647) : ∀ (d i k : Nat), i + d = rows.length → d < k →
    ∃ b, laws_zzFits1.l0 k rows (rows.length : Int) (i : Int) = some b := by
  intro d
  induction d with
  | zero =>
    intro i k hi hk
    obtain ⟨k, rfl⟩ : ∃ m, k = m + 1 := ⟨k - 1, by omega⟩
    simp only [laws_zzFits1.l0]
    rw [if_neg (by omega)]; exact ⟨_, rfl⟩
  | succ d ih =>
    intro i k hi hk
    obtain ⟨k, rfl⟩ : ∃ m, k = m + 1 := ⟨k - 1, by omega⟩
    simp only [laws_zzFits1.l0]
    rw [if_pos (by omega), if_pos (by omega), if_pos (by omega), wrap_id (x := (i : Int) + 1) (by omega) (by omega)]
    split
    · exact ⟨_, rfl⟩
    · exact ih (i + 1) k (by omega) (by omega)
theorem fits_f (rows : List (List Int)) (k : Nat) (hk : rows.length < k) : ∃ b, laws_zzFits1.f k rows = some b ∧ (b = true → rows.length ≤ 2147483647) := by
  unfold laws_zzFits1.f
  by_cases h : (rows.length : Int) > 2147483647
  · rw [if_pos h]; exact ⟨false, rfl, fun h => by cases h⟩
  · rw [if_neg h]
    obtain ⟨b, hb⟩ := fits_loop rows (by omega) rows.length 0 k (by omega) hk
    exact ⟨b, hb, fun _ => by omega⟩

theorem letter_one : ∀ m : Fin 20, (⟨#[103, 104, 105, 106, 107, 108, 109, 110, 111, 112, 113, 114, 115, 116, 117, 118, 119, 120, 121, 122]⟩ : ByteArray).extract m.val (m.val + 1) = bs [UInt8.ofNat (103 + m.val)] ∧ Dm.hexd (UInt8.ofNat (103 + m.val)) = none := by decide +kernel

theorem nh_bounds (q m : Nat) (hq : q < 16) (hm : m < 20) : 0 ≤ (q : Int) ∧ (q : Int) ≤ ((16 : Nat) : Int) ∧ 0 ≤ (m : Int) ∧ (m : Int) ≤ ((m + 1 : Nat) : Int) ∧ ((m + 1 : Nat) : Int) ≤ 20 ∧ 0 ≤ ((q + 1 : Nat) : Int) ∧ ((q + 1 : Nat) : Int) ≤ ((16 : Nat) : Int) ∧ ((m : Int) + 1) % 256 = ((m + 1 : Nat) : Int) ∧ wrap64 ((q : Int) + 1) = ((q + 1 : Nat) : Int) := by
  refine ⟨by omega, by omega, by omega, by omega, by omega, by omega, by omega, by omega, ?_⟩
  rw [wrap_id (by omega) (by omega)]; omega
theorem nh_sizes (h : List UInt8) (c : UInt8) (q : Nat) (hq : q < 16) (hl : h.length = 16) : (bs (h.take q)).size + (bs [c]).size ≤ 9223372036854775807 ∧ (bs (h.take q ++ [c])).size + (bs (h.drop (q + 1))).size ≤ 9223372036854775807 ∧ (h.take q ++ [c] ++ h.drop (q + 1)).length = 16 := by
  refine ⟨?_, ?_, ?_⟩
  · rw [bs_size, bs_size, List.length_take]; simp; omega
  · rw [bs_size, bs_size, List.length_append, List.length_take, List.length_drop]; simp; omega
  · rw [List.length_append, List.length_append, List.length_take, List.length_drop]; simp; omega
theorem nh_lens (vs : List (List UInt8)) (hvl : vs.length ≤ 101) (hvg : ∀ w ∈ vs, WOk w) (h : List UInt8) (hl : h.length = 16) : 20 ≤ (Dm.namesW vs ++ Dm.lgTail h).length ∧ (Dm.namesW vs ++ Dm.lgTail h).length ≤ 35184372088000 := by
  have := words_names vs hvl hvg
  unfold Dm.lgTail
  rw [List.length_append, List.length_append, List.length_append, hl]
  constructor
  · simp
  · simp; omega
theorem u8_mod20 (a : Int) (h : (Lit.int .u8 a).wf = true) : ∃ m : Nat, Int.tmod a 20 = (m : Int) ∧ m < 20 := by
  have hr3 : 0 ≤ a ∧ a ≤ 255 := by simp [Lit.wf, IntKind.min, IntKind.max, IntKind.bits, IntKind.signed] at h; omega
  have m0 : 0 ≤ Int.tmod a 20 := Int.tmod_nonneg _ hr3.1
  have m1 := Int.tmod_lt_of_pos a (show (0 : Int) < 20 by omega)
  exact ⟨(Int.tmod a 20).toNat, by omega, by omega⟩

theorem FnLegacyNoHash : laws_FnLegacyNoHash.Pure := by
  intro l0 l1 a2 a3 hm0 hw0 hm1 _ hw1 ha2 ha3
  obtain ⟨K, hK⟩ : ∃ K : Nat, 2199023255552 + l0.length < K := ⟨_, Nat.lt_succ_self _⟩
  have hK2 : 2000 < K := by omega
  have hbad : laws_FnLegacyNoHash.j0 (K + 1) l0 l1 a2 a3 true = some true := by simp only [laws_FnLegacyNoHash.j0, if_true]
  refine ⟨K + 1, ?_⟩
  unfold laws_FnLegacyNoHash.f
  obtain ⟨b, hb, hb2⟩ := fits_f l0 (K + 1) (by omega)
  refine bd_of hb ?_
  cases b with
  | false => rw [if_neg (by decide)]; exact hbad
  | true =>
    rw [if_pos rfl]
    cases hz2 : decide ((l1.length : Int) > 2147483647) with
    | true => exact hbad
    | false =>
      have hl0 := hb2 rfl
      simp only [laws_FnLegacyNoHash.j0]
      rw [if_neg (by decide)]
      obtain ⟨vs, ev, hvl, hvn, hvg⟩ := words_f l0 (fun r h => (hw0 r h).2) hl0 K (by omega)
      obtain ⟨q, eq, hq⟩ := idAt_n a2 16 (by omega) (by omega)
      refine bd_of ev (bd_of (hash_f l1 hw1) (bd_of eq ?_))
      have h16 := Dm.lgText_len l1 16
      obtain ⟨m, hm, hm20⟩ := u8_mod20 a3 ha3
      have hq2 : q < 16 := by omega
      obtain ⟨b1, b2, b3, b4, b5, b6, b7, hme, hq1⟩ := nh_bounds q m hq2 hm20
      have hxe : (bs (Dm.lgText l1 16)).extract (q + 1) 16 = bs ((Dm.lgText l1 16).drop (q + 1)) := by have := bs_extract (Dm.lgText l1 16) (q + 1); rw [h16] at this; exact this
      obtain ⟨e1, e2⟩ := letter_one ⟨m, hm20⟩
      simp only at e1 e2
      rw [hm, hme, hq1]
      simp only [Int.toNat_natCast]
      rw [e1, bs_size, h16, bs_take, hxe]
      simp only [app]
      generalize hh : Dm.lgText l1 16 = h at *
      obtain ⟨s1, s2, ho16⟩ := nh_sizes h (UInt8.ofNat (103 + m)) q hq2 h16
      rw [if_pos b1, if_pos b2, if_pos b3, if_pos b4, if_pos b5, if_pos s1, if_pos b6, if_pos b7, if_pos s2]
      refine bd_of (sym_words vs hvl hvg _ ho16 K hK2) ?_
      have hsn : Dm.seen 0 (h.take q ++ [UInt8.ofNat (103 + m)] ++ h.drop (q + 1)) = none := Dm.seen_none _ _ ⟨UInt8.ofNat (103 + m), by simp, e2⟩
      refine bd_of ((old_f (Dm.namesW vs ++ Dm.lgTail (h.take q ++ [UInt8.ofNat (103 + m)] ++ h.drop (q + 1))) .bad false false false false false false false 0 (by omega) ?_ ?_ ?_).trans rfl) ?_
      · exact (nh_lens vs hvl hvg _ ho16).1
      · exact (nh_lens vs hvl hvg _ ho16).2
      · exact Dm.old_nohash _ _ _ ho16 hsn
      · simp only
        rw [if_neg (by decide)]
        by_cases h8 : ((Dm.ones16 (Dm.lgBits l1 16) : Nat) : Int) ≥ 8
        · rw [if_pos (by simpa using h8)]
          refine bd_of (path_words vs hvl hvg K hK2) ?_
          refine bd_of (a := true) ?_ rfl
          rw [← hh]
          exact told_words vs hvl hvg l1 K hK2 h8
        · rw [if_neg (by simpa using h8)]
end Go.Proofs.YtpmlnhddkbgefaaDoor.Pure
