/- FnLegacyNoNumber: its walk, by hand over the printed contracts of what it calls (a region that draws holds a cut of an argument). Conditions: none. -/
import Derived.Test.YtpmlnhddkbgefaaDoorPFnLegacyNoNumberx0
import Derived.Test.YtpmlnhddkbgefaaDoorPFnLegacyNoNumberx1
import Derived.Test.YtpmlnhddkbgefaaDoorPFnLegacyNoNumberx2
import Derived.Test.YtpmlnhddkbgefaaDoorM6
import Derived.Test.YtpmlnhddkbgefaaDoorN1
import Derived.Test.YtpmlnhddkbgefaaDoorWMore
import Derived.Laws.Bits64
import Derived.Deep.RegionWith
namespace Go.Proofs.YtpmlnhddkbgefaaDoor.PFnLegacyNoNumber
set_option linter.unusedVariables false
set_option linter.unusedSimpArgs false
open Go.RowKit Go.Proofs.YtpmlnhddkbgefaaDoorW.PrintWords Go.Proofs.YtpmlnhddkbgefaaDoorW.PrintLast Go.Proofs.YtpmlnhddkbgefaaDoorW.PrintMore

theorem getD_mem' {l : List UInt8} {k : Nat} (h : k < l.length) : l.getD k 0 ∈ l := by
  rw [List.getD_eq_getElem?_getD, List.getElem?_eq_getElem h]; exact List.getElem_mem h
theorem app (l m : List UInt8) : bs l ++ bs m = bs (l ++ m) := by
  apply ByteArray.ext
  simp [bs, ByteArray.data_append]
theorem bind_of {α β : Type} {x : Option α} {a : α} {f : α → Option β} {r : Option β} (h : x = some a) (h2 : f a = r) : x.bind f = r := by subst h; exact h2
theorem u8_range {l : List Int} (h : ∀ x ∈ l, (Lit.int .u8 x).wf = true) (i : Nat) : 0 ≤ rd l (i : Int) ∧ rd l (i : Int) ≤ 255 := by
  unfold rd
  rw [Int.toNat_natCast, List.getD_eq_getElem?_getD]
  cases hi : l[i]? with
  | none => simp
  | some x =>
    have := h x (List.mem_of_getElem? hi)
    simp [Lit.wf, IntKind.min, IntKind.max, IntKind.bits, IntKind.signed] at this
    simp; omega
theorem strOf_list (a : List UInt8) : strOfNums (a.map (fun c => (c.toNat : Int))) = bs a := by
  unfold strOfNums bs
  congr 2
  rw [List.map_map, show ((fun n : Int => UInt8.ofNat n.toNat) ∘ fun c : UInt8 => (c.toNat : Int)) = id from by funext c; simp]
  simp
def L63 : List UInt8 := [97, 98, 99, 100, 101, 102, 103, 104, 105, 106, 107, 108, 109, 110, 111, 112, 113, 114, 115, 116, 117, 118, 119, 120, 121, 122, 65, 66, 67, 68, 69, 70, 71, 72, 73, 74, 75, 76, 77, 78, 79, 80, 81, 82, 83, 84, 85, 86, 87, 88, 89, 90, 48, 49, 50, 51, 52, 53, 54, 55, 56, 57, 95]
theorem l63_at (q : Int) (h0 : 0 ≤ q) (h1 : q < 63) : bt (⟨#[97, 98, 99, 100, 101, 102, 103, 104, 105, 106, 107, 108, 109, 110, 111, 112, 113, 114, 115, 116, 117, 118, 119, 120, 121, 122, 65, 66, 67, 68, 69, 70, 71, 72, 73, 74, 75, 76, 77, 78, 79, 80, 81, 82, 83, 84, 85, 86, 87, 88, 89, 90, 48, 49, 50, 51, 52, 53, 54, 55, 56, 57, 95]⟩ : ByteArray) q = ((L63.getD q.toNat 0).toNat : Int) := by
  have hq : q.toNat < L63.length := by show q.toNat < 63; omega
  have := bt_bs L63 q.toNat hq
  rw [Int.toNat_of_nonneg h0] at this
  refine (show bt (bs L63) q = _ from this).trans ?_
  rw [List.getD_eq_getElem?_getD, List.getElem?_eq_getElem hq]; rfl
theorem l63_plain : ∀ c ∈ L63, Dm.isPlain c = true := by decide
theorem l63_letter : ∀ k : Fin 52, Dm.isDig (L63.getD k.val 0) = false ∧ L63.getD k.val 0 ≠ 95 := by decide +kernel
theorem word_loop (xs : List Int) (hx : ∀ x ∈ xs, (Lit.int .u8 x).wf = true) (hm : xs.length ≤ 1000) (hn : 0 < xs.length) :
    ∀ (d i : Nat) (p : List UInt8) (k : Nat), i + d = xs.length → d < k → p.length = i → (∀ c ∈ p, Dm.isPlain c = true) →
      ∃ (a : List UInt8) (c : UInt8), spec_AnWord.l0 k xs (p.map (fun c => (c.toNat : Int)) ++ List.replicate d 0) xs (xs.length : Int) (i : Int) = some (bs (a.set 0 c)) ∧ a.length = xs.length ∧ (∀ c ∈ a, Dm.isPlain c = true) ∧ Dm.isPlain c = true ∧ Dm.isDig c = false ∧ c ≠ 95 := by
  intro d
  induction d with
  | zero =>
    intro i p k hi hk hp hl
    obtain ⟨k, rfl⟩ : ∃ m, k = m + 1 := ⟨k - 1, by omega⟩
    simp only [spec_AnWord.l0]
    obtain ⟨r0, r1⟩ := u8_range hx 0
    have r0 : 0 ≤ rd xs 0 := r0
    have r1 : rd xs 0 ≤ 255 := r1
    rw [wrap_id (x := rd xs 0) (by omega) (by omega)]
    have hm0 : 0 ≤ Int.tmod (rd xs 0) 52 := Int.tmod_nonneg _ r0
    have hm1 : Int.tmod (rd xs 0) 52 < 52 := Int.tmod_lt_of_pos _ (by omega)
    generalize Int.tmod (rd xs 0) 52 = q at hm0 hm1 ⊢
    rw [if_neg (by omega), if_pos (by omega), if_pos hm0, if_pos (by omega), if_pos (by simp; omega), l63_at q hm0 (by omega)]
    have hlet := l63_letter ⟨q.toNat, by omega⟩
    simp only at hlet
    have hc := l63_plain _ (getD_mem' (show q.toNat < L63.length by show q.toNat < 63; omega))
    refine ⟨p, L63.getD q.toNat 0, ?_, by omega, hl, hc, hlet.1, hlet.2⟩
    rw [List.replicate_zero, List.append_nil]
    generalize L63.getD q.toNat 0 = c
    rw [← strOf_list, List.map_set]; rfl
  | succ d ih =>
    intro i p k hi hk hp hl
    obtain ⟨k, rfl⟩ : ∃ m, k = m + 1 := ⟨k - 1, by omega⟩
    obtain ⟨r0, r1⟩ := u8_range hx i
    simp only [spec_AnWord.l0]
    rw [wrap_id (x := rd xs (i : Int)) (by omega) (by omega)]
    have hm0 : 0 ≤ Int.tmod (rd xs (i : Int)) 62 := Int.tmod_nonneg _ r0
    have hm1 : Int.tmod (rd xs (i : Int)) 62 < 62 := Int.tmod_lt_of_pos _ (by omega)
    generalize Int.tmod (rd xs (i : Int)) 62 = q at hm0 hm1 ⊢
    rw [if_pos (by omega), if_pos (by omega), if_pos (by omega), if_pos hm0, if_pos (by omega), if_pos (by simp; omega), wrap_id (x := (i : Int) + 1) (by omega) (by omega), l63_at q hm0 (by omega)]
    have hc := l63_plain _ (getD_mem' (show q.toNat < L63.length by show q.toNat < 63; omega))
    generalize L63.getD q.toNat 0 = c at hc
    have hset : (p.map (fun c : UInt8 => (c.toNat : Int)) ++ List.replicate (d + 1) 0).set ((i : Int)).toNat (c.toNat : Int) = (p ++ [c]).map (fun c : UInt8 => (c.toNat : Int)) ++ List.replicate d 0 := by
      rw [Int.toNat_natCast, List.set_append_right _ _ (by rw [List.length_map]; omega)]
      simp [hp, List.replicate_succ]
    rw [hset]
    exact ih (i + 1) (p ++ [c]) k (by omega) (by omega) (by simp; omega) (by
      intro x hx2
      rcases List.mem_append.1 hx2 with hx2 | hx2
      · exact hl x hx2
      · obtain rfl := List.mem_singleton.1 hx2; exact hc)
theorem word_f (xs : List Int) (hx : ∀ x ∈ xs, (Lit.int .u8 x).wf = true) (hm : xs.length ≤ 1000) (k : Nat) (hk : 1000 < k) :
    ∃ (c : UInt8) (r : List UInt8), spec_AnWord.f k xs = some (bs (c :: r)) ∧ (c :: r).length ≤ 1000 ∧ (c :: r).all Dm.isPlain = true ∧ Dm.isDig c = false ∧ c ≠ 95 := by
  unfold spec_AnWord.f
  by_cases h0 : (xs.length : Int) = 0
  · rw [if_pos h0]; exact ⟨97, [], rfl, by simp, by decide, by decide, by decide⟩
  · rw [if_neg h0, if_pos (by omega), if_pos (by omega)]
    obtain ⟨a, c, e, h1, h2, h3, h4, h5⟩ := word_loop xs hx hm (by omega) xs.length 0 [] k (by omega) (by omega) rfl (by simp)
    cases a with
    | nil => simp at h1; omega
    | cons x a =>
      refine ⟨c, a, by simpa using e, by rw [List.length_cons] at h1 ⊢; omega, ?_, h4, h5⟩
      rw [List.all_cons, h3, Bool.true_and]
      exact List.all_eq_true.2 fun y hy => h2 y (List.mem_cons_of_mem _ hy)
theorem bd_of {α β : Type} {x : Option α} {a : α} {f : α → Option β} {r : Option β} (h : x = some a) (h2 : f a = r) : x.bind f = r := by subst h; exact h2
theorem mn_take (n : Nat) : 0 ≤ mn (n : Int) 1000 ∧ mn (n : Int) 1000 ≤ (n : Int) ∧ (mn (n : Int) 1000).toNat ≤ 1000 := by unfold mn; split <;> omega
theorem itoa_f (n : Nat) (h : n < 9223372036854775808) : strconv_Itoa.f (n : Int) = some (bs (Lib.decDigits n)) := by
  unfold strconv_Itoa.f
  rw [if_pos (by omega), Dm.itoa_nat]
theorem rdO {α : Type} {x : α} (l : List α) (i : Nat) (h : i < l.length) : rdOf x l (i : Int) = l[i] := by
  unfold rdOf
  rw [Int.toNat_natCast, List.getD_eq_getElem?_getD, List.getElem?_eq_getElem h]; rfl
/-! ### the hash -/
theorem hash_f (l : List Int) (h : ∀ x ∈ l, (Lit.int .u8 x).wf = true) : laws_lgHash.f l = some (bs (Dm.lgText l 16), decide (((Dm.ones16 (Dm.lgBits l 16) : Nat) : Int) ≥ 8)) := by
  unfold laws_lgHash.f spec_LgHash.f
  rw [if_pos (fun x hx => by
    have := h x hx
    simp [Lit.wf, IntKind.min, IntKind.max, IntKind.bits, IntKind.signed] at this
    omega)]
  rfl
/-! ### the whole name -/
theorem sym_loop (ws : List (List UInt8)) (h : List UInt8) (hh : h.length = 16) :
    ∀ (d i : Nat) (k : Nat) (t : List UInt8), i + d = ws.length → d < k → ws.length ≤ 1000000 → t.length + (Dm.namesW (ws.drop i)).length ≤ 17592186044416 → (∀ w ∈ ws, w.length ≤ 17592186044416) →
      spec_LgSymbol.l0 k (bs h) (bs t) (ws.map bs) ((ws.map bs).length : Int) (i : Int) = some (bs (t ++ (Dm.namesW (ws.drop i) ++ Dm.lgTail h))) := by
  intro d
  induction d with
  | zero =>
    intro i k t hi hk hm hl hw
    obtain ⟨k, rfl⟩ : ∃ m, k = m + 1 := ⟨k - 1, by omega⟩
    simp only [spec_LgSymbol.l0]
    rw [if_neg (by rw [List.length_map]; omega), List.drop_of_length_le (by omega)]
    rw [show (⟨#[49, 55, 104]⟩ : ByteArray) = bs [49, 55, 104] from rfl, show (⟨#[69]⟩ : ByteArray) = bs [69] from rfl]
    simp only [app]
    rw [if_pos (by rw [bs_size]; omega), if_pos (by rw [bs_size, bs_size, List.length_append]; simp; omega), if_pos (by rw [bs_size, List.length_append, List.length_append]; simp; omega)]
    unfold Dm.lgTail Dm.namesW
    simp
  | succ d ih =>
    intro i k t hi hk hm hl hw
    obtain ⟨k, rfl⟩ : ∃ m, k = m + 1 := ⟨k - 1, by omega⟩
    have hlt : i < ws.length := by omega
    have hw1 := hw ws[i] (List.getElem_mem hlt)
    simp only [spec_LgSymbol.l0]
    rw [if_pos (by rw [List.length_map]; omega), if_pos (by omega), if_pos (by rw [List.length_map]; omega), rdO _ i (by rw [List.length_map]; omega), List.getElem_map, wrap_id (x := (i : Int) + 1) (by omega) (by omega)]
    rw [List.drop_eq_getElem_cons hlt] at hl ⊢
    have hdl := Dm.digits_len ws[i].length
    simp only [Dm.namesW, List.length_append] at hl
    rw [bs_size]
    refine bd_of (itoa_f ws[i].length (by omega)) ?_
    simp only [app]
    rw [if_pos (by rw [bs_size]; omega), if_pos (by rw [bs_size, bs_size, List.length_append]; omega)]
    have := ih (i + 1) k (t ++ (Lib.decDigits ws[i].length ++ ws[i])) (by omega) (by omega) hm (by rw [List.length_append, List.length_append]; omega) hw
    rw [show ((i : Int) + 1) = ((i + 1 : Nat) : Int) by omega, this]
    simp only [Dm.namesW, List.append_assoc]
theorem sym_f (ws : List (List UInt8)) (h : List UInt8) (hh : h.length = 16) (k : Nat) (hk : ws.length < k) (hm : ws.length ≤ 1000000) (hl : (Dm.namesW ws).length ≤ 17592186044000) (hw : ∀ w ∈ ws, w.length ≤ 17592186044416) :
    spec_LgSymbol.f k (ws.map bs) (bs h) = some (bs ([95, 90, 78] ++ (Dm.namesW ws ++ Dm.lgTail h))) :=
  sym_loop ws h hh ws.length 0 k [95, 90, 78] (by omega) hk hm (by simp; omega) hw
/-! ### what is told of it -/
theorem cut0 (t : List UInt8) : Dm.cutMx 0 t = t := by unfold Dm.cutMx; rw [if_neg (by omega)]
theorem old_f (n : List UInt8) (t : Dm.LR) (o0 o1 o2 o3 o4 o5 o6 : Bool) (o7 : Int) (h7 : 0 ≤ o7 ∧ o7 ≤ 30) (hn : 20 ≤ n.length) (hl : n.length ≤ 35184372088000) (h : Dm.old (mxOf o7) n = t) :
    impl_Old.f (bs ([95, 90, 78] ++ n)) o0 o1 o2 o3 o4 o5 o6 o7 = ansOld t := by
  unfold impl_Old.f
  rw [if_pos ⟨by rw [bs_size]; simp; omega, by rw [bs_size]; simp; omega, h7.1, h7.2⟩, bs_dl]
  show ansOld (Dm.old (mxOf o7) n) = _
  rw [h]
theorem told_f (ws : List (List UInt8)) (l : List Int) (t : List UInt8) (k : Nat) (hk : ws.length < k) (hm : ws.length ≤ 1000000) (hl : (Dm.namesW ws).length ≤ 17592186044000) (hok : ∀ w ∈ ws, Dm.LgOk w)
    (h8 : ((Dm.ones16 (Dm.lgBits l 16) : Nat) : Int) ≥ 8) (ht : Dm.joinT [] ws = t) : laws_lgTold.f k (ws.map bs) (bs (Dm.lgText l 16)) (bs t) = some true := by
  unfold laws_lgTold.f
  have h16 := Dm.lgText_len l 16
  refine bd_of (sym_f ws _ h16 k hk hm hl (fun w hw => by have := (hok w hw).ln; omega)) ?_
  refine bd_of ((old_f (Dm.namesW ws ++ Dm.lgTail (Dm.lgText l 16)) (.told t) false false false false false false false 0 (by omega) ?_ ?_ ?_).trans rfl) ?_
  · unfold Dm.lgTail; simp [h16]
  · unfold Dm.lgTail; simp [h16]; omega
  · show Dm.old 0 _ = _
    rw [Dm.old_read 0 ws _ _ h16 (Dm.seen_text l 16) (by omega) hok, cut0, ht]
  · rw [if_pos rfl]; simp
/-! ### plain names -/
theorem plain_not (c : UInt8) (h : Dm.isPlain c = true) : c ≠ 36 ∧ c ≠ 46 := by
  constructor
  · rintro rfl; exact absurd h (by decide)
  · rintro rfl; exact absurd h (by decide)
theorem plain_name (c : UInt8) (r : List UInt8) (h : (c :: r).all Dm.isPlain = true) (h5 : c ≠ 95) : Dm.nametext (c :: r) = c :: r := by
  rw [Dm.nametext_plain _ (by simp [h5])]
  have := Dm.tl_text (c :: r) [] (fun x hx => plain_not x (List.all_eq_true.1 h x hx))
  rw [List.append_nil] at this
  rw [this, Dm.tl_nil, List.append_nil]
theorem plain_ok (c : UInt8) (r : List UInt8) (hl : (c :: r).length ≤ 1000) (hd : Dm.isDig c = false) : Dm.LgOk (c :: r) := ⟨by simp, by omega, fun x t e => by injection e with e _; rw [← e]; exact hd⟩
theorem names_len (ws : List (List UInt8)) (B : Nat) (h : ∀ w ∈ ws, w.length ≤ B) : (Dm.namesW ws).length ≤ ws.length * (2 * B + 1) := by
  induction ws with
  | nil => simp [Dm.namesW]
  | cons w ws ih =>
    have h1 := h w (by simp)
    have h2 := ih fun x hx => h x (by simp [hx])
    have h3 := Dm.digits_len w.length
    simp only [Dm.namesW, List.length_append, List.length_cons]
    rw [Nat.add_mul]
    omega
/-! ### words of a path -/
theorem path_loop (ws : List (List UInt8)) (hB : ∀ w ∈ ws, w.length ≤ 100000) (hm : ws.length ≤ 1000) :
    ∀ (d i k : Nat) (t : List UInt8), i + d = ws.length → 0 < i → d < k → t.length ≤ i * 100002 →
      spec_LgPath.l0 k (bs t) (ws.map bs) ((ws.map bs).length : Int) (i : Int) = some (bs (t ++ (ws.drop i).flatMap fun t => 58 :: 58 :: t)) := by
  intro d
  induction d with
  | zero =>
    intro i k t hi h0 hk ht
    obtain ⟨k, rfl⟩ : ∃ m, k = m + 1 := ⟨k - 1, by omega⟩
    simp only [spec_LgPath.l0]
    rw [if_neg (by rw [List.length_map]; omega), List.drop_of_length_le (by omega)]
    simp
  | succ d ih =>
    intro i k t hi h0 hk ht
    obtain ⟨k, rfl⟩ : ∃ m, k = m + 1 := ⟨k - 1, by omega⟩
    have hlt : i < ws.length := by omega
    have hw1 := hB ws[i] (List.getElem_mem hlt)
    simp only [spec_LgPath.l0]
    rw [if_pos (by rw [List.length_map]; omega), if_pos (by omega), if_pos (by rw [List.length_map]; omega), if_pos (by omega), rdO _ i (by rw [List.length_map]; omega), List.getElem_map, wrap_id (x := (i : Int) + 1) (by omega) (by omega)]
    rw [show (⟨#[58, 58]⟩ : ByteArray) = bs [58, 58] from rfl]
    simp only [app]
    rw [if_pos (by rw [bs_size]; omega), if_pos (by rw [bs_size, bs_size, List.length_append]; simp; omega)]
    have := ih (i + 1) k (t ++ [58, 58] ++ ws[i]) (by omega) (by omega) (by omega) (by rw [List.length_append, List.length_append, Nat.add_mul]; simp; omega)
    rw [show ((i : Int) + 1) = ((i + 1 : Nat) : Int) by omega, this, List.drop_eq_getElem_cons hlt]
    simp only [List.flatMap_cons, List.append_assoc, List.cons_append, List.nil_append]
theorem path_f (ws : List (List UInt8)) (hB : ∀ w ∈ ws, w.length ≤ 100000) (hm : ws.length ≤ 1000) (k : Nat) (hk : 1001 < k) : spec_LgPath.f k (ws.map bs) = some (bs (Dm.pathT ws)) := by
  unfold spec_LgPath.f
  obtain ⟨k, rfl⟩ : ∃ m, k = m + 1 := ⟨k - 1, by omega⟩
  cases ws with
  | nil => simp only [spec_LgPath.l0]; rw [if_neg (by simp)]; rfl
  | cons w ws =>
    have hw1 := hB w (by simp)
    simp only [spec_LgPath.l0]
    rw [if_pos (by simp <;> omega), if_pos (by omega), if_pos (by simp <;> omega), if_neg (by omega)]
    have e : rdOf ByteArray.empty ((w :: ws).map bs) 0 = bs w := rdO ((w :: ws).map bs) 0 (by simp)
    rw [e, show (⟨#[]⟩ : ByteArray) = bs [] from rfl]
    simp only [app]
    rw [if_pos (by rw [bs_size, bs_size]; simp; omega), wrap_id (x := (0 : Int) + 1) (by omega) (by omega)]
    have := path_loop (w :: ws) hB hm ws.length 1 k w (by simp; omega) (by omega) (by simp at hm; omega) (by omega)
    rw [show ((0 : Int) + 1) = ((1 : Nat) : Int) from rfl, List.nil_append, this]
    simp [Dm.pathT]
theorem rdL (rows : List (List Int)) (i : Nat) (h : i < rows.length) : rd_L2 rows (i : Int) = rows[i] := by
  unfold rd_L2
  rw [Int.toNat_natCast, List.getD_eq_getElem?_getD, List.getElem?_eq_getElem h]; rfl
/-! ### words -/
structure WOk (w : List UInt8) : Prop where
  ok : Dm.LgOk w
  ln : w.length ≤ 1000
  tx : Dm.nametext w = w
theorem word_ok (c : UInt8) (r : List UInt8) (hl : (c :: r).length ≤ 1000) (hp : (c :: r).all Dm.isPlain = true) (hd : Dm.isDig c = false) (h5 : c ≠ 95) : WOk (c :: r) := ⟨plain_ok c r hl hd, hl, plain_name c r hp h5⟩
theorem words_join (ws : List (List UInt8)) (h : ∀ w ∈ ws, WOk w) : Dm.joinT [] ws = Dm.pathT ws := by
  rw [Dm.joinT_path _ (by
    intro w hw
    cases ws with
    | nil => cases hw
    | cons x ws => injection hw with hw; subst hw; rw [(h x (by simp)).tx]; exact (h x (by simp)).ok.ne)]
  congr 1
  exact (List.map_congr_left fun w hw => (h w hw).tx).trans (List.map_id _)
theorem words_loop (rows : List (List Int)) (hr : ∀ r ∈ rows, ∀ x ∈ r, (Lit.int .u8 x).wf = true) (hm : rows.length ≤ 2147483647) :
    ∀ (d i k : Nat) (ws : List (List UInt8)), i + d = rows.length → d + 1001 < k → ws.length ≤ i → ws.length ≤ 100 → (∀ w ∈ ws, WOk w) →
      ∃ vs : List (List UInt8), laws_lgWords.l0 k (ws.map bs) rows (rows.length : Int) (i : Int) = some (vs.map bs) ∧ vs.length ≤ 101 ∧ vs ≠ [] ∧ ∀ w ∈ vs, WOk w := by
  intro d
  induction d with
  | zero =>
    intro i k ws hi hk h1 h2 hg
    obtain ⟨k, rfl⟩ : ∃ m, k = m + 1 := ⟨k - 1, by omega⟩
    simp only [laws_lgWords.l0]
    rw [if_neg (by omega)]
    by_cases h0 : ((ws.map bs).length : Int) = 0
    · have hws : ws = [] := by cases ws with | nil => rfl | cons w ws => simp at h0; omega
      subst hws
      rw [if_pos h0, if_pos (by simp)]
      exact ⟨[[102]], rfl, by simp, by simp, by intro w hw; rw [List.mem_singleton] at hw; subst hw; exact word_ok 102 [] (by simp) (by decide) (by decide) (by decide)⟩
    · rw [if_neg h0]
      exact ⟨ws, rfl, by omega, by rintro rfl; exact h0 rfl, hg⟩
  | succ d ih =>
    intro i k ws hi hk h1 h2 hg
    obtain ⟨k, rfl⟩ : ∃ m, k = m + 1 := ⟨k - 1, by omega⟩
    have hlt : i < rows.length := by omega
    simp only [laws_lgWords.l0]
    rw [if_pos (by omega), if_pos (by omega), if_pos (by omega), rdL rows i hlt, wrap_id (x := (i : Int) + 1) (by omega) (by omega)]
    have hrow := hr rows[i] (List.getElem_mem hlt)
    generalize rows[i] = r at hrow ⊢
    by_cases h100 : (i : Int) < 100
    · obtain ⟨c, t, et, htl, htp, hd, h5⟩ := word_f (r.take (mn (r.length : Int) 1000).toNat) (fun x h => hrow x (List.mem_of_mem_take h)) (by have := mn_take r.length; rw [List.length_take]; omega) k (by omega)
      obtain ⟨vs, e, hl, hne, hgs⟩ := ih (i + 1) k (ws ++ [c :: t]) (by omega) (by omega) (by rw [List.length_append]; simp; omega) (by rw [List.length_append]; simp; omega) (by
        intro w hw
        rcases List.mem_append.1 hw with hw | hw
        · exact hg w hw
        · rw [List.mem_singleton] at hw; subst hw; exact word_ok c t htl htp hd h5)
      refine ⟨vs, ?_, hl, hne, hgs⟩
      have hmn := mn_take r.length
      rw [if_pos h100, if_pos hmn.1, if_pos hmn.2.1]
      refine bd_of et ?_
      rw [if_pos (by rw [List.length_map]; omega), ← e, List.map_append]
      rfl
    · rw [if_neg h100]
      exact ih (i + 1) k ws (by omega) (by omega) (by omega) h2 hg
theorem words_f (rows : List (List Int)) (hr : ∀ r ∈ rows, ∀ x ∈ r, (Lit.int .u8 x).wf = true) (hm : rows.length ≤ 2147483647) (k : Nat) (hk : 2147485000 < k) :
    ∃ vs : List (List UInt8), laws_lgWords.f k rows = some (vs.map bs) ∧ vs.length ≤ 101 ∧ vs ≠ [] ∧ ∀ w ∈ vs, WOk w := by
  unfold laws_lgWords.f
  exact words_loop rows hr hm rows.length 0 k [] (by omega) (by omega) (by simp) (by simp) (by simp)
theorem words_names (vs : List (List UInt8)) (hl : vs.length ≤ 101) (h : ∀ w ∈ vs, WOk w) : (Dm.namesW vs).length ≤ 202101 := by
  have := names_len vs 1000 fun w hw => (h w hw).ln
  have := Nat.mul_le_mul_right (2 * 1000 + 1) hl
  omega
/-- What such a law says of the same name with its hash. -/
theorem told_words (vs : List (List UInt8)) (hl : vs.length ≤ 101) (h : ∀ w ∈ vs, WOk w) (l : List Int) (k : Nat) (hk : 2000 < k) (h8 : ((Dm.ones16 (Dm.lgBits l 16) : Nat) : Int) ≥ 8) :
    laws_lgTold.f k (vs.map bs) (bs (Dm.lgText l 16)) (bs (Dm.pathT vs)) = some true :=
  told_f vs l _ k (by omega) (by omega) (by have := words_names vs hl h; omega) (fun w hw => (h w hw).ok) h8 (words_join vs h)
theorem sym_words (vs : List (List UInt8)) (hl : vs.length ≤ 101) (hg : ∀ w ∈ vs, WOk w) (h : List UInt8) (hh : h.length = 16) (k : Nat) (hk : 2000 < k) : spec_LgSymbol.f k (vs.map bs) (bs h) = some (bs ([95, 90, 78] ++ (Dm.namesW vs ++ Dm.lgTail h))) :=
  sym_f vs h hh k (by omega) (by omega) (by have := words_names vs hl hg; omega) (fun w hw => by have := (hg w hw).ln; omega)
theorem path_words (vs : List (List UInt8)) (hl : vs.length ≤ 101) (hg : ∀ w ∈ vs, WOk w) (k : Nat) (hk : 2000 < k) : spec_LgPath.f k (vs.map bs) = some (bs (Dm.pathT vs)) :=
  path_f vs (fun w hw => by have := (hg w hw).ln; omega) (by omega) k (by omega)
theorem fits_loop (rows : List (List Int)) (hm : rows.length ≤ 2147483647) : ∀ (d i k : Nat), i + d = rows.length → d < k →
    ∃ b, laws_zzFits1.l0 k rows (rows.length : Int) (i : Int) = some b := by
  intro d
  induction d with
  | zero =>
    intro i k hi hk
    obtain ⟨k, rfl⟩ : ∃ m, k = m + 1 := ⟨k - 1, by omega⟩
    simp only [laws_zzFits1.l0]
    rw [if_neg (by omega)]; exact ⟨_, rfl⟩
  | succ d ih =>
    intro i k hi hk
    obtain ⟨k, rfl⟩ : ∃ m, k = m + 1 := ⟨k - 1, by omega⟩
    simp only [laws_zzFits1.l0]
    rw [if_pos (by omega), if_pos (by omega), if_pos (by omega), wrap_id (x := (i : Int) + 1) (by omega) (by omega)]
    split
    · exact ⟨_, rfl⟩
    · exact ih (i + 1) k (by omega) (by omega)
theorem fits_f (rows : List (List Int)) (k : Nat) (hk : rows.length < k) : ∃ b, laws_zzFits1.f k rows = some b ∧ (b = true → rows.length ≤ 2147483647) := by
  unfold laws_zzFits1.f
  by_cases h : (rows.length : Int) > 2147483647
  · rw [if_pos h]; exact ⟨false, rfl, fun h => by cases h⟩
  · rw [if_neg h]
    obtain ⟨b, hb⟩ := fits_loop rows (by omega) rows.length 0 k (by omega) hk
    exact ⟨b, hb, fun _ => by omega⟩

theorem drawn_below {w w' : World} (h : Drawn0 w w') : Below w.heap.size w w' := by obtain ⟨n, rfl⟩ := h; exact pw_below_drewN (Below.refl _ _) n
theorem fits_calls (A0 : Option Addr) (c0 : Nat) (l0 : List (List Int)) (w : World) (hr0 : Kd.C (Kd.slice 5 (Kd.int .u8)) w A0 l0.length l0) (hc0 : l0.length ≤ c0) :
    ∃ b, Calls Tryd.prog 35 #[.slice A0 l0.length c0] w (fun e w' => e = .returned (.bool b) ∧ Below w.heap.size w w') ∧ (b = true → l0.length ≤ 2147483647) := by
  obtain ⟨b, hb, h2⟩ := fits_f l0 (l0.length + 1) (Nat.lt_succ_self _)
  exact ⟨b, (laws_zzFits1.calls _ A0 c0 l0 b w hr0 hc0 hb).mono fun e w' h => ⟨h.1, drawn_below h.2⟩, h2⟩
theorem words_calls (vs : List (List UInt8)) (K : Nat) (A0 : Option Addr) (c0 : Nat) (l0 : List (List Int)) (w : World) (hr0 : Kd.C (Kd.slice 5 (Kd.int .u8)) w A0 l0.length l0) (hc0 : l0.length ≤ c0) (h : laws_lgWords.f K l0 = some (vs.map bs)) :
    Calls Tryd.prog 36 #[.slice A0 l0.length c0] w fun e w' => ∃ A c, e = .returned (.slice A (vs.map bs).length c) ∧ (vs.map bs).length ≤ c ∧ Kd.C Kd.string w' A (vs.map bs).length (vs.map bs) ∧ Below w.heap.size w w' := by
  refine (laws_lgWords.calls K A0 c0 l0 _ w hr0 hc0 h).mono ?_
  rintro e w' ⟨v, rfl, hr, hb⟩
  obtain ⟨A, c, rfl, hl, hc⟩ := Kd.R_reads hr
  exact ⟨A, c, rfl, hl, hc, hb⟩

theorem no_take (A : Option Addr) (c : Nat) (l : List Int) (m : Int) (m0 : 0 ≤ m) (m1 : m ≤ l.length) (hc : l.length ≤ c) :
    (∀ W : World, (Instr.slice 27 (.slice A l.length c) none (some (.int .i64 m)) none).run Tryd.prog W = .ok (.slice A (l.take m.toNat).length c) W) ∧
      (∀ w : World, ReadsOf (Value.int .u8) 0 w A l.length l → ReadsOf (Value.int .u8) 0 w A (l.take m.toNat).length (l.take m.toNat)) ∧ (l.take m.toNat).length ≤ c := by
  obtain ⟨i0, hi, _, hsz, _⟩ := info_parts info5
  exact print_take_of (P := Tryd.prog) (Value.int .u8) 0 27 5 .i64 Tryd.underlying27 hi hsz A c l m m0 m1 hc
def laws_FnLegacyNoNumber.Pure : Prop := True
set_option maxHeartbeats 8000000 in
set_option maxRecDepth 100000 in
theorem nonum_calls (A0 : Option Addr) (c0 : Nat) (l0 : List (List Int)) (A1 : Option Addr) (c1 : Nat) (l1 : List Int) (A2 : Option Addr) (c2 : Nat) (l2 : List Int) (w : World) (hr0 : Kd.C (Kd.slice 5 (Kd.int .u8)) w A0 l0.length l0) (hc0 : l0.length ≤ c0)
    (hr1 : Kd.C (Kd.int .u8) w A1 l1.length l1) (hc1 : l1.length ≤ c1) (hr2 : Kd.C (Kd.int .u8) w A2 l2.length l2) (hc2 : l2.length ≤ c2) (hT : StrIs w)
    (hw0 : ∀ r ∈ l0, ∀ x ∈ r, (Lit.int .u8 x).wf = true) (hw1 : ∀ x ∈ l1, (Lit.int .u8 x).wf = true) (hw2 : ∀ x ∈ l2, (Lit.int .u8 x).wf = true) :
    Calls Tryd.prog 11 #[.slice A0 l0.length c0, .slice A1 l1.length c1, .slice A2 l2.length c2] w fun e w' => e = .returned (.bool true) ∧ Below w.heap.size w w' := by
  have hu := Tryd.underlying67
  obtain ⟨b, hF, hb2⟩ := fits_calls A0 c0 l0 w hr0 hc0
  have HF := Lib.hid hF
  clear hF
  by_cases hbad : b = false ∨ (l1.length : Int) > 2147483647 ∨ (l2.length : Int) > 2147483647
  · clear hb2 hr0 hr1 hr2 hT hw0 hw1 hw2 hc0 hc1 hc2
    have hc : (b = false) ∨ (b = true ∧ 2147483647 < (l1.length : Int)) ∨ (b = true ∧ ¬ 2147483647 < (l1.length : Int) ∧ 2147483647 < (l2.length : Int)) := by
      cases b with
      | false => exact .inl rfl
      | true =>
        rcases hbad with h | h | h
        · cases h
        · exact .inr (.inl ⟨rfl, h⟩)
        · by_cases h1 : 2147483647 < (l1.length : Int)
          · exact .inr (.inl ⟨rfl, h1⟩)
          · exact .inr (.inr ⟨rfl, h1, h⟩)
    clear hbad
    rcases hc with rfl | ⟨rfl, h1⟩ | ⟨rfl, h1, h2⟩
    all_goals
      go_enter Tryd.func11, Tryd.ntmps11
      go_wp2_with (go_at_call 35; refine HF.out.mono ?_; rintro e w1 ⟨rfl, hb⟩)
      go_ret
      exact ⟨rfl, hb⟩
  · obtain ⟨rfl, g1, g2⟩ : b = true ∧ ¬ 2147483647 < (l1.length : Int) ∧ ¬ 2147483647 < (l2.length : Int) := by
      cases b with
      | false => exact absurd (.inl rfl) hbad
      | true => exact ⟨rfl, fun h => hbad (.inr (.inl h)), fun h => hbad (.inr (.inr h))⟩
    obtain ⟨K, hK⟩ : ∃ K : Nat, 2147485000 < K := ⟨_, Nat.lt_succ_self _⟩
    obtain ⟨vs, ev, hvl, hvn, hvg⟩ := words_f l0 hw0 (hb2 rfl) K hK
    have hK2 : 2000 < K := by omega
    obtain ⟨m, hmn⟩ : ∃ m : Int, mn (l1.length : Int) 1000 = m := ⟨_, rfl⟩
    obtain ⟨m0, m1, m2⟩ := mn_take l1.length
    rw [hmn] at m0 m1 m2
    obtain ⟨x, t, et, htl, htp, hd, h5⟩ := word_f (l1.take m.toNat) (fun y h => hw1 y (List.mem_of_mem_take h)) (by rw [List.length_take]; omega) K (by omega)
    have h16 := Dm.lgText_len l2 16
    have HWC := Lib.hid (fun w' hr hc => words_calls vs K A0 c0 l0 w' hr hc ev)
    have HHC := Lib.hid (fun w' hr => laws_lgHash.calls A2 c2 l2 _ _ w' hr hc2 (hash_f l2 hw2))
    have HSC := Lib.hid (fun A c w' hr hc hT => spec_LgSymbol.calls K A c (vs.map bs) _ _ w' hr hc hT (sym_words vs hvl hvg _ h16 K hK2))
    obtain ⟨hcut, hA, hC⟩ := no_take A1 c1 l1 m m0 (by omega) hc1
    have HAW := Lib.hid (fun w' (hr : Kd.C (Kd.int .u8) w' A1 l1.length l1) => spec_AnWord.calls K A1 c1 (l1.take m.toNat) _ w' (Kd.C_of_reads (h1 := fun _ => rfl) (hA w' (Kd.reads_of_C (h1 := fun _ => rfl) hr))) hC et)
    have HPC := Lib.hid (fun A c w' hr hc => spec_LgPath.calls K A c (vs.map bs) _ w' hr hc (path_words vs hvl hvg K hK2))
    have HTC := Lib.hid (fun h8 A c w' hr hc hT => laws_lgTold.calls K A c (vs.map bs) _ _ true w' hr hc hT (told_words vs hvl hvg l2 K hK2 h8))
    obtain ⟨P, hP⟩ : ∃ P : List UInt8, P = [95, 90, 78] ++ Dm.namesW vs := ⟨_, rfl⟩
    obtain ⟨Q, hQ⟩ : ∃ Q : List UInt8, Q = Dm.lgTail (Dm.lgText l2 16) := ⟨_, rfl⟩
    have hq20 : Q.length = 20 := by rw [hQ]; unfold Dm.lgTail; simp [h16]
    have hnl := words_names vs hvl hvg
    have hpl : P.length ≤ 300000 := by rw [hP]; simp; omega
    have HOL := Lib.hid (fun w' => impl_Old.calls (bs P ++ bs (x :: t) ++ bs Q) false false false false false false false 0 ⟨#[]⟩ false w' (by
      rw [hP, hQ, app, app, List.append_assoc, List.append_assoc]
      refine (old_f _ .bad false false false false false false false 0 (by omega) ?_ ?_ ?_).trans rfl
      · rw [← hQ, List.length_append, List.length_append, hq20]; omega
      · rw [← hQ, List.length_append, List.length_append, hq20]; omega
      · show Dm.old 0 _ = _
        rw [← List.append_assoc]
        exact Dm.old_letters vs (x :: t) _ _ h16 (Dm.seen_text l2 16) (fun w hw => (hvg w hw).ok) ⟨x, t, rfl, hd⟩))
    rw [← List.append_assoc, ← hP, ← hQ] at HSC
    have hsl : (P ++ Q).length = P.length + 20 := by rw [List.length_append, hq20]
    have hx1 : (bs (P ++ Q)).extract 0 P.length = bs P := by rw [bs_take, List.take_left]
    have hx2 : (bs (P ++ Q)).extract P.length (P ++ Q).length = bs Q := by rw [bs_extract, List.drop_left]
    have hzs := bs_size (P ++ Q)
    have hws : IntKind.i64.wrap (((P ++ Q).length : Int) - 20) = (P.length : Int) := by rw [IntWalk.i64_in _ (by omega)]; omega
    have hle : P.length ≤ (P ++ Q).length := by omega
    have hlei : (P.length : Int) ≤ ((P ++ Q).length : Int) := by omega
    have ho1 : ¬ 9223372036854775807 < (bs P).size + (bs (x :: t)).size := by rw [bs_size, bs_size]; omega
    have ho2 : ¬ 9223372036854775807 < (bs P ++ bs (x :: t)).size + (bs Q).size := by rw [app, bs_size, bs_size, List.length_append]; omega
    have ho3 : ¬ 9223372036854775807 < (bs P).size + (bs (x :: t)).size + (bs Q).size := by rw [bs_size, bs_size, bs_size]; omega
    obtain ⟨h8, hh8⟩ : ∃ h8, decide (((Dm.ones16 (Dm.lgBits l2 16) : Nat) : Int) ≥ 8) = h8 := ⟨_, rfl⟩
    have H8 : Hid (h8 = true → ((Dm.ones16 (Dm.lgBits l2 16) : Nat) : Int) ≥ 8) := Lib.hid (fun h => by rw [h] at hh8; simpa using hh8)
    rw [hh8] at HHC
    have HR0 := Lib.hid hr0
    have HR1 := Lib.hid hr1
    have HR2 := Lib.hid hr2
    have HT := Lib.hid hT
    have HC0 := Lib.hid hc0
    have HMN := Lib.hid hmn
    clear m0 m1
    clear hb2 hr0 hr1 hr2 hT hw0 hw1 hw2 hc0 hc1 hc2 hbad ev hvl hvn hvg et htl htp hd h5 hA hC hnl hpl hh8 hK hK2 hq20 hsl hP hQ m2 hmn
    generalize l1.take m.toNat = tl at *
    generalize Dm.lgText l2 16 = h at *
    generalize Dm.pathT vs = PT at *
    generalize x :: t = wd at *
    generalize P ++ Q = SY at *
    generalize vs.map bs = VS at *
    go_enter Tryd.func11, Tryd.ntmps11
    go_wp2_with (go_at_call 35; refine HF.out.mono ?_; rintro e w1 ⟨rfl, hb1⟩)
    refine (HWC.out w1 (Kd.C_below HR0.out hb1) HC0.out).mono ?_
    rintro e w2 ⟨AV, cv, rfl, hcv, hCV, hb2⟩
    have HB2 := Lib.hid (hb1.trans (hb2.mono hb1.size))
    have HCV := Lib.hid hCV
    have HLV := Lib.hid hcv
    clear hb1 hb2 hCV hcv
    go_wp2_with fail
    refine (HHC.out w2 (Kd.C_below HR2.out HB2.out)).mono ?_
    rintro e w3 ⟨rfl, hb3⟩
    have HCV3 := Lib.hid (Kd.C_below HCV.out hb3)
    have HB3 := Lib.hid (HB2.out.trans (hb3.mono HB2.out.size))
    clear hb3 HCV
    go_wp2_with fail
    refine (HSC.out AV cv w3 HCV3.out HLV.out (Stays.below HT.out HB3.out)).mono ?_
    rintro e w4 ⟨rfl, hb4⟩
    have HCV4 := Lib.hid (Kd.C_below HCV3.out hb4)
    have HB4 := Lib.hid (HB3.out.trans (hb4.mono HB3.out.size))
    clear hb4 HCV3
    go_upto_region 6 with (fail)
    go_cut [11, 12] from 36 to 53 (fun v11 v12 wc => v11 = .string ⟨#[]⟩ ∧ v12 = .bool false ∧ Below w.heap.size w wc ∧ Kd.C Kd.string wc AV VS.length VS)
    case first =>
      have hmn := HMN.out
      go_region_with (first
        | (go_at_call 32; refine (idCut_at _ _ _ _ _ _ hcut hmn).mono ?_; rintro e wa ⟨rfl, rfl⟩)
        | (go_at_call 31; refine (HAW.out _ ?_).mono ?_; exact Kd.C_below HR1.out HB4.out.drew; rintro e wb ⟨rfl, hbb⟩)
        | (go_at_call 37; refine (HOL.out _).mono ?_; rintro e wd ⟨rfl, hbd⟩))
      all_goals go_wp2_with fail
      have HF5 := Lib.hid ((HB4.out.drew.trans (hbb.mono HB4.out.size)).trans (hbd.mono (Nat.le_trans HB4.out.size hbb.size)))
      have HC5 := Lib.hid (Kd.C_below (Kd.C_below (Kd.C_drew HCV4.out) hbb) hbd)
      go_meet
      case rel => exact ⟨rfl, rfl, HF5.out, HC5.out⟩
    case rest =>
      obtain ⟨rfl, rfl, hb5, hc5⟩ := hcut
      have HB5 := Lib.hid hb5
      have HCV5 := Lib.hid hc5
      clear hb5 hc5 HAW HOL HSC HHC HWC
      cases h8 with
      | false =>
        go_wp2_with fail
        go_ret
        exact ⟨rfl, HB5.out⟩
      | true =>
        have H8B := Lib.hid (H8.out rfl)
        go_wp2_with fail
        refine (HPC.out AV cv _ (HCV5.out) HLV.out).mono ?_
        rintro e w6 ⟨rfl, hd6⟩
        have hb6 := drawn_below hd6
        have HCV6 := Lib.hid (Kd.C_below HCV5.out hb6)
        have HB6 := Lib.hid (HB5.out.trans (hb6.mono HB5.out.size))
        clear hd6 hb6
        go_wp2_with fail
        refine (HTC.out H8B.out AV cv w6 HCV6.out HLV.out (Stays.below HT.out HB6.out)).mono ?_
        rintro e w7 ⟨rfl, hb7⟩
        have HB7 := Lib.hid (HB6.out.trans (hb7.mono HB6.out.size))
        clear hb7
        go_wp2_with fail
        go_ret
        exact ⟨rfl, HB7.out⟩
theorem laws_FnLegacyNoNumber.walk (P : laws_FnLegacyNoNumber.Pure) (a0 : Option Addr) (cap0 : Nat) (l0 : List (List Int)) (a1 : Option Addr) (len1 cap1 : Nat) (z1 : List Int) (a2 : Option Addr) (len2 cap2 : Nat) (z2 : List Int) (w : World) (hT_ : StrIs w) (w0 : (Kd.slice 5 (Kd.int .u8)).C w a0 l0.length l0) (x0 : l0.length ≤ maxLen) (y0 : ∀ r ∈ l0, r.length ≤ maxLen ∧ ∀ x ∈ r, (Lit.int .u8 x).wf = true) (c0 : l0.length ≤ cap0) (w1 : (a1 = none ∧ len1 = 0 ∧ cap1 = 0 ∧ z1 = []) ∨ ∃ x, a1 = some x ∧ len1 ≤ cap1 ∧ cap1 ≤ maxLen ∧ z1.length = cap1 ∧ (∀ i, i < z1.length → w.cell? (x.add i) = some (.int .u8 (z1.getD i 0))) ∧ ∀ n ∈ z1, (Lit.int .u8 n).wf = true) (y1 : len1 * 1 ≤ 140737488351232) (w2 : (a2 = none ∧ len2 = 0 ∧ cap2 = 0 ∧ z2 = []) ∨ ∃ x, a2 = some x ∧ len2 ≤ cap2 ∧ cap2 ≤ maxLen ∧ z2.length = cap2 ∧ (∀ i, i < z2.length → w.cell? (x.add i) = some (.int .u8 (z2.getD i 0))) ∧ ∀ n ∈ z2, (Lit.int .u8 n).wf = true) (y2 : len2 * 1 ≤ 140737488351232) :
    Calls Tryd.prog 11 #[.slice a0 l0.length cap0, .slice a1 len1 cap1, .slice a2 len2 cap2] w fun e w' => e = .returned (.bool true) ∧ Below w.heap.size w w' := by
  obtain ⟨l1, rfl, hr1, hm1, hw1, hc1⟩ := ReadsInt.ofRowC w1
  obtain ⟨l2, rfl, hr2, hm2, hw2, hc2⟩ := ReadsInt.ofRowC w2
  exact nonum_calls _ _ l0 _ _ l1 _ _ l2 w w0 c0 (Kd.C_of_reads (d := (0 : Int)) (h1 := fun _ => rfl) hr1) hc1 (Kd.C_of_reads (d := (0 : Int)) (h1 := fun _ => rfl) hr2) hc2 hT_ (fun r h => (y0 r h).2) hw1 hw2

end Go.Proofs.YtpmlnhddkbgefaaDoor.PFnLegacyNoNumber
