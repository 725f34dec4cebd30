/- FnPunycodeOne, of numbers and lists alone: the Punycode of one character beyond 128 within plain ones is read. -/
import Derived.Test.YtkhbmkccbhkolaaDoorPFnPunycodeOnex3
import Derived.Test.YtkhbmkccbhkolaaDoorPA
import Derived.Test.YtkhbmkccbhkolaaDoorUtf
import Derived.Test.YtkhbmkccbhkolaaDoorPl
namespace Go.Proofs.YtkhbmkccbhkolaaDoor.Pure
set_option linter.unusedVariables false
set_option linter.unusedSimpArgs false
open Go.RowKit Go.Proofs.YtkhbmkccbhkolaaDoor.PFnPunycodeOne Go.Proofs.YtkhbmkccbhkolaaDoorW.PrintWords Go.Proofs.YtkhbmkccbhkolaaDoorW.PrintLast

theorem getD_mem' {l : List UInt8} {k : Nat} (h : k < l.length) : l.getD k 0 ∈ l := by
  rw [List.getD_eq_getElem?_getD, List.getElem?_eq_getElem h]; exact List.getElem_mem h
theorem app (l m : List UInt8) : bs l ++ bs m = bs (l ++ m) := by
  apply ByteArray.ext
  simp [bs, ByteArray.data_append]
theorem bind_of {α β : Type} {x : Option α} {a : α} {f : α → Option β} {r : Option β} (h : x = some a) (h2 : f a = r) : x.bind f = r := by subst h; exact h2
theorem u8_range {l : List Int} (h : ∀ x ∈ l, (Lit.int .u8 x).wf = true) (i : Nat) : 0 ≤ rd l (i : Int) ∧ rd l (i : Int) ≤ 255 := by
  unfold rd
  rw [Int.toNat_natCast, List.getD_eq_getElem?_getD]
  cases hi : l[i]? with
  | none => simp
  | some x =>
    have := h x (List.mem_of_getElem? hi)
    simp [Lit.wf, IntKind.min, IntKind.max, IntKind.bits, IntKind.signed] at this
    simp; omega
theorem strOf_list (a : List UInt8) : strOfNums (a.map (fun c => (c.toNat : Int))) = bs a := by
  unfold strOfNums bs
  congr 2
  rw [List.map_map, show ((fun n : Int => UInt8.ofNat n.toNat) ∘ fun c : UInt8 => (c.toNat : Int)) = id from by funext c; simp]
  simp
def L63 : List UInt8 := [97, 98, 99, 100, 101, 102, 103, 104, 105, 106, 107, 108, 109, 110, 111, 112, 113, 114, 115, 116, 117, 118, 119, 120, 121, 122, 65, 66, 67, 68, 69, 70, 71, 72, 73, 74, 75, 76, 77, 78, 79, 80, 81, 82, 83, 84, 85, 86, 87, 88, 89, 90, 48, 49, 50, 51, 52, 53, 54, 55, 56, 57, 95]
theorem l63_at (q : Int) (h0 : 0 ≤ q) (h1 : q < 63) : bt (⟨#[97, 98, 99, 100, 101, 102, 103, 104, 105, 106, 107, 108, 109, 110, 111, 112, 113, 114, 115, 116, 117, 118, 119, 120, 121, 122, 65, 66, 67, 68, 69, 70, 71, 72, 73, 74, 75, 76, 77, 78, 79, 80, 81, 82, 83, 84, 85, 86, 87, 88, 89, 90, 48, 49, 50, 51, 52, 53, 54, 55, 56, 57, 95]⟩ : ByteArray) q = ((L63.getD q.toNat 0).toNat : Int) := by
  have hq : q.toNat < L63.length := by show q.toNat < 63; omega
  have := bt_bs L63 q.toNat hq
  rw [Int.toNat_of_nonneg h0] at this
  refine (show bt (bs L63) q = _ from this).trans ?_
  rw [List.getD_eq_getElem?_getD, List.getElem?_eq_getElem hq]; rfl
theorem bd_of {α β : Type} {x : Option α} {a : α} {f : α → Option β} {r : Option β} (h : x = some a) (h2 : f a = r) : x.bind f = r := by subst h; exact h2
theorem rdI (xs : List Int) (i : Nat) (h : i < xs.length) : rd xs (i : Int) = xs[i] := by
  unfold rd
  rw [Int.toNat_natCast, List.getD_eq_getElem?_getD, List.getElem?_eq_getElem h]; rfl
theorem l63_plain : ∀ c ∈ L63, c.toNat < 128 := by decide
theorem plain_loop (xs : List Int) (hx : ∀ x ∈ xs, (Lit.int .u8 x).wf = true) (hm : xs.length ≤ 1000) :
    ∀ (d i : Nat) (p : List UInt8) (k : Nat), i + d = xs.length → d < k → p.length = i → (∀ c ∈ p, c.toNat < 128) →
      ∃ a : List UInt8, spec_AnPlain.l0 k (p.map (fun c => (c.toNat : Int)) ++ List.replicate d 0) xs (xs.length : Int) (i : Int) = some (bs a) ∧ a.length = xs.length ∧ ∀ c ∈ a, c.toNat < 128 := by
  intro d
  induction d with
  | zero =>
    intro i p k hi hk hp hl
    obtain ⟨k, rfl⟩ : ∃ m, k = m + 1 := ⟨k - 1, by omega⟩
    simp only [spec_AnPlain.l0]
    rw [if_neg (by omega)]
    refine ⟨p, ?_, by omega, hl⟩
    rw [List.replicate_zero, List.append_nil, strOf_list]
  | succ d ih =>
    intro i p k hi hk hp hl
    obtain ⟨k, rfl⟩ : ∃ m, k = m + 1 := ⟨k - 1, by omega⟩
    obtain ⟨r0, r1⟩ := u8_range hx i
    simp only [spec_AnPlain.l0]
    rw [wrap_id (x := rd xs (i : Int)) (by omega) (by omega)]
    have hm0 : 0 ≤ Int.tmod (rd xs (i : Int)) 63 := Int.tmod_nonneg _ r0
    have hm1 : Int.tmod (rd xs (i : Int)) 63 < 63 := Int.tmod_lt_of_pos _ (by omega)
    generalize Int.tmod (rd xs (i : Int)) 63 = q at hm0 hm1 ⊢
    rw [if_pos (by omega), if_pos (by omega), if_pos (by omega), if_pos hm0, if_pos hm1, if_pos (by simp; omega), wrap_id (x := (i : Int) + 1) (by omega) (by omega), l63_at q hm0 hm1]
    have hc := l63_plain _ (getD_mem' (show q.toNat < L63.length by show q.toNat < 63; omega))
    generalize L63.getD q.toNat 0 = c at hc
    have hset : (p.map (fun c : UInt8 => (c.toNat : Int)) ++ List.replicate (d + 1) 0).set ((i : Int)).toNat (c.toNat : Int) = (p ++ [c]).map (fun c : UInt8 => (c.toNat : Int)) ++ List.replicate d 0 := by
      rw [Int.toNat_natCast, List.set_append_right _ _ (by rw [List.length_map]; omega)]
      simp [hp, List.replicate_succ]
    rw [hset]
    obtain ⟨a, e, hl1, hl2⟩ := ih (i + 1) (p ++ [c]) k (by omega) (by omega) (by simp; omega) (by
      intro x hx2
      rcases List.mem_append.1 hx2 with hx2 | hx2
      · exact hl x hx2
      · obtain rfl := List.mem_singleton.1 hx2; exact hc)
    exact ⟨a, e, hl1, hl2⟩

theorem plain_f (xs : List Int) (hx : ∀ x ∈ xs, (Lit.int .u8 x).wf = true) (hm : xs.length ≤ 1000) (k : Nat) (hk : 1000 < k) :
    ∃ a : List UInt8, spec_AnPlain.f k xs = some (bs a) ∧ a ≠ [] ∧ a.length ≤ 1000 ∧ ∀ c ∈ a, c.toNat < 128 := by
  unfold spec_AnPlain.f
  by_cases h0 : (xs.length : Int) = 0
  · rw [if_pos h0]; exact ⟨[97], rfl, by simp, by simp, by decide⟩
  · rw [if_neg h0, if_pos (by omega), if_pos (by omega)]
    obtain ⟨a, e, h1, h2⟩ := plain_loop xs hx hm xs.length 0 [] k (by omega) (by omega) rfl (by simp)
    refine ⟨a, by simpa using e, ?_, by omega, h2⟩
    rintro rfl; simp at h1; omega
theorem idAt_n (a n : Int) (h0 : 0 < n) (h1 : n ≤ 4611686018427387904) : ∃ q : Nat, laws_idAt.f a n = some (q : Int) ∧ (q : Int) < n := by
  unfold laws_idAt.f
  rw [if_neg (by omega)]
  have m0 := Int.tmod_lt_of_pos a h0
  have m1 := Int.lt_tmod_of_pos a h0
  rw [wrap_id (x := Int.tmod a n + n) (by omega) (by omega)]
  have q0 : 0 ≤ Int.tmod (Int.tmod a n + n) n := Int.tmod_nonneg _ (by omega)
  have q1 : Int.tmod (Int.tmod a n + n) n < n := Int.tmod_lt_of_pos _ h0
  obtain ⟨q, hq⟩ := Int.eq_ofNat_of_zero_le q0
  exact ⟨q, by rw [hq], by omega⟩
def L36 : List UInt8 := [97, 98, 99, 100, 101, 102, 103, 104, 105, 106, 107, 108, 109, 110, 111, 112, 113, 114, 115, 116, 117, 118, 119, 120, 121, 122, 48, 49, 50, 51, 52, 53, 54, 55, 56, 57]
theorem piece36 (d : Nat) (h : d < 36) : (⟨#[97, 98, 99, 100, 101, 102, 103, 104, 105, 106, 107, 108, 109, 110, 111, 112, 113, 114, 115, 116, 117, 118, 119, 120, 121, 122, 48, 49, 50, 51, 52, 53, 54, 55, 56, 57]⟩ : ByteArray).extract d (d + 1) = bs [L36.getD d 0] := by
  have hp : ∀ d : Fin 36, (L36.drop d.val).take 1 = [L36.getD d.val 0] := by decide +kernel
  show (bs L36).extract _ _ = _
  apply ByteArray.ext
  have := hp ⟨d, h⟩
  simp only at this
  simp [bs, ByteArray.data_extract]
  rw [this]
  rfl
/-! ### the printed Punycode -/
theorem thr_f (p : Nat) (bias : Int) (hp : p ≤ 100000000000) (h0 : 0 ≤ bias) (h1 : bias ≤ 1000) : spec_idThreshold.f (p : Int) bias = some (Dm.thr (36 * p) bias) := by
  unfold spec_idThreshold.f
  rw [wrap_id (x := 36 * (p : Int)) (by omega) (by omega), wrap_id (x := 36 * (p : Int) - bias) (by omega) (by omega)]
  congr 1
  unfold mn mx Dm.thr
  repeat' split
  all_goals omega
theorem pch36 : ∀ k : Fin 36, L36.getD k.val 0 = Dm.pch (k.val : Int) := by decide +kernel
theorem letter_f (d : Int) (h0 : 0 ≤ d) (h1 : d < 36) : spec_idLetter.f d = some (bs [Dm.pch d]) := by
  unfold spec_idLetter.f
  rw [wrap_id (x := d + 1) (by omega) (by omega), if_pos h0, if_pos (by omega), if_pos (by omega)]
  obtain ⟨n, rfl⟩ := Int.eq_ofNat_of_zero_le h0
  rw [Int.toNat_natCast, show ((n : Int) + 1).toNat = n + 1 by omega, piece36 n (by omega)]
  have := pch36 ⟨n, by omega⟩
  simp only at this
  rw [this]
theorem delta_step (q t : Int) (h0 : 0 ≤ q) (ht1 : 1 ≤ t) (ht : t ≤ 26) (hq : t ≤ q) (hb : q ≤ 4000000000) : wrap64 (36 - t) = 36 - t ∧ wrap64 (q - t) = q - t ∧ Int.tmod (q - t) (36 - t) = (q - t) % (36 - t) ∧ Int.tdiv (q - t) (36 - t) = (q - t) / (36 - t) ∧
    0 ≤ (q - t) % (36 - t) ∧ (q - t) % (36 - t) < 36 - t ∧ 0 ≤ (q - t) / (36 - t) ∧ (q - t) / (36 - t) < q ∧ wrap64 (t + (q - t) % (36 - t)) = t + (q - t) % (36 - t) ∧ wrap64 ((q - t) / (36 - t)) = (q - t) / (36 - t) := by
  have a0 : 0 ≤ (q - t) % (36 - t) := Int.emod_nonneg _ (by omega)
  have a1 : (q - t) % (36 - t) < 36 - t := Int.emod_lt_of_pos _ (by omega)
  have b0 : 0 ≤ (q - t) / (36 - t) := Int.ediv_nonneg (by omega) (by omega)
  have b1 : (q - t) / (36 - t) ≤ q - t := Int.ediv_le_self _ (by omega)
  generalize he : (q - t) % (36 - t) = e at *
  generalize hf : (q - t) / (36 - t) = f at *
  refine ⟨wrap_id (by omega) (by omega), wrap_id (by omega) (by omega), ?_, ?_, a0, a1, b0, by omega, wrap_id (by omega) (by omega), wrap_id (by omega) (by omega)⟩
  · rw [Int.tmod_eq_emod_of_nonneg (by omega), he]
  · rw [Int.tdiv_eq_ediv_of_nonneg (by omega), hf]
theorem delta_loop (bias : Int) (b0 : 0 ≤ bias) (b1 : bias ≤ 1000) : ∀ (n : Nat) (q : Int) (p k : Nat) (t : List UInt8), 0 ≤ q → q ≤ 4000000000 → q.toNat < n → n < k → p + n ≤ 100000000000 → t.length + n ≤ 100000000000 →
    spec_idDelta.l0 k q bias (bs t) (p : Int) = some (bs (t ++ Dm.encD n q p bias)) := by
  intro n
  induction n with
  | zero => intro q p k t _ _ h; omega
  | succ n ih =>
    intro q p k t h0 hq h hk hp ht
    obtain ⟨k, rfl⟩ : ∃ m, k = m + 1 := ⟨k - 1, by omega⟩
    simp only [spec_idDelta.l0]
    refine bd_of (thr_f p bias (by omega) b0 b1) ?_
    obtain ⟨r0, r1⟩ := Dm.thr_range (36 * (p : Int)) bias
    simp only [Dm.encD]
    generalize Dm.thr (36 * (p : Int)) bias = T at *
    by_cases hT : q < T
    · rw [if_pos hT, if_pos hT]
      refine bd_of (letter_f q h0 (by omega)) ?_
      rw [if_pos (by rw [bs_size, bs_size]; simp; omega), app]
    · rw [if_neg hT, if_neg hT]
      obtain ⟨e1, e2, e3, e4, e5, e6, e7, e8, e9, e10⟩ := delta_step q T h0 r0 r1 (by omega) hq
      rw [e1, e2, e3, e4, e9, e10, if_neg (by omega), wrap_id (x := (p : Int) + 1) (by omega) (by omega), show (p : Int) + 1 = ((p + 1 : Nat) : Int) by omega]
      refine bd_of (letter_f _ (by omega) (by omega)) ?_
      rw [if_pos (by rw [bs_size, bs_size]; simp; omega), app]
      generalize (q - T) / (36 - T) = f at *
      rw [ih f (p + 1) k (t ++ [Dm.pch (T + (q - T) % (36 - T))]) e7 (by omega) (by omega) (by omega) (by omega) (by rw [List.length_append]; simp; omega), List.append_assoc, List.singleton_append]
theorem delta_f (q bias : Int) (h0 : 0 ≤ q) (hq : q ≤ 4000000000) (b0 : 0 ≤ bias) (b1 : bias ≤ 1000) (k : Nat) (hk : 4000000001 < k) : spec_idDelta.f k q bias = some (bs (Dm.encD (q.toNat + 1) q 1 bias)) := by
  unfold spec_idDelta.f
  exact delta_loop bias b0 b1 (q.toNat + 1) q 1 k [] h0 hq (by omega) (by omega) (by omega) (by simp; omega)
theorem small_end (d k0 : Int) (h0 : 0 ≤ d) (h1 : d ≤ 455) (k1 : 0 ≤ k0) (k2 : k0 ≤ 200000000000) : wrap64 (d + 38) = d + 38 ∧ wrap64 (k0 + wrap64 (Int.tdiv (wrap64 (36 * d)) (d + 38))) = k0 + 36 * d / (d + 38) := by
  rw [wrap_id (x := d + 38) (by omega) (by omega), wrap_id (x := 36 * d) (by omega) (by omega), Int.tdiv_eq_ediv_of_nonneg (by omega)]
  have a0 : 0 ≤ 36 * d / (d + 38) := Int.ediv_nonneg (by omega) (by omega)
  have a1 : 36 * d / (d + 38) ≤ 36 * d := Int.ediv_le_self _ (by omega)
  generalize 36 * d / (d + 38) = x at *
  rw [wrap_id (x := x) (by omega) (by omega), wrap_id (by omega) (by omega)]
  exact ⟨rfl, rfl⟩
theorem small_stop (d k0 : Int) (k : Nat) (h : ¬ 455 < d) (h0 : 0 ≤ d) (k1 : 0 ≤ k0) (k2 : k0 ≤ 100000) : spec_idAdapted.l0 (k + 1) d k0 = some ((Dm.small d k0).2 + 36 * (Dm.small d k0).1 / ((Dm.small d k0).1 + 38)) := by
  obtain ⟨e1, e2⟩ := small_end d k0 h0 (by omega) k1 (by omega)
  have es : Dm.small d k0 = (d, k0) := by unfold Dm.small; rw [if_neg h]
  simp only [spec_idAdapted.l0, es]
  rw [if_neg (by omega), e1, if_neg (by omega), e2]
theorem small_f : ∀ (m : Nat) (d k0 : Int) (k : Nat), 0 ≤ d → d ≤ 455 * (35 : Int) ^ m → d ≤ 10000000000 → m < k → 0 ≤ k0 → k0 + 36 * m ≤ 100000 →
    spec_idAdapted.l0 k d k0 = some ((Dm.small d k0).2 + 36 * (Dm.small d k0).1 / ((Dm.small d k0).1 + 38)) := by
  intro m
  induction m with
  | zero =>
    intro d k0 k h0 h1 _ hk k1 k2
    obtain ⟨k, rfl⟩ : ∃ m, k = m + 1 := ⟨k - 1, by omega⟩
    exact small_stop d k0 k (by simp at h1; omega) h0 k1 (by omega)
  | succ m ih =>
    intro d k0 k h0 h1 hd hk k1 k2
    obtain ⟨k, rfl⟩ : ∃ m, k = m + 1 := ⟨k - 1, by omega⟩
    by_cases h : 455 < d
    · have h2 : d / 35 ≤ 455 * (35 : Int) ^ m := by
        rw [Int.pow_succ, ← Int.mul_assoc] at h1
        exact Int.ediv_le_of_le_mul (by omega) h1
      have h3 : 0 ≤ d / 35 := Int.ediv_nonneg (by omega) (by omega)
      have h4 : d / 35 ≤ d := Int.ediv_le_self _ (by omega)
      have es : Dm.small d k0 = Dm.small (d / 35) (k0 + 36) := by conv => lhs; unfold Dm.small; rw [if_pos h]
      rw [es]
      simp only [spec_idAdapted.l0]
      rw [if_pos (by omega), Int.tdiv_eq_ediv_of_nonneg h0]
      generalize d / 35 = e at *
      rw [wrap_id (x := e) (by omega) (by omega), wrap_id (x := k0 + 36) (by omega) (by omega)]
      exact ih e (k0 + 36) k h3 h2 (by omega) (by omega) (by omega) (by omega)
    · exact small_stop d k0 k h h0 k1 (by omega)
theorem adapted_j (e many : Int) (h0 : 0 ≤ e) (he : e ≤ 2000000000) (hm : 1 ≤ many) (k : Nat) (hk : 100 < k) : spec_idAdapted.j0 k e many = some ((Dm.small (e + e / many) 0).2 + 36 * (Dm.small (e + e / many) 0).1 / ((Dm.small (e + e / many) 0).1 + 38)) := by
  obtain ⟨k, rfl⟩ : ∃ m, k = m + 1 := ⟨k - 1, by omega⟩
  simp only [spec_idAdapted.j0]
  rw [if_neg (by omega), Int.tdiv_eq_ediv_of_nonneg h0]
  have h2 : 0 ≤ e / many := Int.ediv_nonneg (by omega) (by omega)
  have h3 : e / many ≤ e := Int.ediv_le_self _ (by omega)
  generalize e / many = f at *
  rw [wrap_id (x := f) (by omega) (by omega), wrap_id (x := e + f) (by omega) (by omega)]
  exact small_f 5 (e + f) 0 k (by omega) (by rw [show (455 : Int) * 35 ^ 5 = 23897453125 from by decide]; omega) (by omega) (by omega) (by omega) (by omega)
theorem adapted_f (d many : Int) (first : Bool) (h0 : 0 ≤ d) (h1 : d ≤ 4000000000) (hm : 1 ≤ many) (k : Nat) (hk : 100 < k) : spec_idAdapted.f k d many first = some (Dm.adapted d many first) := by
  unfold spec_idAdapted.f
  cases first with
  | true =>
    rw [if_pos rfl, Int.tdiv_eq_ediv_of_nonneg h0, wrap_id (x := d / 700) (by omega) (by omega)]
    exact adapted_j (d / 700) many (by omega) (by omega) hm k hk
  | false =>
    rw [if_neg (by decide), Int.tdiv_eq_ediv_of_nonneg h0, wrap_id (x := d / 2) (by omega) (by omega)]
    exact adapted_j (d / 2) many (by omega) (by omega) hm k hk
theorem next_loop (L : List Int) (least : Int) (hl : L.length ≤ 1000000) : ∀ (d i k : Nat) (next : Int), i + d = L.length → d < k → spec_idNext.l0 k least next L (L.length : Int) (i : Int) = some (Dm.nxt (L.drop i) least next) := by
  intro d
  induction d with
  | zero =>
    intro i k next hi hk
    obtain ⟨k, rfl⟩ : ∃ m, k = m + 1 := ⟨k - 1, by omega⟩
    simp only [spec_idNext.l0]
    rw [if_neg (by omega), List.drop_of_length_le (by omega)]; rfl
  | succ d ih =>
    intro i k next hi hk
    obtain ⟨k, rfl⟩ : ∃ m, k = m + 1 := ⟨k - 1, by omega⟩
    have hlt : i < L.length := by omega
    simp only [spec_idNext.l0]
    rw [if_pos (by omega), if_pos (by omega), if_pos (by omega), rdI L i hlt, wrap_id (x := (i : Int) + 1) (by omega) (by omega), show (i : Int) + 1 = ((i + 1 : Nat) : Int) by omega, List.drop_eq_getElem_cons hlt]
    simp only [Dm.nxt, ih (i + 1) k _ (by omega) (by omega)]
    generalize L[i] = c
    by_cases h1 : c ≥ least
    · rw [if_pos h1]
      by_cases h2 : next < 0
      · rw [if_pos h2, if_pos ⟨h1, .inl h2⟩]
      · rw [if_neg h2]
        by_cases h3 : c < next
        · rw [if_pos h3, if_pos ⟨h1, .inr h3⟩]
        · rw [if_neg h3, if_neg (by omega)]
    · rw [if_neg h1, if_neg (by omega)]
theorem next_f (L : List Int) (least : Int) (hl : L.length ≤ 1000000) (k : Nat) (hk : 1000000 < k) : spec_idNext.f k L least = some (Dm.nxt L least (-1)) := by
  unfold spec_idNext.f
  exact next_loop L least hl L.length 0 k (-1) (by omega) (by omega)
/-- The characters below 128, as they are written. -/
def lowB (L : List Int) : List UInt8 := (L.filter (Dm.lt 128)).map fun c => UInt8.ofNat c.toNat
theorem enc_low (c : Int) (h0 : 0 ≤ c) (h1 : c < 128) : Utf8.encode (wrap32 c) = bs [UInt8.ofNat c.toNat] := by
  have e : wrap32 c = c := by unfold wrap32; omega
  rw [e]
  apply ByteArray.ext
  apply Array.toList_inj.1
  rw [Dm.encode_low c h0 h1]
  rfl
theorem low_loop (L : List Int) (hl : L.length ≤ 1000000) (hL : ∀ c ∈ L, 0 ≤ c ∧ c ≤ 1114111) : ∀ (d i k : Nat) (t : List UInt8), i + d = L.length → t.length ≤ i →
    spec_IdPunycode.l0 (k + d) L (bs t) L (L.length : Int) (i : Int) = spec_IdPunycode.l0 k L (bs (t ++ lowB (L.drop i))) L (L.length : Int) (L.length : Int) := by
  intro d
  induction d with
  | zero => intro i k t hi ht; rw [show i = L.length by omega, List.drop_length]; simp [lowB]
  | succ d ih =>
    intro i k t hi ht
    have hlt : i < L.length := by omega
    have hc := hL L[i] (List.getElem_mem hlt)
    rw [show k + (d + 1) = (k + d) + 1 by omega]
    simp only [spec_IdPunycode.l0]
    rw [if_pos (by omega), if_pos (by omega), if_pos (by omega), rdI L i hlt, wrap_id (x := (i : Int) + 1) (by omega) (by omega), show (i : Int) + 1 = ((i + 1 : Nat) : Int) by omega, List.drop_eq_getElem_cons hlt]
    generalize L[i] = c at *
    by_cases h : c < 128
    · rw [if_pos h, enc_low c hc.1 h, if_pos (by rw [bs_size, bs_size]; simp; omega), app, ih (i + 1) k _ (by omega) (by rw [List.length_append]; simp; omega)]
      have : lowB (c :: L.drop (i + 1)) = UInt8.ofNat c.toNat :: lowB (L.drop (i + 1)) := by
        unfold lowB; rw [List.filter_cons_of_pos (show Dm.lt 128 c = true from decide_eq_true h)]; rfl
      rw [this, List.append_assoc, List.singleton_append]
    · rw [if_neg h, ih (i + 1) k _ (by omega) (by omega)]
      have : lowB (c :: L.drop (i + 1)) = lowB (L.drop (i + 1)) := by
        unfold lowB; rw [List.filter_cons_of_neg (by unfold Dm.lt; rw [decide_eq_true_eq]; exact h)]
      rw [this]
theorem encD_len : ∀ (n : Nat) (q : Int) (p : Nat) (b : Int), (Dm.encD n q p b).length ≤ n := by
  intro n
  induction n with
  | zero => intro q p b; simp [Dm.encD]
  | succ n ih =>
    intro q p b
    simp only [Dm.encD]
    split
    · simp
    · rw [List.length_cons]; have := ih ((q - Dm.thr (36 * p) b) / (36 - Dm.thr (36 * p) b)) (p + 1) b; omega
/-- One pass. -/
theorem pass_loop (L : List Int) (hl : L.length ≤ 1000000) (now : Int) (hn : 0 ≤ now) (hn2 : now ≤ 1114111) : ∀ (m i k : Nat) (t : List UInt8) (many d bias : Int) (first : Bool), i + m = L.length → 4000000010 < k → 0 ≤ many → many ≤ i + 1000000 → 0 ≤ d → d + m ≤ 4000000000 → 0 ≤ bias → bias ≤ 213 → t.length + 4100000000 * m ≤ 9000000000000000000 →
    spec_IdPunycode.l2 (k + 2 * m) L (bs t) many first now d bias L (L.length : Int) (i : Int) =
      spec_IdPunycode.l2 k L (bs (t ++ (Dm.pass now (L.drop i) many d bias first).1)) (Dm.pass now (L.drop i) many d bias first).2.1 (Dm.pass now (L.drop i) many d bias first).2.2.2.2 now (Dm.pass now (L.drop i) many d bias first).2.2.1 (Dm.pass now (L.drop i) many d bias first).2.2.2.1 L (L.length : Int) (L.length : Int) := by
  intro m
  induction m with
  | zero => intro i k t many d bias first hi hk _ _ _ _ _ _ _; rw [show i = L.length by omega, List.drop_length]; simp [Dm.pass]
  | succ m ih =>
    intro i k t many d bias first hi hk m0 m1 d0 d1 b0 b1 ht
    have hlt : i < L.length := by omega
    rw [show k + 2 * (m + 1) = (k + 2 * m + 1) + 1 by omega]
    simp only [spec_IdPunycode.l2]
    rw [if_pos (by omega), if_pos (by omega), if_pos (by omega), rdI L i hlt, List.drop_eq_getElem_cons hlt]
    simp only [spec_IdPunycode.j4, Dm.pass]
    rw [wrap_id (x := (i : Int) + 1) (by omega) (by omega), show (i : Int) + 1 = ((i + 1 : Nat) : Int) by omega, wrap_id (x := d + 1) (by omega) (by omega), wrap_id (x := many + 1) (by omega) (by omega)]
    generalize L[i] = c
    by_cases h1 : c < now
    · rw [if_pos h1, if_pos h1, if_neg (by omega)]
      exact ih (i + 1) k t many (d + 1) bias first (by omega) hk m0 (by omega) (by omega) (by omega) b0 b1 (by omega)
    · rw [if_neg h1, if_neg h1]
      by_cases h2 : c = now
      · rw [if_pos h2, if_pos h2]
        refine bd_of (delta_f d bias d0 (by omega) b0 (by omega) (k + 2 * m) (by omega)) ?_
        have hel := encD_len (d.toNat + 1) d 1 bias
        obtain ⟨a0, a1⟩ := Dm.adapted_le d (many + 1) first d0 (by omega) (by omega)
        rw [if_pos (by rw [bs_size, bs_size]; omega), app]
        refine bd_of (adapted_f d (many + 1) first d0 (by omega) (by omega) (k + 2 * m) (by omega)) ?_
        generalize Dm.encD (d.toNat + 1) d 1 bias = e at *
        generalize Dm.adapted d (many + 1) first = a at *
        rw [ih (i + 1) k (t ++ e) (many + 1) 0 a false (by omega) hk (by omega) (by omega) (by omega) (by omega) a0 a1 (by rw [List.length_append]; omega), List.append_assoc]
      · rw [if_neg h2, if_neg h2]
        exact ih (i + 1) k t many d bias first (by omega) hk m0 (by omega) d0 (by omega) b0 b1 (by omega)
theorem pass_d (now : Int) : ∀ (r : List Int) (many d bias : Int) (first : Bool), 0 ≤ d → 0 ≤ (Dm.pass now r many d bias first).2.2.1 ∧ (Dm.pass now r many d bias first).2.2.1 ≤ d + r.length ∧ (now ∈ r → (Dm.pass now r many d bias first).2.2.1 ≤ r.length) := by
  intro r
  induction r with
  | nil => intro many d bias first h; simp [Dm.pass]; omega
  | cons c r ih =>
    intro many d bias first h
    simp only [Dm.pass, List.length_cons]
    by_cases h1 : c < now
    · rw [if_pos h1]
      obtain ⟨a, b, e⟩ := ih many (d + 1) bias first (by omega)
      refine ⟨a, by omega, fun hm => ?_⟩
      rcases List.mem_cons.1 hm with hm | hm
      · omega
      · have := e hm; omega
    · rw [if_neg h1]
      by_cases h2 : c = now
      · rw [if_pos h2]
        obtain ⟨a, b, e⟩ := ih (many + 1) 0 (Dm.adapted d (many + 1) first) false (by omega)
        exact ⟨a, by simp only; omega, fun _ => by simp only; omega⟩
      · rw [if_neg h2]
        obtain ⟨a, b, e⟩ := ih many d bias first h
        refine ⟨a, by omega, fun hm => ?_⟩
        rcases List.mem_cons.1 hm with hm | hm
        · exact absurd hm.symm h2
        · have := e hm; omega
theorem pass_len (now : Int) : ∀ (r : List Int) (many d bias : Int) (first : Bool), 0 ≤ d → d + r.length ≤ 4000000000 → (Dm.pass now r many d bias first).1.length ≤ 4100000000 * r.length := by
  intro r
  induction r with
  | nil => intro many d bias first _ _; simp [Dm.pass]
  | cons c r ih =>
    intro many d bias first h0 h1
    simp only [Dm.pass, List.length_cons] at h1 ⊢
    by_cases c1 : c < now
    · rw [if_pos c1]; have := ih many (d + 1) bias first (by omega) (by omega); omega
    · rw [if_neg c1]
      by_cases c2 : c = now
      · rw [if_pos c2]
        have := ih (many + 1) 0 (Dm.adapted d (many + 1) first) false (by omega) (by omega)
        have := encD_len (d.toNat + 1) d 1 bias
        simp only [List.length_append]; omega
      · rw [if_neg c2]; have := ih many d bias first (by omega) (by omega); omega
theorem fuel_j0 (x k j len B : Nat) (h1 : x + 5000 + B < k + 1) (h2 : len ≤ 2100) (h3 : k - 2 * len = j + 1) : x + B < j := by
  have h4 : k = j + 1 + 2 * len := by omega
  omega
theorem fuel_j (n k j len B : Nat) (h1 : (n + 1) * 5000 + B < k + 1) (h2 : len ≤ 2100) (h3 : k - 2 * len = j + 1) : n * 5000 + B < j := by
  rw [Nat.add_mul, Nat.one_mul] at h1
  exact fuel_j0 _ k j len B h1 h2 h3
theorem room_j (a b n len : Nat) (h : a + (n + 1) * 9000000000000 ≤ 4000000000000000000) (hb : b ≤ 4100000000 * len) (hl : len ≤ 2100) : a + b + n * 9000000000000 ≤ 4000000000000000000 := by omega
/-- All passes. -/
theorem all_loop (L : List Int) (hl : L.length ≤ 2100) (hL : ∀ c ∈ L, 0 ≤ c ∧ c ≤ 1114111) : ∀ (n : Nat) (now d bias : Int) (first : Bool) (k : Nat) (t : List UInt8),
    L.length < (L.filter (Dm.lt now)).length + n → 128 ≤ now → now ≤ 1114112 → 0 ≤ d → d ≤ L.length + 1 → 0 ≤ bias → bias ≤ 213 → n * 5000 + 5000000000 < k → t.length + n * 9000000000000 ≤ 4000000000000000000 →
    spec_IdPunycode.l1 k L (bs t) ((L.filter (Dm.lt now)).length : Int) first now d bias (Dm.nxt L now (-1)) = some (bs (t ++ Dm.encAll n L now ((L.filter (Dm.lt now)).length : Int) d bias first)) := by
  intro n
  induction n with
  | zero => intro now d bias first k t h; have := List.length_filter_le (Dm.lt now) L; omega
  | succ n ih =>
    intro now d bias first k t hn h128 hnow d0 d1 b0 b1 hk ht
    obtain ⟨k, rfl⟩ : ∃ m, k = m + 1 := ⟨k - 1, by omega⟩
    obtain ⟨s1, s2⟩ := Dm.nxt_spec L now (-1) (by omega) (.inl (by omega))
    simp only [spec_IdPunycode.l1, Dm.encAll]
    generalize Dm.nxt L now (-1) = nx at *
    by_cases hx : nx < 0
    · rw [if_neg (by omega), if_pos hx, List.append_nil]
    · rw [if_pos (by omega), if_neg hx]
      obtain ⟨a1, a2, a3, _⟩ := s2 (by omega)
      have hmem : nx ∈ L := by rcases a2 with a2 | a2; omega; exact a2
      obtain ⟨r0, r1⟩ := hL nx hmem
      have hfn := Dm.filt_next L now nx a3 a1
      obtain ⟨f1, f2⟩ := Dm.filt_less L nx hmem
      rw [← hfn] at hn ⊢
      have hmany : ((L.filter (Dm.lt nx)).length : Int) ≤ 2100 := by omega
      have hd2 : (nx - now) * (((L.filter (Dm.lt nx)).length : Int) + 1) ≤ 1114111 * 2101 := Int.mul_le_mul (by omega) (by omega) (by omega) (by omega)
      have hd3 : 0 ≤ (nx - now) * (((L.filter (Dm.lt nx)).length : Int) + 1) := Int.mul_nonneg (by omega) (by omega)
      rw [wrap_id (x := nx - now) (by omega) (by omega), wrap_id (x := ((L.filter (Dm.lt nx)).length : Int) + 1) (by omega) (by omega)]
      generalize (nx - now) * (((L.filter (Dm.lt nx)).length : Int) + 1) = g at *
      rw [wrap_id (x := g) (by omega) (by omega), wrap_id (x := d + g) (by omega) (by omega)]
      obtain ⟨e, he⟩ : ∃ e, e = d + g := ⟨_, rfl⟩
      rw [← he]
      have hleft := Dm.pass_left nx r0 L [] e bias first (by omega) (by omega) b0 b1
      simp only [List.nil_append] at hleft
      have hpd := pass_d nx L ((L.filter (Dm.lt nx)).length : Int) e bias first (by omega)
      have hpl := pass_len nx L ((L.filter (Dm.lt nx)).length : Int) e bias first (by omega) (by omega)
      have hp := pass_loop L (by omega) nx r0 r1 L.length 0 (k - 2 * L.length) t ((L.filter (Dm.lt nx)).length : Int) e bias first (by omega) (by omega) (by omega) (by omega) (by omega) (by omega) b0 b1 (by omega)
      rw [show k - 2 * L.length + 2 * L.length = k by omega, List.drop_zero] at hp
      obtain ⟨l1, l2, l3, l4, l5⟩ := hleft
      refine (show _ = _ from hp).trans ?_
      generalize Dm.pass nx L ((L.filter (Dm.lt nx)).length : Int) e bias first = P at *
      obtain ⟨j, hj⟩ : ∃ j, k - 2 * L.length = j + 1 := ⟨k - 2 * L.length - 1, by omega⟩
      rw [hj]
      simp only [spec_IdPunycode.l2]
      rw [if_neg (by omega), wrap_id (x := nx + 1) (by omega) (by omega)]
      have hp3 := hpd.2.2 hmem
      rw [wrap_id (x := P.2.2.1 + 1) (by omega) (by omega)]
      refine bd_of (next_f L (nx + 1) (by omega) j (by omega)) ?_
      have := ih (nx + 1) (P.2.2.1 + 1) P.2.2.2.1 P.2.2.2.2 j (t ++ P.1)
      rw [Dm.filt_succ, ← l1] at this
      have q1 := fuel_j n k j L.length _ hk hl hj
      have q2 := room_j t.length P.1.length n L.length ht hpl hl
      have q3 : L.length < (L.filter (Dm.le nx)).length + n := by omega
      have q4 : 128 ≤ nx + 1 := by omega
      have q5 : nx + 1 ≤ 1114112 := by omega
      have q6 : 0 ≤ P.2.2.1 + 1 := by omega
      have q7 : P.2.2.1 + 1 ≤ (L.length : Int) + 1 := by omega
      rw [this q3 q4 q5 q6 q7 l2 l3 q1 (by rw [List.length_append]; exact q2), List.append_assoc]
theorem low_len (L : List Int) : (lowB L).length = (L.filter (Dm.lt 128)).length := by unfold lowB; rw [List.length_map]
theorem puny_print (L : List Int) (hl : L.length ≤ 2100) (hL : ∀ c ∈ L, 0 ≤ c ∧ c ≤ 1114111) (k : Nat) (hk : 6000000000 < k) : spec_IdPunycode.f k L = some (bs (Dm.punyText L)) := by
  obtain ⟨j, hj⟩ : ∃ j, j = k - L.length - 1 := ⟨_, rfl⟩
  have hjk : k = (j + 1) + L.length := by omega
  have hj2 : 5500000000 < j := by omega
  clear hj
  subst hjk
  clear hk
  unfold spec_IdPunycode.f
  refine (low_loop L (by omega) hL L.length 0 (j + 1) [] (by omega) (by simp)).trans ?_
  rw [List.drop_zero, List.nil_append]
  simp only [spec_IdPunycode.l0]
  rw [if_neg (by omega)]
  have hlen := low_len L
  have hle := List.length_filter_le (Dm.lt 128) L
  obtain ⟨j, rfl⟩ : ∃ m, j = m + 1 := ⟨j - 1, by omega⟩
  have hall := all_loop L hl hL (L.length + 1) 128 0 72 true j
  unfold Dm.punyText
  by_cases he : L.filter (Dm.lt 128) = []
  · have hl0 : lowB L = [] := by unfold lowB; rw [he]; rfl
    have hz : (L.filter (Dm.lt 128)).length = 0 := by rw [he]; rfl
    rw [if_pos he, hl0, if_neg (by decide)]
    simp only [spec_IdPunycode.j1]
    refine bd_of (next_f L 128 (by omega) j (by omega)) ?_
    have := hall [] (by omega) (by omega) (by omega) (by omega) (by omega) (by omega) (by omega) (by omega) (by simp; omega)
    rw [hz] at this ⊢
    exact this
  · have hz : 0 < (L.filter (Dm.lt 128)).length := List.length_pos_iff.2 he
    rw [if_neg he, bs_size, if_pos (by omega), if_pos (by omega), show (⟨#[95]⟩ : ByteArray) = bs [95] from rfl, app]
    simp only [spec_IdPunycode.j1]
    refine bd_of (next_f L 128 (by omega) j (by omega)) ?_
    rw [hlen]
    exact hall (lowB L ++ [95]) (by omega) (by omega) (by omega) (by omega) (by omega) (by omega) (by omega) (by omega) (by rw [List.length_append, hlen]; simp; omega)
/-! ### characters and strings -/
theorem string_loop (L : List Int) (hl : L.length ≤ 1000000) (hL : ∀ c ∈ L, 0 ≤ c ∧ c ≤ 1114111) : ∀ (d i k : Nat) (t : List UInt8), i + d = L.length → d < k → t.length ≤ 4 * i →
    spec_AnString.l0 k (bs t) L (L.length : Int) (i : Int) = some (bs (t ++ Dm.UU (L.drop i))) := by
  intro d
  induction d with
  | zero =>
    intro i k t hi hk ht
    obtain ⟨k, rfl⟩ : ∃ m, k = m + 1 := ⟨k - 1, by omega⟩
    simp only [spec_AnString.l0]
    rw [if_neg (by omega), List.drop_of_length_le (by omega)]
    show some (bs t) = some (bs (t ++ []))
    rw [List.append_nil]
  | succ d ih =>
    intro i k t hi hk ht
    obtain ⟨k, rfl⟩ : ∃ m, k = m + 1 := ⟨k - 1, by omega⟩
    have hlt : i < L.length := by omega
    have hc := hL L[i] (List.getElem_mem hlt)
    simp only [spec_AnString.l0]
    rw [if_pos (by omega), if_pos (by omega), if_pos (by omega), rdI L i hlt, wrap_id (x := (i : Int) + 1) (by omega) (by omega), show (i : Int) + 1 = ((i + 1 : Nat) : Int) by omega, List.drop_eq_getElem_cons hlt]
    generalize L[i] = c at *
    have e : wrap32 c = c := by unfold wrap32; omega
    have hu := Dm.u_len c
    have eb : Utf8.encode c = bs (Dm.U c) := by apply ByteArray.ext; show _ = (Dm.U c).toArray; unfold Dm.U; simp
    rw [e, eb, if_pos (by rw [bs_size, bs_size]; omega), app, ih (i + 1) k _ (by omega) (by omega) (by rw [List.length_append]; omega), List.append_assoc]
    rfl
theorem string_f (L : List Int) (hl : L.length ≤ 1000000) (hL : ∀ c ∈ L, 0 ≤ c ∧ c ≤ 1114111) (k : Nat) (hk : L.length < k) : spec_AnString.f k L = some (bs (Dm.UU L)) := by
  unfold spec_AnString.f
  have := string_loop L hl hL L.length 0 k [] (by omega) hk (by simp)
  rw [List.drop_zero, List.nil_append] at this
  exact this
/-- A character that is none of the control characters. -/
def Good (c : Int) : Prop := Utf8.valid c = true ∧ Dm.validRune c = true ∧ 0 ≤ c ∧ c ≤ 1114111
theorem char_high (m : Int) (h0 : 160 ≤ m) (h1 : m < 1114112) : ∃ c, spec_anCharacter.f m = some c ∧ Good c ∧ 160 ≤ c := by
  have e1 : Int.tmod m 1114112 = m := Int.tmod_eq_of_lt (by omega) (by omega)
  have e2 : Int.tmod (m + 1114112) 1114112 = m := by
    rw [Int.tmod_eq_emod_of_nonneg (by omega), Int.add_emod_right, Int.emod_eq_of_lt (by omega) (by omega)]
  unfold spec_anCharacter.f
  rw [e1, wrap_id (x := m + 1114112) (by omega) (by omega), e2, if_neg (by omega), wrap_id (x := m - 2048) (by omega) (by omega)]
  have good : ∀ c : Int, (0 ≤ c ∧ c < 55296) ∨ (57344 ≤ c ∧ c ≤ 1114111) → Good c := fun c hc => ⟨by simpa [Utf8.valid] using hc, by simp [Dm.validRune]; omega, by omega, by omega⟩
  by_cases h2 : m ≥ 55296
  · rw [if_pos h2]
    by_cases h3 : m ≤ 57343
    · rw [if_pos h3]; exact ⟨_, rfl, good _ (.inl (by omega)), by omega⟩
    · rw [if_neg h3]; exact ⟨_, rfl, good _ (.inr (by omega)), h0⟩
  · rw [if_neg h2]; exact ⟨_, rfl, good _ (.inl (by omega)), h0⟩

theorem u_low (c : UInt8) (n : Int) (hn : n = (c.toNat : Int)) (h : n < 128) (h0 : 0 ≤ n) : Dm.U n = [c] := by
  have e := Dm.encode_low n h0 h
  have e2 : UInt8.ofNat n.toNat = c := by rw [hn, Int.toNat_natCast, UInt8.ofNat_toNat]
  rw [e2] at e
  exact e
theorem nums_uu : ∀ (A : List UInt8), (∀ c ∈ A, c.toNat < 128) → Dm.UU (A.map fun c => (c.toNat : Int)) = A := by
  intro A
  induction A with
  | nil => intro _; rfl
  | cons c A ih =>
    intro hA
    have hc := hA c (List.mem_cons_self ..)
    have e := u_low c _ rfl (by omega) (by omega)
    rw [List.map_cons]
    unfold Dm.UU
    rw [List.flatMap_cons, e]
    have := ih fun x hx => hA x (List.mem_cons_of_mem _ hx)
    unfold Dm.UU at this
    rw [this, List.singleton_append]
theorem nums (A : List UInt8) (hA : ∀ c ∈ A, c.toNat < 128) : (∀ x ∈ A.map (fun c => (c.toNat : Int)), 0 ≤ x ∧ x < 128) ∧ Dm.UU (A.map fun c => (c.toNat : Int)) = A := by
  refine ⟨?_, nums_uu A hA⟩
  intro x hx
  obtain ⟨c, hc, rfl⟩ := List.mem_map.1 hx
  have := hA c hc
  omega
theorem uu_app (A B : List Int) : Dm.UU (A ++ B) = Dm.UU A ++ Dm.UU B := by unfold Dm.UU; rw [List.flatMap_append]
theorem chars_f (L : List Int) (h : ∀ c ∈ L, Utf8.valid c = true) (hl : (Dm.UU L).length ≤ 1000000) : spec_IdCharacters.f (bs (Dm.UU L)) = some (L, true) := by
  unfold spec_IdCharacters.f
  rw [bs_size, if_pos hl, bs_dl, Dm.uu_valid L h, if_pos rfl, Dm.rune_uu L _ h (Nat.le_refl _)]
theorem low_good (x : Int) (h : 0 ≤ x ∧ x < 128) : Utf8.valid x = true := by
  have : (0 ≤ x ∧ x < 55296) ∨ (57344 ≤ x ∧ x ≤ 1114111) := .inl (by omega)
  simpa [Utf8.valid] using this
theorem runesB (L : List Int) : runesBytes L = bs (Dm.UU L) := by
  apply ByteArray.ext
  apply Array.toList_inj.1
  rw [Dm.runes_list]
  rfl
theorem one_high (c : Int) (hc : 160 ≤ c) (m : Int) (hm : spec_anCharacter.f m = some c) (k : Nat) (hk : 10 < k) : spec_AnCharacters.f k [m] = some [c] := by
  obtain ⟨k, rfl⟩ : ∃ j, k = j + 2 := ⟨k - 2, by omega⟩
  unfold spec_AnCharacters.f
  simp only [spec_AnCharacters.l0]
  rw [if_pos (by simp), if_pos (by decide), if_pos (by simp)]
  refine bd_of hm ?_
  rw [if_neg (by decide), if_pos (by decide), wrap_id (x := (0 : Int) + 1) (by omega) (by omega), if_neg (by simp), if_pos (by simpa using (show (128 : Int) ≤ c by omega))]
  rfl
theorem last_low (L : List Int) (h : Dm.Rd (L.filter (Dm.lt 128)) 0 128 72 (Dm.encAll (L.length + 1) L 128 (L.filter (Dm.lt 128)).length 0 72 true) L) (h0 : ∀ c ∈ L, 0 ≤ c) : ∀ c ∈ (Dm.punyText L).take (Dm.lastU (Dm.punyText L)).toNat, c.toNat < 128 := by
  unfold Dm.punyText
  generalize Dm.encAll (L.length + 1) L 128 (L.filter (Dm.lt 128)).length 0 72 true = enc at *
  obtain ⟨h1, h2⟩ := h
  by_cases he : L.filter (Dm.lt 128) = []
  · rw [if_pos he, List.nil_append, Dm.lastU_none enc h2]
    intro c hc; simp at hc
  · rw [if_neg he, List.append_assoc, List.singleton_append, Dm.lastU_app _ _ h2, Int.toNat_natCast, List.take_left]
    intro c hc
    obtain ⟨x, hx, rfl⟩ := List.mem_map.1 hc
    obtain ⟨hx1, hx2⟩ := List.mem_filter.1 hx
    have := h0 x hx1
    have hx3 : x < 128 := of_decide_eq_true hx2
    rw [UInt8.toNat_ofNat_of_lt' (by have : UInt8.size = 256 := rfl; omega)]
    omega
theorem puny_door (L : List Int) (hx : Dm.expand (Dm.punyText L) = some L) (hl : (Dm.punyText L).length ≤ 2147483647) (ha : ∀ c ∈ (Dm.punyText L).take (Dm.lastU (Dm.punyText L)).toNat, c.toNat < 128) : laws_doorPuny.f (bs (Dm.punyText L)) (bs (Dm.UU L)) = some true := by
  unfold laws_doorPuny.f impl_Punycode.f
  rw [bs_size, bs_dl, if_pos ⟨hl, ha⟩, hx]
  simp only [Option.bind_some, runesB]
  rw [if_pos trivial]
  simp
theorem end_one (A B : List UInt8) (hA : ∀ c ∈ A, c.toNat < 128) (hB : ∀ c ∈ B, c.toNat < 128) (la : A.length ≤ 1000) (lb : B.length ≤ 1000) (a1 : Int) (k : Nat) (hk : 6000000000 < k) : laws_FnPunycodeOne.j2 (k + 1) a1 (bs A) (bs B) = some true := by
  simp only [laws_FnPunycodeOne.j2]
  obtain ⟨q, eq, hq⟩ := idAt_n a1 1113952 (by omega) (by omega)
  refine bd_of eq ?_
  rw [wrap_id (x := 160 + (q : Int)) (by omega) (by omega)]
  obtain ⟨c, hc, hg, h160⟩ := char_high (160 + (q : Int)) (by omega) (by omega)
  refine bd_of (one_high c h160 _ hc k (by omega)) ?_
  refine bd_of (string_f [c] (by simp) (by intro x hx; rw [List.mem_singleton] at hx; subst hx; exact hg.2.2) k (by simp; omega)) ?_
  obtain ⟨a0, a2⟩ := nums A hA
  obtain ⟨b0, b2⟩ := nums B hB
  obtain ⟨A', hA'⟩ : ∃ A', A' = A.map fun c => (c.toNat : Int) := ⟨_, rfl⟩
  obtain ⟨B', hB'⟩ : ∃ B', B' = B.map fun c => (c.toNat : Int) := ⟨_, rfl⟩
  have la' : A'.length ≤ 1000 := by rw [hA', List.length_map]; exact la
  have lb' : B'.length ≤ 1000 := by rw [hB', List.length_map]; exact lb
  rw [← hA'] at a0 a2
  rw [← hB'] at b0 b2
  have hu1 : (Dm.UU [c]).length ≤ 4 := by show (Dm.U c ++ []).length ≤ 4; rw [List.append_nil]; exact (Dm.u_len c).2
  have eL : A ++ Dm.UU [c] ++ B = Dm.UU (A' ++ c :: B') := by
    rw [show A' ++ c :: B' = A' ++ ([c] ++ B') from rfl, uu_app, uu_app, a2, b2, List.append_assoc]
  rw [if_pos (by rw [bs_size, bs_size]; omega), app, if_pos (by rw [bs_size, bs_size, List.length_append]; omega), app, eL]
  have hv : ∀ x ∈ A' ++ c :: B', Utf8.valid x = true := by
    intro x hx
    rcases List.mem_append.1 hx with h | h
    · exact low_good x (a0 x h)
    · rcases List.mem_cons.1 h with h | h
      · rw [h]; exact hg.1
      · exact low_good x (b0 x h)
  have hr : ∀ x ∈ A' ++ c :: B', 0 ≤ x ∧ x ≤ 1114111 := by
    intro x hx
    rcases List.mem_append.1 hx with h | h
    · have := a0 x h; omega
    · rcases List.mem_cons.1 h with h | h
      · rw [h]; exact hg.2.2
      · have := b0 x h; omega
  have hl : (A' ++ c :: B').length ≤ 2100 := by rw [List.length_append, List.length_cons]; omega
  refine bd_of (chars_f _ hv (by rw [← eL, List.length_append, List.length_append]; omega)) ?_
  have hx := Dm.expand_one A' B' c a0 b0 (by omega) hg.2.2.2 hg.2.1 (by omega)
  refine bd_of (puny_print _ hl hr k hk) (bd_of (string_f _ (by omega) hr k (by omega)) ?_)
  have hrd := Dm.rd_one A' B' c a0 b0 (by omega) hg.2.2.2 hg.2.1 (by omega)
  have hlen : (Dm.punyText (A' ++ c :: B')).length ≤ 2147483647 := by
    have := Dm.len_one A' B' c (fun x hx => (a0 x hx).2) (fun x hx => (b0 x hx).2) (by omega) hg.2.2.2 (by omega)
    omega
  exact bd_of (puny_door _ hx hlen (last_low _ hrd fun x hx => (hr x hx).1)) rfl
theorem plain_take (l : List Int) (hw : ∀ x ∈ l, (Lit.int .u8 x).wf = true) (k : Nat) (hk : 1000 < k) : ∃ a : List UInt8, spec_AnPlain.f k (l.take ((mn (l.length : Int) 1000) : Int).toNat) = some (bs a) ∧ a.length ≤ 1000 ∧ ∀ c ∈ a, c.toNat < 128 := by
  have hl : (l.take ((mn (l.length : Int) 1000) : Int).toNat).length ≤ 1000 := by
    rw [List.length_take]; unfold mn; split <;> omega
  obtain ⟨a, e, _, h1, h2⟩ := plain_f (l.take ((mn (l.length : Int) 1000) : Int).toNat) (fun x hx => hw x (List.mem_of_mem_take hx)) hl k hk
  exact ⟨a, e, h1, h2⟩
theorem mn_ok (l : List Int) : 0 ≤ mn (l.length : Int) 1000 ∧ mn (l.length : Int) 1000 ≤ (l.length : Int) := by unfold mn; split <;> omega
theorem behind_one (l2 : List Int) (hw2 : ∀ x ∈ l2, (Lit.int .u8 x).wf = true) (A : List UInt8) (hA : ∀ c ∈ A, c.toNat < 128) (la : A.length ≤ 1000) (a1 : Int) (k : Nat) (hk : 6000000000 < k) : laws_FnPunycodeOne.j1 (k + 2) a1 l2 (bs A) (bs []) = some true := by
  simp only [laws_FnPunycodeOne.j1]
  by_cases h : (l2.length : Int) > 0
  · obtain ⟨b, eb, lb, hb⟩ := plain_take l2 hw2 (k + 1) (by omega)
    rw [if_pos h, if_pos (mn_ok l2).1, if_pos (mn_ok l2).2]
    exact bd_of eb (end_one A b hA hb la lb a1 k hk)
  · rw [if_neg h]
    exact end_one A [] hA (by simp) la (by simp) a1 k hk
theorem FnPunycodeOne : laws_FnPunycodeOne.Pure := by
  intro l0 a1 l2 hm0 _ hw0 hw1 hm2 _ hw2
  obtain ⟨k, hk⟩ : ∃ k : Nat, 6000000000 < k := ⟨_, Nat.lt_succ_self _⟩
  refine ⟨k + 3, ?_⟩
  have hbad : laws_FnPunycodeOne.j0 (k + 3) l0 a1 l2 true = some true := by simp only [laws_FnPunycodeOne.j0, if_true]
  unfold laws_FnPunycodeOne.f
  by_cases h1 : (l0.length : Int) > 2147483647
  · rw [if_pos h1]; exact hbad
  · rw [if_neg h1]
    cases hz : decide ((l2.length : Int) > 2147483647) with
    | true => exact hbad
    | false =>
      simp only [laws_FnPunycodeOne.j0]
      rw [if_neg (by decide)]
      by_cases h : (l0.length : Int) > 0
      · obtain ⟨a, ea, la, ha⟩ := plain_take l0 hw0 (k + 2) (by omega)
        rw [if_pos h, if_pos (mn_ok l0).1, if_pos (mn_ok l0).2]
        exact bd_of ea (behind_one l2 hw2 a ha la a1 k hk)
      · rw [if_neg h]
        exact behind_one l2 hw2 [] (by simp) (by simp) a1 k hk
end Go.Proofs.YtkhbmkccbhkolaaDoor.Pure
