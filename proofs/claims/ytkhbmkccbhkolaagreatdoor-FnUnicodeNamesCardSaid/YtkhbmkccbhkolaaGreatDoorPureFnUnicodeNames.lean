/- FnUnicodeNames, of numbers and lists alone: a path of names with characters beyond 128 is told. -/
import Derived.Test.YtkhbmkccbhkolaaGreatDoorPFnUnicodeNamesx5
import Derived.Test.YtkhbmkccbhkolaaGreatDoorPV
import Derived.Test.YtkhbmkccbhkolaaGreatDoorPA
import Derived.Test.YtkhbmkccbhkolaaGreatDoorPU
import Derived.Test.YtkhbmkccbhkolaaGreatDoorM2
import Derived.Test.YtkhbmkccbhkolaaGreatDoorM6
import Derived.Test.YtkhbmkccbhkolaaGreatDoorWMore
namespace Go.Proofs.YtkhbmkccbhkolaaGreatDoor.Pure
set_option linter.unusedVariables false
set_option linter.unusedSimpArgs false
open Go.RowKit Go.Proofs.YtkhbmkccbhkolaaGreatDoor.PFnUnicodeNames Go.Proofs.YtkhbmkccbhkolaaGreatDoorW.PrintWords Go.Proofs.YtkhbmkccbhkolaaGreatDoorW.PrintLast

theorem getD_mem' {l : List UInt8} {k : Nat} (h : k < l.length) : l.getD k 0 ∈ l := by
  rw [List.getD_eq_getElem?_getD, List.getElem?_eq_getElem h]; exact List.getElem_mem h
theorem app (l m : List UInt8) : bs l ++ bs m = bs (l ++ m) := by
  apply ByteArray.ext
  simp [bs, ByteArray.data_append]
theorem bind_of {α β : Type} {x : Option α} {a : α} {f : α → Option β} {r : Option β} (h : x = some a) (h2 : f a = r) : x.bind f = r := by subst h; exact h2
theorem u8_range {l : List Int} (h : ∀ x ∈ l, (Lit.int .u8 x).wf = true) (i : Nat) : 0 ≤ rd l (i : Int) ∧ rd l (i : Int) ≤ 255 := by
  unfold rd
  rw [Int.toNat_natCast, List.getD_eq_getElem?_getD]
  cases hi : l[i]? with
  | none => simp
  | some x =>
    have := h x (List.mem_of_getElem? hi)
    simp [Lit.wf, IntKind.min, IntKind.max, IntKind.bits, IntKind.signed] at this
    simp; omega
theorem strOf_list (a : List UInt8) : strOfNums (a.map (fun c => (c.toNat : Int))) = bs a := by
  unfold strOfNums bs
  congr 2
  rw [List.map_map, show ((fun n : Int => UInt8.ofNat n.toNat) ∘ fun c : UInt8 => (c.toNat : Int)) = id from by funext c; simp]
  simp
def L63 : List UInt8 := [97, 98, 99, 100, 101, 102, 103, 104, 105, 106, 107, 108, 109, 110, 111, 112, 113, 114, 115, 116, 117, 118, 119, 120, 121, 122, 65, 66, 67, 68, 69, 70, 71, 72, 73, 74, 75, 76, 77, 78, 79, 80, 81, 82, 83, 84, 85, 86, 87, 88, 89, 90, 48, 49, 50, 51, 52, 53, 54, 55, 56, 57, 95]
theorem l63_at (q : Int) (h0 : 0 ≤ q) (h1 : q < 63) : bt (⟨#[97, 98, 99, 100, 101, 102, 103, 104, 105, 106, 107, 108, 109, 110, 111, 112, 113, 114, 115, 116, 117, 118, 119, 120, 121, 122, 65, 66, 67, 68, 69, 70, 71, 72, 73, 74, 75, 76, 77, 78, 79, 80, 81, 82, 83, 84, 85, 86, 87, 88, 89, 90, 48, 49, 50, 51, 52, 53, 54, 55, 56, 57, 95]⟩ : ByteArray) q = ((L63.getD q.toNat 0).toNat : Int) := by
  have hq : q.toNat < L63.length := by show q.toNat < 63; omega
  have := bt_bs L63 q.toNat hq
  rw [Int.toNat_of_nonneg h0] at this
  refine (show bt (bs L63) q = _ from this).trans ?_
  rw [List.getD_eq_getElem?_getD, List.getElem?_eq_getElem hq]; rfl
theorem bd_of {α β : Type} {x : Option α} {a : α} {f : α → Option β} {r : Option β} (h : x = some a) (h2 : f a = r) : x.bind f = r := by subst h; exact h2
theorem rdI (xs : List Int) (i : Nat) (h : i < xs.length) : rd xs (i : Int) = xs[i] := by
  unfold rd
  rw [Int.toNat_natCast, List.getD_eq_getElem?_getD, List.getElem?_eq_getElem h]; rfl
def laws_idAt.f (a0 : Int) (a1 : Int) : Option (Int) := if a1 = 0 then (none) else (some (Int.tmod (wrap64 ((Int.tmod a0 a1) + a1)) a1))
theorem idAt_n (a n : Int) (h0 : 0 < n) (h1 : n ≤ 4611686018427387904) : ∃ q : Nat, laws_idAt.f a n = some (q : Int) ∧ (q : Int) < n := by
  unfold laws_idAt.f
  rw [if_neg (by omega)]
  have m0 := Int.tmod_lt_of_pos a h0
  have m1 := Int.lt_tmod_of_pos a h0
  rw [wrap_id (x := Int.tmod a n + n) (by omega) (by omega)]
  have q0 : 0 ≤ Int.tmod (Int.tmod a n + n) n := Int.tmod_nonneg _ (by omega)
  have q1 : Int.tmod (Int.tmod a n + n) n < n := Int.tmod_lt_of_pos _ h0
  obtain ⟨q, hq⟩ := Int.eq_ofNat_of_zero_le q0
  exact ⟨q, by rw [hq], by omega⟩
def L36 : List UInt8 := [97, 98, 99, 100, 101, 102, 103, 104, 105, 106, 107, 108, 109, 110, 111, 112, 113, 114, 115, 116, 117, 118, 119, 120, 121, 122, 48, 49, 50, 51, 52, 53, 54, 55, 56, 57]
theorem piece36 (d : Nat) (h : d < 36) : (⟨#[97, 98, 99, 100, 101, 102, 103, 104, 105, 106, 107, 108, 109, 110, 111, 112, 113, 114, 115, 116, 117, 118, 119, 120, 121, 122, 48, 49, 50, 51, 52, 53, 54, 55, 56, 57]⟩ : ByteArray).extract d (d + 1) = bs [L36.getD d 0] := by
  have hp : ∀ d : Fin 36, (L36.drop d.val).take 1 = [L36.getD d.val 0] := by decide +kernel
  show (bs L36).extract _ _ = _
  apply ByteArray.ext
  have := hp ⟨d, h⟩
  simp only at this
  simp [bs, ByteArray.data_extract]
  rw [this]
  rfl
/-! ### the printed Punycode -/
theorem thr_f (p : Nat) (bias : Int) (hp : p ≤ 100000000000) (h0 : 0 ≤ bias) (h1 : bias ≤ 1000) : spec_idThreshold.f (p : Int) bias = some (Dm.thr (36 * p) bias) := by
  unfold spec_idThreshold.f
  rw [wrap_id (x := 36 * (p : Int)) (by omega) (by omega), wrap_id (x := 36 * (p : Int) - bias) (by omega) (by omega)]
  congr 1
  unfold mn mx Dm.thr
  repeat' split
  all_goals omega
theorem pch36 : ∀ k : Fin 36, L36.getD k.val 0 = Dm.pch (k.val : Int) := by decide +kernel
theorem letter_f (d : Int) (h0 : 0 ≤ d) (h1 : d < 36) : spec_idLetter.f d = some (bs [Dm.pch d]) := by
  unfold spec_idLetter.f
  rw [wrap_id (x := d + 1) (by omega) (by omega), if_pos h0, if_pos (by omega), if_pos (by omega)]
  obtain ⟨n, rfl⟩ := Int.eq_ofNat_of_zero_le h0
  rw [Int.toNat_natCast, show ((n : Int) + 1).toNat = n + 1 by omega, piece36 n (by omega)]
  have := pch36 ⟨n, by omega⟩
  simp only at this
  rw [this]
theorem delta_step (q t : Int) (h0 : 0 ≤ q) (ht1 : 1 ≤ t) (ht : t ≤ 26) (hq : t ≤ q) (hb : q ≤ 4000000000) : wrap64 (36 - t) = 36 - t ∧ wrap64 (q - t) = q - t ∧ Int.tmod (q - t) (36 - t) = (q - t) % (36 - t) ∧ Int.tdiv (q - t) (36 - t) = (q - t) / (36 - t) ∧
    0 ≤ (q - t) % (36 - t) ∧ (q - t) % (36 - t) < 36 - t ∧ 0 ≤ (q - t) / (36 - t) ∧ (q - t) / (36 - t) < q ∧ wrap64 (t + (q - t) % (36 - t)) = t + (q - t) % (36 - t) ∧ wrap64 ((q - t) / (36 - t)) = (q - t) / (36 - t) := by
  have a0 : 0 ≤ (q - t) % (36 - t) := Int.emod_nonneg _ (by omega)
  have a1 : (q - t) % (36 - t) < 36 - t := Int.emod_lt_of_pos _ (by omega)
  have b0 : 0 ≤ (q - t) / (36 - t) := Int.ediv_nonneg (by omega) (by omega)
  have b1 : (q - t) / (36 - t) ≤ q - t := Int.ediv_le_self _ (by omega)
  generalize he : (q - t) % (36 - t) = e at *
  generalize hf : (q - t) / (36 - t) = f at *
  refine ⟨wrap_id (by omega) (by omega), wrap_id (by omega) (by omega), ?_, ?_, a0, a1, b0, by omega, wrap_id (by omega) (by omega), wrap_id (by omega) (by omega)⟩
  · rw [Int.tmod_eq_emod_of_nonneg (by omega), he]
  · rw [Int.tdiv_eq_ediv_of_nonneg (by omega), hf]
theorem delta_loop (bias : Int) (b0 : 0 ≤ bias) (b1 : bias ≤ 1000) : ∀ (n : Nat) (q : Int) (p k : Nat) (t : List UInt8), 0 ≤ q → q ≤ 4000000000 → q.toNat < n → n < k → p + n ≤ 100000000000 → t.length + n ≤ 100000000000 →
    spec_idDelta.l0 k q bias (bs t) (p : Int) = some (bs (t ++ Dm.encD n q p bias)) := by
  intro n
  induction n with
  | zero => intro q p k t _ _ h; omega
  | succ n ih =>
    intro q p k t h0 hq h hk hp ht
    obtain ⟨k, rfl⟩ : ∃ m, k = m + 1 := ⟨k - 1, by omega⟩
    simp only [spec_idDelta.l0]
    refine bd_of (thr_f p bias (by omega) b0 b1) ?_
    obtain ⟨r0, r1⟩ := Dm.thr_range (36 * (p : Int)) bias
    simp only [Dm.encD]
    generalize Dm.thr (36 * (p : Int)) bias = T at *
    by_cases hT : q < T
    · rw [if_pos hT, if_pos hT]
      refine bd_of (letter_f q h0 (by omega)) ?_
      rw [if_pos (by rw [bs_size, bs_size]; simp; omega), app]
    · rw [if_neg hT, if_neg hT]
      obtain ⟨e1, e2, e3, e4, e5, e6, e7, e8, e9, e10⟩ := delta_step q T h0 r0 r1 (by omega) hq
      rw [e1, e2, e3, e4, e9, e10, if_neg (by omega), wrap_id (x := (p : Int) + 1) (by omega) (by omega), show (p : Int) + 1 = ((p + 1 : Nat) : Int) by omega]
      refine bd_of (letter_f _ (by omega) (by omega)) ?_
      rw [if_pos (by rw [bs_size, bs_size]; simp; omega), app]
      generalize (q - T) / (36 - T) = f at *
      rw [ih f (p + 1) k (t ++ [Dm.pch (T + (q - T) % (36 - T))]) e7 (by omega) (by omega) (by omega) (by omega) (by rw [List.length_append]; simp; omega), List.append_assoc, List.singleton_append]
theorem delta_f (q bias : Int) (h0 : 0 ≤ q) (hq : q ≤ 4000000000) (b0 : 0 ≤ bias) (b1 : bias ≤ 1000) (k : Nat) (hk : 4000000001 < k) : spec_idDelta.f k q bias = some (bs (Dm.encD (q.toNat + 1) q 1 bias)) := by
  unfold spec_idDelta.f
  exact delta_loop bias b0 b1 (q.toNat + 1) q 1 k [] h0 hq (by omega) (by omega) (by omega) (by simp; omega)
theorem small_end (d k0 : Int) (h0 : 0 ≤ d) (h1 : d ≤ 455) (k1 : 0 ≤ k0) (k2 : k0 ≤ 200000000000) : wrap64 (d + 38) = d + 38 ∧ wrap64 (k0 + wrap64 (Int.tdiv (wrap64 (36 * d)) (d + 38))) = k0 + 36 * d / (d + 38) := by
  rw [wrap_id (x := d + 38) (by omega) (by omega), wrap_id (x := 36 * d) (by omega) (by omega), Int.tdiv_eq_ediv_of_nonneg (by omega)]
  have a0 : 0 ≤ 36 * d / (d + 38) := Int.ediv_nonneg (by omega) (by omega)
  have a1 : 36 * d / (d + 38) ≤ 36 * d := Int.ediv_le_self _ (by omega)
  generalize 36 * d / (d + 38) = x at *
  rw [wrap_id (x := x) (by omega) (by omega), wrap_id (by omega) (by omega)]
  exact ⟨rfl, rfl⟩
theorem small_stop (d k0 : Int) (k : Nat) (h : ¬ 455 < d) (h0 : 0 ≤ d) (k1 : 0 ≤ k0) (k2 : k0 ≤ 100000) : spec_idAdapted.l0 (k + 1) d k0 = some ((Dm.small d k0).2 + 36 * (Dm.small d k0).1 / ((Dm.small d k0).1 + 38)) := by
  obtain ⟨e1, e2⟩ := small_end d k0 h0 (by omega) k1 (by omega)
  have es : Dm.small d k0 = (d, k0) := by unfold Dm.small; rw [if_neg h]
  simp only [spec_idAdapted.l0, es]
  rw [if_neg (by omega), e1, if_neg (by omega), e2]
theorem small_f : ∀ (m : Nat) (d k0 : Int) (k : Nat), 0 ≤ d → d ≤ 455 * (35 : Int) ^ m → d ≤ 10000000000 → m < k → 0 ≤ k0 → k0 + 36 * m ≤ 100000 →
    spec_idAdapted.l0 k d k0 = some ((Dm.small d k0).2 + 36 * (Dm.small d k0).1 / ((Dm.small d k0).1 + 38)) := by
  intro m
  induction m with
  | zero =>
    intro d k0 k h0 h1 _ hk k1 k2
    obtain ⟨k, rfl⟩ : ∃ m, k = m + 1 := ⟨k - 1, by omega⟩
    exact small_stop d k0 k (by simp at h1; omega) h0 k1 (by omega)
  | succ m ih =>
    intro d k0 k h0 h1 hd hk k1 k2
    obtain ⟨k, rfl⟩ : ∃ m, k = m + 1 := ⟨k - 1, by omega⟩
    by_cases h : 455 < d
    · have h2 : d / 35 ≤ 455 * (35 : Int) ^ m := by
        rw [Int.pow_succ, ← Int.mul_assoc] at h1
        exact Int.ediv_le_of_le_mul (by omega) h1
      have h3 : 0 ≤ d / 35 := Int.ediv_nonneg (by omega) (by omega)
      have h4 : d / 35 ≤ d := Int.ediv_le_self _ (by omega)
      have es : Dm.small d k0 = Dm.small (d / 35) (k0 + 36) := by conv => lhs; unfold Dm.small; rw [if_pos h]
      rw [es]
      simp only [spec_idAdapted.l0]
      rw [if_pos (by omega), Int.tdiv_eq_ediv_of_nonneg h0]
      generalize d / 35 = e at *
      rw [wrap_id (x := e) (by omega) (by omega), wrap_id (x := k0 + 36) (by omega) (by omega)]
      exact ih e (k0 + 36) k h3 h2 (by omega) (by omega) (by omega) (by omega)
    · exact small_stop d k0 k h h0 k1 (by omega)
theorem adapted_j (e many : Int) (h0 : 0 ≤ e) (he : e ≤ 2000000000) (hm : 1 ≤ many) (k : Nat) (hk : 100 < k) : spec_idAdapted.j0 k e many = some ((Dm.small (e + e / many) 0).2 + 36 * (Dm.small (e + e / many) 0).1 / ((Dm.small (e + e / many) 0).1 + 38)) := by
  obtain ⟨k, rfl⟩ : ∃ m, k = m + 1 := ⟨k - 1, by omega⟩
  simp only [spec_idAdapted.j0]
  rw [if_neg (by omega), Int.tdiv_eq_ediv_of_nonneg h0]
  have h2 : 0 ≤ e / many := Int.ediv_nonneg (by omega) (by omega)
  have h3 : e / many ≤ e := Int.ediv_le_self _ (by omega)
  generalize e / many = f at *
  rw [wrap_id (x := f) (by omega) (by omega), wrap_id (x := e + f) (by omega) (by omega)]
  exact small_f 5 (e + f) 0 k (by omega) (by rw [show (455 : Int) * 35 ^ 5 = 23897453125 from by decide]; omega) (by omega) (by omega) (by omega) (by omega)
theorem adapted_f (d many : Int) (first : Bool) (h0 : 0 ≤ d) (h1 : d ≤ 4000000000) (hm : 1 ≤ many) (k : Nat) (hk : 100 < k) : spec_idAdapted.f k d many first = some (Dm.adapted d many first) := by
  unfold spec_idAdapted.f
  cases first with
  | true =>
    rw [if_pos rfl, Int.tdiv_eq_ediv_of_nonneg h0, wrap_id (x := d / 700) (by omega) (by omega)]
    exact adapted_j (d / 700) many (by omega) (by omega) hm k hk
  | false =>
    rw [if_neg (by decide), Int.tdiv_eq_ediv_of_nonneg h0, wrap_id (x := d / 2) (by omega) (by omega)]
    exact adapted_j (d / 2) many (by omega) (by omega) hm k hk
theorem next_loop (L : List Int) (least : Int) (hl : L.length ≤ 1000000) : ∀ (d i k : Nat) (next : Int), i + d = L.length → d < k → spec_idNext.l0 k least next L (L.length : Int) (i : Int) = some (Dm.nxt (L.drop i) least next) := by
  intro d
  induction d with
  | zero =>
    intro i k next hi hk
    obtain ⟨k, rfl⟩ : ∃ m, k = m + 1 := ⟨k - 1, by omega⟩
    simp only [spec_idNext.l0]
    rw [if_neg (by omega), List.drop_of_length_le (by omega)]; rfl
  | succ d ih =>
    intro i k next hi hk
    obtain ⟨k, rfl⟩ : ∃ m, k = m + 1 := ⟨k - 1, by omega⟩
    have hlt : i < L.length := by omega
    simp only [spec_idNext.l0]
    rw [if_pos (by omega), if_pos (by omega), if_pos (by omega), rdI L i hlt, wrap_id (x := (i : Int) + 1) (by omega) (by omega), show (i : Int) + 1 = ((i + 1 : Nat) : Int) by omega, List.drop_eq_getElem_cons hlt]
    simp only [Dm.nxt, ih (i + 1) k _ (by omega) (by omega)]
    generalize L[i] = c
    by_cases h1 : c ≥ least
    · rw [if_pos h1]
      by_cases h2 : next < 0
      · rw [if_pos h2, if_pos ⟨h1, .inl h2⟩]
      · rw [if_neg h2]
        by_cases h3 : c < next
        · rw [if_pos h3, if_pos ⟨h1, .inr h3⟩]
        · rw [if_neg h3, if_neg (by omega)]
    · rw [if_neg h1, if_neg (by omega)]
theorem next_f (L : List Int) (least : Int) (hl : L.length ≤ 1000000) (k : Nat) (hk : 1000000 < k) : spec_idNext.f k L least = some (Dm.nxt L least (-1)) := by
  unfold spec_idNext.f
  exact next_loop L least hl L.length 0 k (-1) (by omega) (by omega)
/-- The characters below 128, as they are written. -/
def lowB (L : List Int) : List UInt8 := (L.filter (Dm.lt 128)).map fun c => UInt8.ofNat c.toNat
theorem enc_low (c : Int) (h0 : 0 ≤ c) (h1 : c < 128) : Utf8.encode (wrap32 c) = bs [UInt8.ofNat c.toNat] := by
  have e : wrap32 c = c := by unfold wrap32; omega
  rw [e]
  apply ByteArray.ext
  apply Array.toList_inj.1
  rw [Dm.encode_low c h0 h1]
  rfl
theorem low_loop (L : List Int) (hl : L.length ≤ 1000000) (hL : ∀ c ∈ L, 0 ≤ c ∧ c ≤ 1114111) : ∀ (d i k : Nat) (t : List UInt8), i + d = L.length → t.length ≤ i →
    spec_IdPunycode.l0 (k + d) L (bs t) L (L.length : Int) (i : Int) = spec_IdPunycode.l0 k L (bs (t ++ lowB (L.drop i))) L (L.length : Int) (L.length : Int) := by
  intro d
  induction d with
  | zero => intro i k t hi ht; rw [show i = L.length by omega, List.drop_length]; simp [lowB]
  | succ d ih =>
    intro i k t hi ht
    have hlt : i < L.length := by omega
    have hc := hL L[i] (List.getElem_mem hlt)
    rw [show k + (d + 1) = (k + d) + 1 by omega]
    simp only [spec_IdPunycode.l0]
    rw [if_pos (by omega), if_pos (by omega), if_pos (by omega), rdI L i hlt, wrap_id (x := (i : Int) + 1) (by omega) (by omega), show (i : Int) + 1 = ((i + 1 : Nat) : Int) by omega, List.drop_eq_getElem_cons hlt]
    generalize L[i] = c at *
    by_cases h : c < 128
    · rw [if_pos h, enc_low c hc.1 h, if_pos (by rw [bs_size, bs_size]; simp; omega), app, ih (i + 1) k _ (by omega) (by rw [List.length_append]; simp; omega)]
      have : lowB (c :: L.drop (i + 1)) = UInt8.ofNat c.toNat :: lowB (L.drop (i + 1)) := by
        unfold lowB; rw [List.filter_cons_of_pos (show Dm.lt 128 c = true from decide_eq_true h)]; rfl
      rw [this, List.append_assoc, List.singleton_append]
    · rw [if_neg h, ih (i + 1) k _ (by omega) (by omega)]
      have : lowB (c :: L.drop (i + 1)) = lowB (L.drop (i + 1)) := by
        unfold lowB; rw [List.filter_cons_of_neg (by unfold Dm.lt; rw [decide_eq_true_eq]; exact h)]
      rw [this]
theorem encD_len : ∀ (n : Nat) (q : Int) (p : Nat) (b : Int), (Dm.encD n q p b).length ≤ n := by
  intro n
  induction n with
  | zero => intro q p b; simp [Dm.encD]
  | succ n ih =>
    intro q p b
    simp only [Dm.encD]
    split
    · simp
    · rw [List.length_cons]; have := ih ((q - Dm.thr (36 * p) b) / (36 - Dm.thr (36 * p) b)) (p + 1) b; omega
/-- One pass. -/
theorem pass_loop (L : List Int) (hl : L.length ≤ 1000000) (now : Int) (hn : 0 ≤ now) (hn2 : now ≤ 1114111) : ∀ (m i k : Nat) (t : List UInt8) (many d bias : Int) (first : Bool), i + m = L.length → 4000000010 < k → 0 ≤ many → many ≤ i + 1000000 → 0 ≤ d → d + m ≤ 4000000000 → 0 ≤ bias → bias ≤ 213 → t.length + 4100000000 * m ≤ 9000000000000000000 →
    spec_IdPunycode.l2 (k + 2 * m) L (bs t) many first now d bias L (L.length : Int) (i : Int) =
      spec_IdPunycode.l2 k L (bs (t ++ (Dm.pass now (L.drop i) many d bias first).1)) (Dm.pass now (L.drop i) many d bias first).2.1 (Dm.pass now (L.drop i) many d bias first).2.2.2.2 now (Dm.pass now (L.drop i) many d bias first).2.2.1 (Dm.pass now (L.drop i) many d bias first).2.2.2.1 L (L.length : Int) (L.length : Int) := by
  intro m
  induction m with
  | zero => intro i k t many d bias first hi hk _ _ _ _ _ _ _; rw [show i = L.length by omega, List.drop_length]; simp [Dm.pass]
  | succ m ih =>
    intro i k t many d bias first hi hk m0 m1 d0 d1 b0 b1 ht
    have hlt : i < L.length := by omega
    rw [show k + 2 * (m + 1) = (k + 2 * m + 1) + 1 by omega]
    simp only [spec_IdPunycode.l2]
    rw [if_pos (by omega), if_pos (by omega), if_pos (by omega), rdI L i hlt, List.drop_eq_getElem_cons hlt]
    simp only [spec_IdPunycode.j4, Dm.pass]
    rw [wrap_id (x := (i : Int) + 1) (by omega) (by omega), show (i : Int) + 1 = ((i + 1 : Nat) : Int) by omega, wrap_id (x := d + 1) (by omega) (by omega), wrap_id (x := many + 1) (by omega) (by omega)]
    generalize L[i] = c
    by_cases h1 : c < now
    · rw [if_pos h1, if_pos h1, if_neg (by omega)]
      exact ih (i + 1) k t many (d + 1) bias first (by omega) hk m0 (by omega) (by omega) (by omega) b0 b1 (by omega)
    · rw [if_neg h1, if_neg h1]
      by_cases h2 : c = now
      · rw [if_pos h2, if_pos h2]
        refine bd_of (delta_f d bias d0 (by omega) b0 (by omega) (k + 2 * m) (by omega)) ?_
        have hel := encD_len (d.toNat + 1) d 1 bias
        obtain ⟨a0, a1⟩ := Dm.adapted_le d (many + 1) first d0 (by omega) (by omega)
        rw [if_pos (by rw [bs_size, bs_size]; omega), app]
        refine bd_of (adapted_f d (many + 1) first d0 (by omega) (by omega) (k + 2 * m) (by omega)) ?_
        generalize Dm.encD (d.toNat + 1) d 1 bias = e at *
        generalize Dm.adapted d (many + 1) first = a at *
        rw [ih (i + 1) k (t ++ e) (many + 1) 0 a false (by omega) hk (by omega) (by omega) (by omega) (by omega) a0 a1 (by rw [List.length_append]; omega), List.append_assoc]
      · rw [if_neg h2, if_neg h2]
        exact ih (i + 1) k t many d bias first (by omega) hk m0 (by omega) d0 (by omega) b0 b1 (by omega)
theorem pass_d (now : Int) : ∀ (r : List Int) (many d bias : Int) (first : Bool), 0 ≤ d → 0 ≤ (Dm.pass now r many d bias first).2.2.1 ∧ (Dm.pass now r many d bias first).2.2.1 ≤ d + r.length ∧ (now ∈ r → (Dm.pass now r many d bias first).2.2.1 ≤ r.length) := by
  intro r
  induction r with
  | nil => intro many d bias first h; simp [Dm.pass]; omega
  | cons c r ih =>
    intro many d bias first h
    simp only [Dm.pass, List.length_cons]
    by_cases h1 : c < now
    · rw [if_pos h1]
      obtain ⟨a, b, e⟩ := ih many (d + 1) bias first (by omega)
      refine ⟨a, by omega, fun hm => ?_⟩
      rcases List.mem_cons.1 hm with hm | hm
      · omega
      · have := e hm; omega
    · rw [if_neg h1]
      by_cases h2 : c = now
      · rw [if_pos h2]
        obtain ⟨a, b, e⟩ := ih (many + 1) 0 (Dm.adapted d (many + 1) first) false (by omega)
        exact ⟨a, by simp only; omega, fun _ => by simp only; omega⟩
      · rw [if_neg h2]
        obtain ⟨a, b, e⟩ := ih many d bias first h
        refine ⟨a, by omega, fun hm => ?_⟩
        rcases List.mem_cons.1 hm with hm | hm
        · exact absurd hm.symm h2
        · have := e hm; omega
theorem pass_len (now : Int) : ∀ (r : List Int) (many d bias : Int) (first : Bool), 0 ≤ d → d + r.length ≤ 4000000000 → (Dm.pass now r many d bias first).1.length ≤ 4100000000 * r.length := by
  intro r
  induction r with
  | nil => intro many d bias first _ _; simp [Dm.pass]
  | cons c r ih =>
    intro many d bias first h0 h1
    simp only [Dm.pass, List.length_cons] at h1 ⊢
    by_cases c1 : c < now
    · rw [if_pos c1]; have := ih many (d + 1) bias first (by omega) (by omega); omega
    · rw [if_neg c1]
      by_cases c2 : c = now
      · rw [if_pos c2]
        have := ih (many + 1) 0 (Dm.adapted d (many + 1) first) false (by omega) (by omega)
        have := encD_len (d.toNat + 1) d 1 bias
        simp only [List.length_append]; omega
      · rw [if_neg c2]; have := ih many d bias first (by omega) (by omega); omega
theorem fuel_j0 (x k j len B : Nat) (h1 : x + 5000 + B < k + 1) (h2 : len ≤ 2100) (h3 : k - 2 * len = j + 1) : x + B < j := by
  have h4 : k = j + 1 + 2 * len := by omega
  omega
theorem fuel_j (n k j len B : Nat) (h1 : (n + 1) * 5000 + B < k + 1) (h2 : len ≤ 2100) (h3 : k - 2 * len = j + 1) : n * 5000 + B < j := by
  rw [Nat.add_mul, Nat.one_mul] at h1
  exact fuel_j0 _ k j len B h1 h2 h3
theorem room_j (a b n len : Nat) (h : a + (n + 1) * 9000000000000 ≤ 4000000000000000000) (hb : b ≤ 4100000000 * len) (hl : len ≤ 2100) : a + b + n * 9000000000000 ≤ 4000000000000000000 := by omega
/-- All passes. -/
theorem all_loop (L : List Int) (hl : L.length ≤ 2100) (hL : ∀ c ∈ L, 0 ≤ c ∧ c ≤ 1114111) : ∀ (n : Nat) (now d bias : Int) (first : Bool) (k : Nat) (t : List UInt8),
    L.length < (L.filter (Dm.lt now)).length + n → 128 ≤ now → now ≤ 1114112 → 0 ≤ d → d ≤ L.length + 1 → 0 ≤ bias → bias ≤ 213 → n * 5000 + 5000000000 < k → t.length + n * 9000000000000 ≤ 4000000000000000000 →
    spec_IdPunycode.l1 k L (bs t) ((L.filter (Dm.lt now)).length : Int) first now d bias (Dm.nxt L now (-1)) = some (bs (t ++ Dm.encAll n L now ((L.filter (Dm.lt now)).length : Int) d bias first)) := by
  intro n
  induction n with
  | zero => intro now d bias first k t h; have := List.length_filter_le (Dm.lt now) L; omega
  | succ n ih =>
    intro now d bias first k t hn h128 hnow d0 d1 b0 b1 hk ht
    obtain ⟨k, rfl⟩ : ∃ m, k = m + 1 := ⟨k - 1, by omega⟩
    obtain ⟨s1, s2⟩ := Dm.nxt_spec L now (-1) (by omega) (.inl (by omega))
    simp only [spec_IdPunycode.l1, Dm.encAll]
    generalize Dm.nxt L now (-1) = nx at *
    by_cases hx : nx < 0
    · rw [if_neg (by omega), if_pos hx, List.append_nil]
    · rw [if_pos (by omega), if_neg hx]
      obtain ⟨a1, a2, a3, _⟩ := s2 (by omega)
      have hmem : nx ∈ L := by rcases a2 with a2 | a2; omega; exact a2
      obtain ⟨r0, r1⟩ := hL nx hmem
      have hfn := Dm.filt_next L now nx a3 a1
      obtain ⟨f1, f2⟩ := Dm.filt_less L nx hmem
      rw [← hfn] at hn ⊢
      have hmany : ((L.filter (Dm.lt nx)).length : Int) ≤ 2100 := by omega
      have hd2 : (nx - now) * (((L.filter (Dm.lt nx)).length : Int) + 1) ≤ 1114111 * 2101 := Int.mul_le_mul (by omega) (by omega) (by omega) (by omega)
      have hd3 : 0 ≤ (nx - now) * (((L.filter (Dm.lt nx)).length : Int) + 1) := Int.mul_nonneg (by omega) (by omega)
      rw [wrap_id (x := nx - now) (by omega) (by omega), wrap_id (x := ((L.filter (Dm.lt nx)).length : Int) + 1) (by omega) (by omega)]
      generalize (nx - now) * (((L.filter (Dm.lt nx)).length : Int) + 1) = g at *
      rw [wrap_id (x := g) (by omega) (by omega), wrap_id (x := d + g) (by omega) (by omega)]
      obtain ⟨e, he⟩ : ∃ e, e = d + g := ⟨_, rfl⟩
      rw [← he]
      have hleft := Dm.pass_left nx r0 L [] e bias first (by omega) (by omega) b0 b1
      simp only [List.nil_append] at hleft
      have hpd := pass_d nx L ((L.filter (Dm.lt nx)).length : Int) e bias first (by omega)
      have hpl := pass_len nx L ((L.filter (Dm.lt nx)).length : Int) e bias first (by omega) (by omega)
      have hp := pass_loop L (by omega) nx r0 r1 L.length 0 (k - 2 * L.length) t ((L.filter (Dm.lt nx)).length : Int) e bias first (by omega) (by omega) (by omega) (by omega) (by omega) (by omega) b0 b1 (by omega)
      rw [show k - 2 * L.length + 2 * L.length = k by omega, List.drop_zero] at hp
      obtain ⟨l1, l2, l3, l4, l5⟩ := hleft
      refine (show _ = _ from hp).trans ?_
      generalize Dm.pass nx L ((L.filter (Dm.lt nx)).length : Int) e bias first = P at *
      obtain ⟨j, hj⟩ : ∃ j, k - 2 * L.length = j + 1 := ⟨k - 2 * L.length - 1, by omega⟩
      rw [hj]
      simp only [spec_IdPunycode.l2]
      rw [if_neg (by omega), wrap_id (x := nx + 1) (by omega) (by omega)]
      have hp3 := hpd.2.2 hmem
      rw [wrap_id (x := P.2.2.1 + 1) (by omega) (by omega)]
      refine bd_of (next_f L (nx + 1) (by omega) j (by omega)) ?_
      have := ih (nx + 1) (P.2.2.1 + 1) P.2.2.2.1 P.2.2.2.2 j (t ++ P.1)
      rw [Dm.filt_succ, ← l1] at this
      have q1 := fuel_j n k j L.length _ hk hl hj
      have q2 := room_j t.length P.1.length n L.length ht hpl hl
      have q3 : L.length < (L.filter (Dm.le nx)).length + n := by omega
      have q4 : 128 ≤ nx + 1 := by omega
      have q5 : nx + 1 ≤ 1114112 := by omega
      have q6 : 0 ≤ P.2.2.1 + 1 := by omega
      have q7 : P.2.2.1 + 1 ≤ (L.length : Int) + 1 := by omega
      rw [this q3 q4 q5 q6 q7 l2 l3 q1 (by rw [List.length_append]; exact q2), List.append_assoc]
theorem low_len (L : List Int) : (lowB L).length = (L.filter (Dm.lt 128)).length := by unfold lowB; rw [List.length_map]
theorem puny_print (L : List Int) (hl : L.length ≤ 2100) (hL : ∀ c ∈ L, 0 ≤ c ∧ c ≤ 1114111) (k : Nat) (hk : 6000000000 < k) : spec_IdPunycode.f k L = some (bs (Dm.punyText L)) := by
  obtain ⟨j, hj⟩ : ∃ j, j = k - L.length - 1 := ⟨_, rfl⟩
  have hjk : k = (j + 1) + L.length := by omega
  have hj2 : 5500000000 < j := by omega
  clear hj
  subst hjk
  clear hk
  unfold spec_IdPunycode.f
  refine (low_loop L (by omega) hL L.length 0 (j + 1) [] (by omega) (by simp)).trans ?_
  rw [List.drop_zero, List.nil_append]
  simp only [spec_IdPunycode.l0]
  rw [if_neg (by omega)]
  have hlen := low_len L
  have hle := List.length_filter_le (Dm.lt 128) L
  obtain ⟨j, rfl⟩ : ∃ m, j = m + 1 := ⟨j - 1, by omega⟩
  have hall := all_loop L hl hL (L.length + 1) 128 0 72 true j
  unfold Dm.punyText
  by_cases he : L.filter (Dm.lt 128) = []
  · have hl0 : lowB L = [] := by unfold lowB; rw [he]; rfl
    have hz : (L.filter (Dm.lt 128)).length = 0 := by rw [he]; rfl
    rw [if_pos he, hl0, if_neg (by decide)]
    simp only [spec_IdPunycode.j1]
    refine bd_of (next_f L 128 (by omega) j (by omega)) ?_
    have := hall [] (by omega) (by omega) (by omega) (by omega) (by omega) (by omega) (by omega) (by omega) (by simp; omega)
    rw [hz] at this ⊢
    exact this
  · have hz : 0 < (L.filter (Dm.lt 128)).length := List.length_pos_iff.2 he
    rw [if_neg he, bs_size, if_pos (by omega), if_pos (by omega), show (⟨#[95]⟩ : ByteArray) = bs [95] from rfl, app]
    simp only [spec_IdPunycode.j1]
    refine bd_of (next_f L 128 (by omega) j (by omega)) ?_
    rw [hlen]
    exact hall (lowB L ++ [95]) (by omega) (by omega) (by omega) (by omega) (by omega) (by omega) (by omega) (by omega) (by rw [List.length_append, hlen]; simp; omega)
/-! ### characters and strings -/
theorem string_loop (L : List Int) (hl : L.length ≤ 1000000) (hL : ∀ c ∈ L, 0 ≤ c ∧ c ≤ 1114111) : ∀ (d i k : Nat) (t : List UInt8), i + d = L.length → d < k → t.length ≤ 4 * i →
    spec_AnString.l0 k (bs t) L (L.length : Int) (i : Int) = some (bs (t ++ Dm.UU (L.drop i))) := by
  intro d
  induction d with
  | zero =>
    intro i k t hi hk ht
    obtain ⟨k, rfl⟩ : ∃ m, k = m + 1 := ⟨k - 1, by omega⟩
    simp only [spec_AnString.l0]
    rw [if_neg (by omega), List.drop_of_length_le (by omega)]
    show some (bs t) = some (bs (t ++ []))
    rw [List.append_nil]
  | succ d ih =>
    intro i k t hi hk ht
    obtain ⟨k, rfl⟩ : ∃ m, k = m + 1 := ⟨k - 1, by omega⟩
    have hlt : i < L.length := by omega
    have hc := hL L[i] (List.getElem_mem hlt)
    simp only [spec_AnString.l0]
    rw [if_pos (by omega), if_pos (by omega), if_pos (by omega), rdI L i hlt, wrap_id (x := (i : Int) + 1) (by omega) (by omega), show (i : Int) + 1 = ((i + 1 : Nat) : Int) by omega, List.drop_eq_getElem_cons hlt]
    generalize L[i] = c at *
    have e : wrap32 c = c := by unfold wrap32; omega
    have hu := Dm.u_len c
    have eb : Utf8.encode c = bs (Dm.U c) := by apply ByteArray.ext; show _ = (Dm.U c).toArray; unfold Dm.U; simp
    rw [e, eb, if_pos (by rw [bs_size, bs_size]; omega), app, ih (i + 1) k _ (by omega) (by omega) (by rw [List.length_append]; omega), List.append_assoc]
    rfl
theorem string_f (L : List Int) (hl : L.length ≤ 1000000) (hL : ∀ c ∈ L, 0 ≤ c ∧ c ≤ 1114111) (k : Nat) (hk : L.length < k) : spec_AnString.f k L = some (bs (Dm.UU L)) := by
  unfold spec_AnString.f
  have := string_loop L hl hL L.length 0 k [] (by omega) hk (by simp)
  rw [List.drop_zero, List.nil_append] at this
  exact this
/-- A character that is none of the control characters. -/
def Good (c : Int) : Prop := Utf8.valid c = true ∧ Dm.validRune c = true ∧ 0 ≤ c ∧ c ≤ 1114111
theorem char_high (m : Int) (h0 : 160 ≤ m) (h1 : m < 1114112) : ∃ c, spec_anCharacter.f m = some c ∧ Good c ∧ 160 ≤ c := by
  have e1 : Int.tmod m 1114112 = m := Int.tmod_eq_of_lt (by omega) (by omega)
  have e2 : Int.tmod (m + 1114112) 1114112 = m := by
    rw [Int.tmod_eq_emod_of_nonneg (by omega), Int.add_emod_right, Int.emod_eq_of_lt (by omega) (by omega)]
  unfold spec_anCharacter.f
  rw [e1, wrap_id (x := m + 1114112) (by omega) (by omega), e2, if_neg (by omega), wrap_id (x := m - 2048) (by omega) (by omega)]
  have good : ∀ c : Int, (0 ≤ c ∧ c < 55296) ∨ (57344 ≤ c ∧ c ≤ 1114111) → Good c := fun c hc => ⟨by simpa [Utf8.valid] using hc, by simp [Dm.validRune]; omega, by omega, by omega⟩
  by_cases h2 : m ≥ 55296
  · rw [if_pos h2]
    by_cases h3 : m ≤ 57343
    · rw [if_pos h3]; exact ⟨_, rfl, good _ (.inl (by omega)), by omega⟩
    · rw [if_neg h3]; exact ⟨_, rfl, good _ (.inr (by omega)), h0⟩
  · rw [if_neg h2]; exact ⟨_, rfl, good _ (.inl (by omega)), h0⟩
/-! ### lists of characters -/
theorem l63_lowI : ∀ k : Fin 63, (L63.getD k.val 0).toNat < 128 ∧ L63.getD k.val 0 ∈ L63 := by decide +kernel
theorem good_of (c : Int) (hc : (0 ≤ c ∧ c < 55296) ∨ (57344 ≤ c ∧ c ≤ 1114111)) : Good c := ⟨by simpa [Utf8.valid] using hc, by simp [Dm.validRune]; omega, by omega, by omega⟩
theorem char_f (a : Int) : ∃ c, spec_anCharacter.f a = some c ∧ Good c ∧ ((∃ b : UInt8, b ∈ L63 ∧ b.toNat < 128 ∧ c = (b.toNat : Int)) ∨ 160 ≤ c) := by
  obtain ⟨q, hq, hq2⟩ := idAt_n a 1114112 (by omega) (by omega)
  unfold laws_idAt.f at hq
  rw [if_neg (by omega)] at hq
  injection hq with hq
  unfold spec_anCharacter.f
  rw [hq]
  by_cases h1 : (q : Int) < 160
  · have r0 : 0 ≤ Int.tmod (q : Int) 63 := Int.tmod_nonneg _ (by omega)
    have r1 : Int.tmod (q : Int) 63 < 63 := Int.tmod_lt_of_pos _ (by omega)
    rw [if_pos h1]
    generalize Int.tmod (q : Int) 63 = r at *
    obtain ⟨b1, b2⟩ := l63_lowI ⟨r.toNat, by omega⟩
    simp only at b1 b2
    rw [if_pos r0, if_pos r1, l63_at r r0 r1]
    generalize L63.getD r.toNat 0 = b at *
    rw [wrap_id (by omega) (by omega)]
    exact ⟨_, rfl, good_of _ (.inl (by omega)), .inl ⟨b, b2, b1, rfl⟩⟩
  · rw [if_neg h1, wrap_id (x := (q : Int) - 2048) (by omega) (by omega)]
    by_cases h2 : (q : Int) ≥ 55296
    · rw [if_pos h2]
      by_cases h3 : (q : Int) ≤ 57343
      · rw [if_pos h3]; exact ⟨_, rfl, good_of _ (.inl (by omega)), .inr (by omega)⟩
      · rw [if_neg h3]; exact ⟨_, rfl, good_of _ (.inr (by omega)), .inr (by omega)⟩
    · rw [if_neg h2]; exact ⟨_, rfl, good_of _ (.inl (by omega)), .inr (by omega)⟩
/-- A list of characters, as the laws make it. -/
def ChG (c : Int) : Prop := Good c ∧ ((∃ b : UInt8, b ∈ L63 ∧ b.toNat < 128 ∧ c = (b.toNat : Int)) ∨ 160 ≤ c)
theorem chars_loop (xs : List Int) (hm : xs.length ≤ 1000) : ∀ (d i k : Nat) (L : List Int) (hi : Bool), i + d = xs.length → d < k → L.length ≤ i → (∀ c ∈ L, ChG c) → (hi = true → ∃ c ∈ L, 160 ≤ c) →
    ∃ R, spec_AnCharacters.l0 k L hi xs (xs.length : Int) (i : Int) = some R ∧ R.length ≤ 1001 ∧ (∀ c ∈ R, ChG c) ∧ ∃ c ∈ R, 160 ≤ c := by
  intro d
  induction d with
  | zero =>
    intro i k L hi hk hd hl hg hh
    obtain ⟨k, rfl⟩ : ∃ m, k = m + 1 := ⟨k - 1, by omega⟩
    simp only [spec_AnCharacters.l0]
    rw [if_neg (by omega)]
    cases hi with
    | true => exact ⟨L, rfl, by omega, hg, hh rfl⟩
    | false =>
      rw [if_neg (by decide), if_pos (by omega)]
      refine ⟨_, rfl, by rw [List.length_append]; simp; omega, ?_, 233, by simp, by omega⟩
      intro c hc
      rcases List.mem_append.1 hc with hc | hc
      · exact hg c hc
      · rw [List.mem_singleton] at hc; subst hc; exact ⟨good_of 233 (.inl (by omega)), .inr (by omega)⟩
  | succ d ih =>
    intro i k L hi hk hd hl hg hh
    obtain ⟨k, rfl⟩ : ∃ m, k = m + 1 := ⟨k - 1, by omega⟩
    have hlt : i < xs.length := by omega
    simp only [spec_AnCharacters.l0]
    rw [if_pos (by omega), if_pos (by omega), if_pos (by omega), rdI xs i hlt, wrap_id (x := (i : Int) + 1) (by omega) (by omega), show (i : Int) + 1 = ((i + 1 : Nat) : Int) by omega]
    obtain ⟨c, ec, hc⟩ := char_f xs[i]
    have hg2 : ∀ x ∈ L ++ [c], ChG x := by
      intro x hx
      rcases List.mem_append.1 hx with hx | hx
      · exact hg x hx
      · rw [List.mem_singleton] at hx; subst hx; exact hc
    have hl2 : (L ++ [c]).length ≤ i + 1 := by rw [List.length_append]; simp; omega
    have hmem : c ∈ L ++ [c] := by simp
    cases hi with
    | true =>
      obtain ⟨R, e, h⟩ := ih (i + 1) k (L ++ [c]) true (by omega) (by omega) hl2 hg2 (fun _ => by obtain ⟨x, hx, h160⟩ := hh rfl; exact ⟨x, List.mem_append_left _ hx, h160⟩)
      refine ⟨R, bd_of ec ?_, h⟩
      rw [if_pos rfl, if_pos (by omega)]
      exact e
    | false =>
      obtain ⟨R, e, h⟩ := ih (i + 1) k (L ++ [c]) (decide (c ≥ 128)) (by omega) (by omega) hl2 hg2 (fun hd => by
        have h128 : c ≥ 128 := of_decide_eq_true hd
        rcases hc.2 with ⟨b, _, hb, hbc⟩ | h160
        · omega
        · exact ⟨c, hmem, h160⟩)
      refine ⟨R, bd_of ec ?_, h⟩
      rw [if_neg (by decide), if_pos (by omega)]
      exact e
theorem chars_an (xs : List Int) (hm : xs.length ≤ 1000) (k : Nat) (hk : 1000 < k) : ∃ R, spec_AnCharacters.f k xs = some R ∧ R.length ≤ 1001 ∧ (∀ c ∈ R, ChG c) ∧ ∃ c ∈ R, 160 ≤ c := by
  unfold spec_AnCharacters.f
  exact chars_loop xs hm xs.length 0 k [] false (by omega) (by omega) (by simp) (by simp) (by simp)
/-! ### an identifier that is not plain -/
theorem itoa_f (n : Nat) (h : n < 9223372036854775808) : strconv_Itoa.f (n : Int) = some (bs (Lib.decDigits n)) := by
  unfold strconv_Itoa.f
  rw [if_pos (by omega), Dm.itoa_nat]
theorem dig_f (c : UInt8) : spec_idIsDigit.f (c.toNat : Int) = some (Dm.isDig c) := by
  unfold spec_idIsDigit.f Dm.isDig
  by_cases h : (c.toNat : Int) ≥ 48
  · rw [if_pos h]; congr 1; rw [eq_comm]; simp; omega
  · rw [if_neg h]; congr 1; rw [eq_comm]; simp; omega
theorem counted_f (t : List UInt8) (h0 : t ≠ []) (hl : t.length ≤ 1000000) : spec_idCounted.f (bs t) = some (bs (Dm.counted t)) := by
  cases t with
  | nil => exact absurd rfl h0
  | cons c r =>
    have hd := Dm.digits_len (c :: r).length
    unfold spec_idCounted.f Dm.counted
    rw [if_neg (by rw [bs_tl]; simp), bs_size, if_pos (by simp <;> omega), bt_zero]
    refine bd_of (dig_f c) ?_
    by_cases h1 : Dm.isDig c = true
    · rw [if_pos h1]
      refine bd_of (itoa_f _ (by omega)) ?_
      rw [if_pos (by rw [bs_size]; omega), show (⟨#[95]⟩ : ByteArray) = bs [95] from rfl, app, if_pos (by rw [bs_size, List.length_append]; simp at *; omega), app]
      have : Dm.sep (c :: r) = [95] := by simp only [Dm.sep]; rw [if_pos (.inl h1)]
      rw [this]
    · rw [if_neg h1]
      by_cases h2 : (c.toNat : Int) = 95
      · rw [if_pos h2]
        have h3 : c = 95 := by apply UInt8.toNat_inj.1; simpa using (show c.toNat = 95 by omega)
        refine bd_of (itoa_f _ (by omega)) ?_
        rw [if_pos (by rw [bs_size]; omega), show (⟨#[95]⟩ : ByteArray) = bs [95] from rfl, app, if_pos (by rw [bs_size, List.length_append]; simp at *; omega), app]
        have : Dm.sep (c :: r) = [95] := by simp only [Dm.sep]; rw [if_pos (.inr h3)]
        rw [this]
      · rw [if_neg h2]
        have h3 : c ≠ 95 := by rintro rfl; exact h2 rfl
        refine bd_of (itoa_f _ (by omega)) ?_
        rw [if_pos (by rw [bs_size]; omega), show (⟨#[]⟩ : ByteArray) = bs [] from rfl, app, if_pos (by rw [bs_size, List.length_append]; simp at *; omega), app]
        have : Dm.sep (c :: r) = [] := by simp only [Dm.sep]; rw [if_neg (by rintro (h | h); exact h1 h; exact h3 h)]
        rw [this]
theorem letter_is (x : Int) : ∃ b, spec_idIsLetter.f x = some b ∧ (128 ≤ x → b = false) := by
  unfold spec_idIsLetter.f
  repeat' split
  all_goals refine ⟨_, rfl, fun h => ?_⟩
  all_goals first | rfl | (simp; omega) | omega
theorem notplain_loop (l : List UInt8) (hl : l.length ≤ 1000000) : ∀ (d i k : Nat), i + d = l.length → d < k → (∃ c ∈ l.drop i, 128 ≤ c.toNat) → spec_IdIsPlain.l0 k (bs l) (l.length : Int) (i : Int) = some false := by
  intro d
  induction d with
  | zero => intro i k hi hk ⟨c, hc, _⟩; rw [List.drop_of_length_le (by omega)] at hc; cases hc
  | succ d ih =>
    intro i k hi hk hex
    obtain ⟨k, rfl⟩ : ∃ m, k = m + 1 := ⟨k - 1, by omega⟩
    have hlt : i < l.length := by omega
    simp only [spec_IdIsPlain.l0]
    rw [if_pos (by omega), if_pos (by omega), if_pos (by rw [bs_size]; omega), bt_bs l i hlt, wrap_id (x := (i : Int) + 1) (by omega) (by omega), show (i : Int) + 1 = ((i + 1 : Nat) : Int) by omega]
    rw [List.drop_eq_getElem_cons hlt] at hex
    have hrec : l[i].toNat < 128 → spec_IdIsPlain.l0 k (bs l) (l.length : Int) ((i + 1 : Nat) : Int) = some false := by
      intro hlow
      obtain ⟨c, hc, h128⟩ := hex
      rcases List.mem_cons.1 hc with hc | hc
      · subst hc; omega
      · exact ih (i + 1) k (by omega) (by omega) ⟨c, hc, h128⟩
    generalize l[i] = c at *
    refine bd_of (dig_f c) ?_
    by_cases h1 : Dm.isDig c = true
    · rw [if_pos h1]
      exact hrec (by unfold Dm.isDig at h1; simp at h1; omega)
    · rw [if_neg h1]
      by_cases h2 : (c.toNat : Int) = 95
      · rw [if_pos h2]; exact hrec (by omega)
      · rw [if_neg h2]
        obtain ⟨b, eb, hb⟩ := letter_is (c.toNat : Int)
        refine bd_of eb ?_
        cases b with
        | true => rw [if_pos rfl]; exact hrec (by apply Decidable.byContradiction; intro hn; have := hb (by omega); cases this)
        | false => rw [if_neg (by decide)]
/-! ### characters in UTF-8 -/
theorem uu_app (A B : List Int) : Dm.UU (A ++ B) = Dm.UU A ++ Dm.UU B := by unfold Dm.UU; rw [List.flatMap_append]
theorem chars_f (L : List Int) (h : ∀ c ∈ L, Utf8.valid c = true) (hl : (Dm.UU L).length ≤ 1000000) : spec_IdCharacters.f (bs (Dm.UU L)) = some (L, true) := by
  unfold spec_IdCharacters.f
  rw [bs_size, if_pos hl, bs_dl, Dm.uu_valid L h, if_pos rfl, Dm.rune_uu L _ h (Nat.le_refl _)]
theorem runesB (L : List Int) : runesBytes L = bs (Dm.UU L) := by
  apply ByteArray.ext
  apply Array.toList_inj.1
  rw [Dm.runes_list]
  rfl
theorem uu_high (L : List Int) (h : ∃ c ∈ L, 160 ≤ c) : (∃ b ∈ Dm.UU L, 128 ≤ b.toNat) ∧ Dm.UU L ≠ [] := by
  obtain ⟨c, hc, h160⟩ := h
  have hl := Dm.u_len c
  cases hu : Dm.U c with
  | nil => rw [hu] at hl; simp at hl
  | cons b r =>
    have hb : b ∈ Dm.U c := by rw [hu]; simp
    have hm : b ∈ Dm.UU L := by unfold Dm.UU; exact List.mem_flatMap.2 ⟨c, hc, hb⟩
    exact ⟨⟨b, hm, Dm.encode_high c (by omega) b hb⟩, fun e => by rw [e] at hm; cases hm⟩
theorem written_f (L : List Int) (hg : ∀ c ∈ L, ChG c) (hh : ∃ c ∈ L, 160 ≤ c) (hl : L.length ≤ 1001) (hul : (Dm.UU L).length ≤ 1000000) (hpl : (Dm.punyText L).length ≤ 1000000) (hpn : Dm.punyText L ≠ []) (k : Nat) (hk : 6000000000 < k) : spec_IdWritten.f k (bs (Dm.UU L)) = some (bs (117 :: Dm.counted (Dm.punyText L))) := by
  obtain ⟨h1, h2⟩ := uu_high L hh
  unfold spec_IdWritten.f
  rw [if_neg (by rw [bs_tl]; exact h2)]
  refine bd_of (show spec_IdIsPlain.f k (bs (Dm.UU L)) = some false from ?_) ?_
  · unfold spec_IdIsPlain.f
    rw [bs_size]
    exact notplain_loop _ hul (Dm.UU L).length 0 k (by omega) (by omega) (by simpa using h1)
  · rw [if_neg (by decide)]
    refine bd_of (chars_f L (fun c hc => (hg c hc).1.1) hul) ?_
    refine bd_of (puny_print L (by omega) (fun c hc => (hg c hc).1.2.2) k hk) ?_
    refine bd_of (counted_f _ hpn hpl) ?_
    have hd := Dm.digits_len (Dm.punyText L).length
    have hs : (Dm.sep (Dm.punyText L)).length ≤ 1 := by
      cases Dm.punyText L with
      | nil => simp [Dm.sep]
      | cons c t => simp only [Dm.sep]; split <;> simp
    rw [if_pos (by rw [bs_size]; unfold Dm.counted; rw [List.length_append, List.length_append]; omega), show (⟨#[117]⟩ : ByteArray) = bs [117] from rfl, app]
    rfl
theorem pass_hits (now : Int) : ∀ (r : List Int) (many d bias : Int) (first : Bool), 0 ≤ d → d + r.length ≤ 9000000000 → ((Dm.pass now r many d bias first).1.length : Int) ≤ 11 * ((Dm.pass now r many d bias first).2.1 - many) := by
  intro r
  induction r with
  | nil => intro many d bias first _ _; simp [Dm.pass]
  | cons c r ih =>
    intro many d bias first h0 h1
    simp only [Dm.pass, List.length_cons] at h1 ⊢
    by_cases c1 : c < now
    · rw [if_pos c1]; exact ih many (d + 1) bias first (by omega) (by omega)
    · rw [if_neg c1]
      by_cases c2 : c = now
      · rw [if_pos c2]
        have a := ih (many + 1) 0 (Dm.adapted d (many + 1) first) false (by omega) (by omega)
        have b := Dm.encD_log 10 (d.toNat + 1) d 1 bias h0 (by rw [show (10 : Int) ^ 10 = 10000000000 from by decide]; omega)
        simp only [List.length_append]; omega
      · rw [if_neg c2]; exact ih many d bias first h0 (by omega)
theorem all_len (L : List Int) (hl : L.length ≤ 2100) (hL : ∀ c ∈ L, 0 ≤ c ∧ c ≤ 1114111) : ∀ (n : Nat) (now d bias : Int) (first : Bool), 128 ≤ now → 0 ≤ d → d ≤ L.length + 1 → 0 ≤ bias → bias ≤ 213 →
    ((Dm.encAll n L now ((L.filter (Dm.lt now)).length : Int) d bias first).length : Int) ≤ 11 * ((L.length : Int) - ((L.filter (Dm.lt now)).length : Int)) := by
  intro n
  induction n with
  | zero => intro now d bias first _ _ _ _ _; have := List.length_filter_le (Dm.lt now) L; simp [Dm.encAll]; omega
  | succ n ih =>
    intro now d bias first h128 d0 d1 b0 b1
    obtain ⟨s1, s2⟩ := Dm.nxt_spec L now (-1) (by omega) (.inl (by omega))
    have hfl := List.length_filter_le (Dm.lt now) L
    simp only [Dm.encAll]
    generalize Dm.nxt L now (-1) = nx at *
    by_cases hx : nx < 0
    · rw [if_pos hx]; simp; omega
    · rw [if_neg hx]
      obtain ⟨a1, a2, a3, _⟩ := s2 (by omega)
      have hmem : nx ∈ L := by rcases a2 with a2 | a2; omega; exact a2
      obtain ⟨r0, r1⟩ := hL nx hmem
      have hfn := Dm.filt_next L now nx a3 a1
      rw [← hfn] at hfl ⊢
      have hd2 : (nx - now) * (((L.filter (Dm.lt nx)).length : Int) + 1) ≤ 1114111 * 2101 := Int.mul_le_mul (by omega) (by omega) (by omega) (by omega)
      have hd3 : 0 ≤ (nx - now) * (((L.filter (Dm.lt nx)).length : Int) + 1) := Int.mul_nonneg (by omega) (by omega)
      generalize (nx - now) * (((L.filter (Dm.lt nx)).length : Int) + 1) = g at *
      obtain ⟨e, he⟩ : ∃ e, e = d + g := ⟨_, rfl⟩
      rw [← he]
      have hleft := Dm.pass_left nx r0 L [] e bias first (by omega) (by omega) b0 b1
      simp only [List.nil_append] at hleft
      have hpd := pass_d nx L ((L.filter (Dm.lt nx)).length : Int) e bias first (by omega)
      have hph := pass_hits nx L ((L.filter (Dm.lt nx)).length : Int) e bias first (by omega) (by omega)
      obtain ⟨l1, l2, l3, _, _⟩ := hleft
      generalize Dm.pass nx L ((L.filter (Dm.lt nx)).length : Int) e bias first = P at *
      have hp3 := hpd.2.2 hmem
      have := ih (nx + 1) (P.2.2.1 + 1) P.2.2.2.1 P.2.2.2.2
      rw [Dm.filt_succ, ← l1] at this
      have := this (by omega) (by omega) (by omega) l2 l3
      rw [List.length_append]; push_cast; omega
theorem puny_len (L : List Int) (hl : L.length ≤ 1001) (hL : ∀ c ∈ L, 0 ≤ c ∧ c ≤ 1114111) : (Dm.punyText L).length ≤ 20000 := by
  have h := all_len L (by omega) hL (L.length + 1) 128 0 72 true (by omega) (by omega) (by omega) (by omega) (by omega)
  have hfl := List.length_filter_le (Dm.lt 128) L
  unfold Dm.punyText
  rw [List.length_append]
  split
  · simp only [List.length_nil]; omega
  · rw [List.length_append, List.length_map]; simp only [List.length_singleton]; omega
theorem puny_ne (L : List Int) (hx : Dm.expand (Dm.punyText L) = some L) (hL : L ≠ []) : Dm.punyText L ≠ [] := by
  intro e
  rw [e] at hx
  have : Dm.expand [] = some [] := by decide +kernel
  rw [this] at hx
  injection hx with hx
  exact hL hx.symm
theorem mn_1000 (n : Nat) : 0 ≤ mn (n : Int) 1000 ∧ mn (n : Int) 1000 ≤ (n : Int) ∧ (mn (n : Int) 1000).toNat ≤ 1000 := by unfold mn; split <;> omega
theorem uu_len : ∀ L : List Int, (Dm.UU L).length ≤ 4 * L.length := by
  intro L
  induction L with
  | nil => simp [Dm.UU]
  | cons c L ih =>
    have := (Dm.u_len c).2
    show (Dm.U c ++ Dm.UU L).length ≤ _
    rw [List.length_append, List.length_cons]; omega
theorem l63_plain : ∀ c ∈ L63, Dm.isPlain c = true := by decide
theorem counted_len (t : List UInt8) : (Dm.counted t).length ≤ 2 * t.length + 2 := by
  have hd := Dm.digits_len t.length
  have hs : (Dm.sep t).length ≤ 1 := by
    cases t with
    | nil => simp [Dm.sep]
    | cons c t => simp only [Dm.sep]; split <;> simp
  unfold Dm.counted
  rw [List.length_append, List.length_append]; omega
/-! ### names of characters -/
/-- A name as these statements make it. -/
structure NOk (L : List Int) : Prop where
  ln : L.length ≤ 1001
  ch : ∀ c ∈ L, ChG c
  hi : ∃ c ∈ L, 160 ≤ c
theorem NOk.rg {L : List Int} (h : NOk L) : ∀ c ∈ L, 0 ≤ c ∧ c ≤ 1114111 := fun c hc => (h.ch c hc).1.2.2
theorem NOk.ul {L : List Int} (h : NOk L) : (Dm.UU L).length ≤ 4004 := by have := uu_len L; have := h.ln; omega
theorem NOk.ok {L : List Int} (h : NOk L) : UOk L := by
  have hx := Dm.expand_puny L ⟨h.rg, fun c hc _ => (h.ch c hc).1.2.1, h.ln⟩
  have hne : L ≠ [] := by rintro rfl; obtain ⟨c, hc, _⟩ := h.hi; cases hc
  have hu := h.ul
  refine ⟨hx, ?_, puny_ne L hx hne, puny_len L h.ln h.rg, by omega⟩
  exact Dm.puny_plain L (fun c hc h128 => by
    rcases (h.ch c hc).2 with ⟨b, hb, _, e⟩ | h
    · rw [e, Int.toNat_natCast, UInt8.ofNat_toNat]; exact l63_plain b hb
    · omega)
theorem NOk.wl {L : List Int} (h : NOk L) : (wU L).length ≤ 50000 := by
  have := counted_len (Dm.punyText L)
  have := h.ok.hl
  unfold wU
  rw [List.length_cons]; omega
theorem name_f (r : List Int) (k : Nat) (hk : 2000 < k) : ∃ L, spec_AnCharacters.f k (r.take (mn (r.length : Int) 1000).toNat) = some L ∧ spec_AnString.f k L = some (bs (Dm.UU L)) ∧ NOk L := by
  obtain ⟨m0, m1, m2⟩ := mn_1000 r.length
  obtain ⟨L, eL, hl, hg, hh⟩ := chars_an (r.take (mn (r.length : Int) 1000).toNat) (by rw [List.length_take]; omega) k (by omega)
  exact ⟨L, eL, string_f L (by omega) (fun c hc => (hg c hc).1.2.2) k (by omega), hl, hg, hh⟩
theorem ident_f (L : List Int) (h : NOk L) (k : Nat) (hk : 6000000000 < k) : spec_idIdentifier.f k (bs (Dm.UU L)) 0 = some (bs (wU L)) := by
  have hw := h.wl
  have hu := h.ul
  have ho := h.ok
  unfold spec_idIdentifier.f
  refine bd_of (a := bs []) ?_ (bd_of (written_f L h.ch h.hi h.ln (by omega) (by have := ho.hl; omega) ho.h0 k hk) ?_)
  · unfold spec_IdDisambiguator.f
    rw [if_pos rfl]; rfl
  · rw [if_pos (by rw [bs_size, bs_size]; have hw : (117 :: Dm.counted (Dm.punyText L)).length ≤ 50000 := hw; simp at hw ⊢; omega), app]; rfl
def toU (L : List Int) : S30 := ⟨118, bs (Dm.UU L), 0⟩
theorem rdU (all : List (List Int)) (i : Nat) (h : i < all.length) : rd_T30 (all.map toU) (i : Int) = toU all[i] := by
  unfold rd_T30
  rw [Int.toNat_natCast, List.getD_eq_getElem?_getD, List.getElem?_map, List.getElem?_eq_getElem h]; rfl
theorem rdL (rows : List (List Int)) (i : Nat) (h : i < rows.length) : rd_L1 rows (i : Int) = rows[i] := by
  unfold rd_L1
  rw [Int.toNat_natCast, List.getD_eq_getElem?_getD, List.getElem?_eq_getElem h]; rfl
theorem rev_take {α : Type} {l : List α} {i : Nat} (h : i < l.length) : (l.take (i + 1)).reverse = l[i] :: (l.take i).reverse := by
  rw [List.take_succ_eq_append_getElem h, List.reverse_append]; rfl
theorem symU_max (C : List Int) (hC : NOk C) : ∀ Ls : List (List Int), (∀ L ∈ Ls, NOk L) → (symU C Ls).length ≤ 50001 + Ls.length * 50002 := by
  intro Ls
  induction Ls with
  | nil => intro _; have := hC.wl; simp only [symU, List.length_cons, List.length_nil]; omega
  | cons L Ls ih =>
    intro h
    have h1 := ih fun x hx => h x (by simp [hx])
    have h2 := (h L (by simp)).wl
    simp only [symU, List.length_cons, List.length_append]
    omega
theorem textU_max (C : List Int) (hC : NOk C) : ∀ Ls : List (List Int), (∀ L ∈ Ls, NOk L) → (textU C Ls).length ≤ 4004 + Ls.length * 4006 := by
  intro Ls
  induction Ls with
  | nil => intro _; have := hC.ul; simp only [textU, List.length_nil]; omega
  | cons L Ls ih =>
    intro h
    have h1 := ih fun x hx => h x (by simp [hx])
    have h2 := (h L (by simp)).ul
    simp only [textU, List.length_cons, List.length_append, List.length_nil]
    omega
theorem enc118 : Utf8.encode (wrap32 118) = bs [118] := by decide +kernel
theorem in_take {α : Type} {P : α → Prop} {l : List α} (i : Nat) (h : ∀ x ∈ l, P x) : ∀ x ∈ (l.take i).reverse, P x := fun x hx => h x (List.mem_of_mem_take (List.mem_reverse.1 hx))
theorem symbol_loop (C : List Int) (hC : NOk C) (all : List (List Int)) (hg : ∀ L ∈ all, NOk L) (hm : all.length ≤ 100) :
    ∀ (d i k : Nat), i + d = all.length → d + 6000000000 < k →
      spec_IdSymbol.l0 k (all.map toU) (bs (symU C (all.take i).reverse)) (all.map toU) (all.length : Int) (i : Int) = some (bs (symU C all.reverse)) := by
  have hT : ∀ i, (symU C (all.take i).reverse).length ≤ 10000000 := by
    intro i
    have := symU_max C hC (all.take i).reverse (in_take i hg)
    rw [List.length_reverse, List.length_take] at this
    omega
  intro d
  induction d with
  | zero =>
    intro i k hi hk
    obtain ⟨k, rfl⟩ : ∃ m, k = m + 1 := ⟨k - 1, by omega⟩
    simp only [spec_IdSymbol.l0]
    rw [if_neg (by omega), List.take_of_length_le (by omega)]
  | succ d ih =>
    intro i k hi hk
    obtain ⟨k, rfl⟩ : ∃ m, k = m + 1 := ⟨k - 1, by omega⟩
    have hlt : i < all.length := by omega
    have := ih (i + 1) k (by omega) (by omega)
    rw [rev_take hlt] at this
    simp only [spec_IdSymbol.l0]
    rw [if_pos (by omega), if_pos (by omega), if_pos (by rw [List.length_map]; omega), rdU all i hlt, wrap_id (x := (i : Int) + 1) (by omega) (by omega)]
    have hp := hg all[i] (List.getElem_mem hlt)
    have hti := hT i
    generalize all[i] = L at hp this ⊢
    have hw := hp.wl
    refine bd_of (ident_f L hp k (by omega)) ?_
    simp only [show (toU L).f0 = 118 from rfl, show (toU L).f1 = bs (Dm.UU L) from rfl]
    rw [if_neg (by rw [bs_tl]; exact (uu_high L hp.hi).2), enc118, show (⟨#[78]⟩ : ByteArray) = bs [78] from rfl, app [78] [118], if_pos (by rw [bs_size]; simp), if_pos (by rw [bs_size, bs_size]; simp; omega), app, if_pos (by rw [bs_size, bs_size, List.length_append]; simp; omega), app]
    rw [show ((i : Int) + 1) = ((i + 1 : Nat) : Int) by omega, ← this]
    simp [symU]
theorem symbol_f (C : List Int) (hC : NOk C) (all : List (List Int)) (hg : ∀ L ∈ all, NOk L) (hm : all.length ≤ 100) (k : Nat) (hk : 6000001000 < k) :
    spec_IdSymbol.f k (bs (Dm.UU C)) 0 (all.map toU) = some (bs (symU C all.reverse)) := by
  have hw := hC.wl
  unfold spec_IdSymbol.f
  refine bd_of (ident_f C hC k (by omega)) ?_
  rw [if_pos (by rw [bs_size]; omega), show (⟨#[67]⟩ : ByteArray) = bs [67] from rfl, app, List.length_map]
  exact symbol_loop C hC all hg hm all.length 0 k (by omega) (by omega)
theorem text_loop (C : List Int) (hC : NOk C) (all : List (List Int)) (hg : ∀ L ∈ all, NOk L) (hm : all.length ≤ 100) :
    ∀ (d i k : Nat), i + d = all.length → d < k →
      spec_IdText.l0 k (bs (textU C (all.take i).reverse)) (all.map toU) (all.length : Int) (i : Int) = some (bs (textU C all.reverse)) := by
  have hT : ∀ i, (textU C (all.take i).reverse).length ≤ 1000000 := by
    intro i
    have := textU_max C hC (all.take i).reverse (in_take i hg)
    rw [List.length_reverse, List.length_take] at this
    omega
  intro d
  induction d with
  | zero =>
    intro i k hi hk
    obtain ⟨k, rfl⟩ : ∃ m, k = m + 1 := ⟨k - 1, by omega⟩
    simp only [spec_IdText.l0]
    rw [if_neg (by omega), List.take_of_length_le (by omega)]
  | succ d ih =>
    intro i k hi hk
    obtain ⟨k, rfl⟩ : ∃ m, k = m + 1 := ⟨k - 1, by omega⟩
    have hlt : i < all.length := by omega
    have := ih (i + 1) k (by omega) (by omega)
    rw [rev_take hlt] at this
    simp only [textU] at this
    simp only [spec_IdText.l0]
    rw [if_pos (by omega), if_pos (by omega), if_pos (by rw [List.length_map]; omega), rdU all i hlt, wrap_id (x := (i : Int) + 1) (by omega) (by omega)]
    have hp := hg all[i] (List.getElem_mem hlt)
    have hti := hT i
    generalize all[i] = L at hp this ⊢
    have hu := hp.ul
    simp only [show (toU L).f0 = 118 from rfl, show (toU L).f1 = bs (Dm.UU L) from rfl]
    rw [if_pos (by omega), if_pos (by rw [bs_size]; omega), show (⟨#[58, 58]⟩ : ByteArray) = bs [58, 58] from rfl, app, if_pos (by rw [bs_size, bs_size]; simp; omega), app]
    exact this
theorem text_f (C : List Int) (hC : NOk C) (all : List (List Int)) (hg : ∀ L ∈ all, NOk L) (hm : all.length ≤ 100) (k : Nat) (hk : 1000 < k) :
    spec_IdText.f k (bs (Dm.UU C)) (all.map toU) = some (bs (textU C all.reverse)) := by
  unfold spec_IdText.f
  rw [List.length_map]
  exact text_loop C hC all hg hm all.length 0 k (by omega) (by omega)
theorem cut0 (t : List UInt8) : cutMx (mxOf 0) t = t := by
  unfold cutMx mxOf
  rw [if_neg (by rw [if_pos rfl]; omega)]
theorem told_u (C : List Int) (hC : NOk C) (Ls : List (List Int)) (hg : ∀ L ∈ Ls, NOk L) (hm : Ls.length ≤ 100) :
    impl_ToldU.f (bs (95 :: 82 :: symU C Ls)) false false false false false false false 0 = some (bs (textU C Ls), 0) := by
  have h1 := symU_max C hC Ls hg
  have h3 := textU_max C hC Ls hg
  unfold impl_ToldU.f impl_Told.f
  rw [if_pos ⟨by rw [bs_size]; simp only [List.length_cons]; omega, by omega⟩, bs_dl]
  obtain ⟨s, e, hc⟩ := told_readU C hC.ok false false (mxOf 0) Ls (fun L h => (hg L h).ok) (by omega)
  show ansOf _ = _
  rw [e]
  simp only [ansOf, hc, cut0]
theorem fits_loop (rows : List (List Int)) (hm : rows.length ≤ 2147483647) : ∀ (d i k : Nat), i + d = rows.length → d < k →
    ∃ b, laws_zzFits3.l0 k rows (rows.length : Int) (i : Int) = some b := by
  intro d
  induction d with
  | zero =>
    intro i k hi hk
    obtain ⟨k, rfl⟩ : ∃ m, k = m + 1 := ⟨k - 1, by omega⟩
    simp only [laws_zzFits3.l0]
    rw [if_neg (by omega)]; exact ⟨_, rfl⟩
  | succ d ih =>
    intro i k hi hk
    obtain ⟨k, rfl⟩ : ∃ m, k = m + 1 := ⟨k - 1, by omega⟩
    simp only [laws_zzFits3.l0]
    rw [if_pos (by omega), if_pos (by omega), if_pos (by omega), wrap_id (x := (i : Int) + 1) (by omega) (by omega)]
    split
    · exact ⟨_, rfl⟩
    · exact ih (i + 1) k (by omega) (by omega)
theorem fits_f (rows : List (List Int)) (k : Nat) (hk : rows.length < k) : ∃ b, laws_zzFits3.f k rows = some b ∧ (b = true → rows.length ≤ 2147483647) := by
  unfold laws_zzFits3.f
  by_cases h : (rows.length : Int) > 2147483647
  · rw [if_pos h]; exact ⟨false, rfl, fun h => by cases h⟩
  · rw [if_neg h]
    obtain ⟨b, hb⟩ := fits_loop rows (by omega) rows.length 0 k (by omega) hk
    exact ⟨b, hb, fun _ => by omega⟩
theorem names_loop (C : List Int) (hC : NOk C) (rows : List (List Int)) (hm : rows.length ≤ 2147483647) :
    ∀ (d i k : Nat) (ps : List (List Int)), i + d = rows.length → d + 6000002000 < k → ps.length ≤ i → ps.length ≤ 100 → (∀ L ∈ ps, NOk L) →
      laws_FnUnicodeNames.l0 k (bs (Dm.UU C)) (ps.map toU) rows (rows.length : Int) (i : Int) = some true := by
  intro d
  induction d with
  | zero =>
    intro i k ps hi hk h1 h2 hg
    obtain ⟨k, rfl⟩ : ∃ m, k = m + 1 := ⟨k - 1, by omega⟩
    have hrev : ∀ L ∈ ps.reverse, NOk L := fun L h => hg L (List.mem_reverse.1 h)
    have hs := symU_max C hC ps.reverse hrev
    rw [List.length_reverse] at hs
    simp only [laws_FnUnicodeNames.l0]
    rw [if_neg (by omega)]
    refine bd_of (symbol_f C hC ps hg h2 k (by omega)) ?_
    rw [if_pos (by rw [bs_size]; omega)]
    refine bd_of (text_f C hC ps hg h2 k (by omega)) ?_
    refine bd_of (a := true) ?_ rfl
    unfold laws_idTold.f
    rw [show (⟨#[95, 82]⟩ : ByteArray) = bs [95, 82] from rfl, app]
    refine bd_of (told_u C hC ps.reverse hrev (by rw [List.length_reverse]; exact h2)) ?_
    simp
  | succ d ih =>
    intro i k ps hi hk h1 h2 hg
    obtain ⟨k, rfl⟩ : ∃ m, k = m + 1 := ⟨k - 1, by omega⟩
    have hlt : i < rows.length := by omega
    simp only [laws_FnUnicodeNames.l0]
    rw [if_pos (by omega), if_pos (by omega), if_pos (by omega), rdL rows i hlt, wrap_id (x := (i : Int) + 1) (by omega) (by omega), show (i : Int) + 1 = ((i + 1 : Nat) : Int) by omega]
    by_cases h100 : (i : Int) < 100
    · obtain ⟨L, e1, e2, hL⟩ := name_f rows[i] k (by omega)
      obtain ⟨m0, m1, _⟩ := mn_1000 rows[i].length
      rw [if_pos h100, if_pos m0, if_pos m1]
      refine bd_of e1 (bd_of e2 ?_)
      rw [if_pos (by rw [List.length_map]; omega)]
      have := ih (i + 1) k (ps ++ [L]) (by omega) (by omega) (by rw [List.length_append]; simp; omega) (by rw [List.length_append]; simp; omega) (by
        intro p hp
        rcases List.mem_append.1 hp with hp | hp
        · exact hg p hp
        · rw [List.mem_singleton] at hp; subst hp; exact hL)
      rw [List.map_append] at this
      exact this
    · rw [if_neg h100]
      exact ih (i + 1) k ps (by omega) (by omega) (by omega) h2 hg
theorem FnUnicodeNames : laws_FnUnicodeNames.Pure := by
  intro l0 l1 hm0 _ hw0 hm1 hw1
  obtain ⟨K, hK⟩ : ∃ K : Nat, 6000002000 + l1.length < K := ⟨_, Nat.lt_succ_self _⟩
  have hbad : laws_FnUnicodeNames.j0 (K + 1) l0 l1 true = some true := by simp only [laws_FnUnicodeNames.j0, if_true]
  refine ⟨K + 1, ?_⟩
  unfold laws_FnUnicodeNames.f
  by_cases hz : (l0.length : Int) > 2147483647
  · rw [if_pos hz]; exact hbad
  · rw [if_neg hz]
    obtain ⟨b, hb, hb2⟩ := fits_f l1 (K + 1) (by omega)
    refine bd_of hb ?_
    cases b with
    | false => exact hbad
    | true =>
      have hl1 := hb2 rfl
      obtain ⟨L, e1, e2, hL⟩ := name_f l0 K (by omega)
      obtain ⟨m0, m1, _⟩ := mn_1000 l0.length
      simp only [laws_FnUnicodeNames.j0]
      rw [if_neg (by decide), if_pos m0, if_pos m1]
      refine bd_of e1 (bd_of e2 ?_)
      exact names_loop L hL l1 hl1 l1.length 0 K [] (by omega) (by omega) (by simp) (by simp) (by simp)
end Go.Proofs.YtkhbmkccbhkolaaGreatDoor.Pure
