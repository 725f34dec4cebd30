/- FnIdentifierRead, of numbers and lists alone: a plain name that is written is read. -/
import Derived.Test.YtfblehpiecialaaDoorPFnIdentifierReadx1
import Derived.Test.YtfblehpiecialaaDoorPl
import Derived.Test.YtfblehpiecialaaDoorRd
import Derived.Test.YtfblehpiecialaaDoorWMore
import Derived.Laws.Bits64
namespace Go.Proofs.YtfblehpiecialaaDoor.Pure
set_option linter.unusedVariables false
set_option linter.unusedSimpArgs false
open Go.RowKit Go.Proofs.YtfblehpiecialaaDoor.PFnIdentifierRead Go.Proofs.YtfblehpiecialaaDoorW.PrintWords Go.Proofs.YtfblehpiecialaaDoorW.PrintLast

theorem getD_mem' {l : List UInt8} {k : Nat} (h : k < l.length) : l.getD k 0 ∈ l := by
  rw [List.getD_eq_getElem?_getD, List.getElem?_eq_getElem h]; exact List.getElem_mem h
theorem app (l m : List UInt8) : bs l ++ bs m = bs (l ++ m) := by
  apply ByteArray.ext
  simp [bs, ByteArray.data_append]
theorem bind_of {α β : Type} {x : Option α} {a : α} {f : α → Option β} {r : Option β} (h : x = some a) (h2 : f a = r) : x.bind f = r := by subst h; exact h2
theorem u8_range {l : List Int} (h : ∀ x ∈ l, (Lit.int .u8 x).wf = true) (i : Nat) : 0 ≤ rd l (i : Int) ∧ rd l (i : Int) ≤ 255 := by
  unfold rd
  rw [Int.toNat_natCast, List.getD_eq_getElem?_getD]
  cases hi : l[i]? with
  | none => simp
  | some x =>
    have := h x (List.mem_of_getElem? hi)
    simp [Lit.wf, IntKind.min, IntKind.max, IntKind.bits, IntKind.signed] at this
    simp; omega
theorem strOf_list (a : List UInt8) : strOfNums (a.map (fun c => (c.toNat : Int))) = bs a := by
  unfold strOfNums bs
  congr 2
  rw [List.map_map, show ((fun n : Int => UInt8.ofNat n.toNat) ∘ fun c : UInt8 => (c.toNat : Int)) = id from by funext c; simp]
  simp
def L63 : List UInt8 := [97, 98, 99, 100, 101, 102, 103, 104, 105, 106, 107, 108, 109, 110, 111, 112, 113, 114, 115, 116, 117, 118, 119, 120, 121, 122, 65, 66, 67, 68, 69, 70, 71, 72, 73, 74, 75, 76, 77, 78, 79, 80, 81, 82, 83, 84, 85, 86, 87, 88, 89, 90, 48, 49, 50, 51, 52, 53, 54, 55, 56, 57, 95]
theorem l63_at (q : Int) (h0 : 0 ≤ q) (h1 : q < 63) : bt (⟨#[97, 98, 99, 100, 101, 102, 103, 104, 105, 106, 107, 108, 109, 110, 111, 112, 113, 114, 115, 116, 117, 118, 119, 120, 121, 122, 65, 66, 67, 68, 69, 70, 71, 72, 73, 74, 75, 76, 77, 78, 79, 80, 81, 82, 83, 84, 85, 86, 87, 88, 89, 90, 48, 49, 50, 51, 52, 53, 54, 55, 56, 57, 95]⟩ : ByteArray) q = ((L63.getD q.toNat 0).toNat : Int) := by
  have hq : q.toNat < L63.length := by show q.toNat < 63; omega
  have := bt_bs L63 q.toNat hq
  rw [Int.toNat_of_nonneg h0] at this
  refine (show bt (bs L63) q = _ from this).trans ?_
  rw [List.getD_eq_getElem?_getD, List.getElem?_eq_getElem hq]; rfl
theorem l63_plain : ∀ c ∈ L63, Dm.isPlain c = true := by decide
theorem plain_loop (xs : List Int) (hx : ∀ x ∈ xs, (Lit.int .u8 x).wf = true) (hm : xs.length ≤ 1000) :
    ∀ (d i : Nat) (p : List UInt8) (k : Nat), i + d = xs.length → d < k → p.length = i → (∀ c ∈ p, Dm.isPlain c = true) →
      ∃ a : List UInt8, spec_AnPlain.l0 k (p.map (fun c => (c.toNat : Int)) ++ List.replicate d 0) xs (xs.length : Int) (i : Int) = some (bs a) ∧ a.length = xs.length ∧ ∀ c ∈ a, Dm.isPlain c = true := by
  intro d
  induction d with
  | zero =>
    intro i p k hi hk hp hl
    obtain ⟨k, rfl⟩ : ∃ m, k = m + 1 := ⟨k - 1, by omega⟩
    simp only [spec_AnPlain.l0]
    rw [if_neg (by omega)]
    refine ⟨p, ?_, by omega, hl⟩
    rw [List.replicate_zero, List.append_nil, strOf_list]
  | succ d ih =>
    intro i p k hi hk hp hl
    obtain ⟨k, rfl⟩ : ∃ m, k = m + 1 := ⟨k - 1, by omega⟩
    obtain ⟨r0, r1⟩ := u8_range hx i
    simp only [spec_AnPlain.l0]
    rw [wrap_id (x := rd xs (i : Int)) (by omega) (by omega)]
    have hm0 : 0 ≤ Int.tmod (rd xs (i : Int)) 63 := Int.tmod_nonneg _ r0
    have hm1 : Int.tmod (rd xs (i : Int)) 63 < 63 := Int.tmod_lt_of_pos _ (by omega)
    generalize Int.tmod (rd xs (i : Int)) 63 = q at hm0 hm1 ⊢
    rw [if_pos (by omega), if_pos (by omega), if_pos (by omega), if_pos hm0, if_pos hm1, if_pos (by simp; omega), wrap_id (x := (i : Int) + 1) (by omega) (by omega), l63_at q hm0 hm1]
    have hc := l63_plain _ (getD_mem' (show q.toNat < L63.length by show q.toNat < 63; omega))
    generalize L63.getD q.toNat 0 = c at hc
    have hset : (p.map (fun c : UInt8 => (c.toNat : Int)) ++ List.replicate (d + 1) 0).set ((i : Int)).toNat (c.toNat : Int) = (p ++ [c]).map (fun c : UInt8 => (c.toNat : Int)) ++ List.replicate d 0 := by
      rw [Int.toNat_natCast, List.set_append_right _ _ (by rw [List.length_map]; omega)]
      simp [hp, List.replicate_succ]
    rw [hset]
    obtain ⟨a, e, hl1, hl2⟩ := ih (i + 1) (p ++ [c]) k (by omega) (by omega) (by simp; omega) (by
      intro x hx2
      rcases List.mem_append.1 hx2 with hx2 | hx2
      · exact hl x hx2
      · obtain rfl := List.mem_singleton.1 hx2; exact hc)
    exact ⟨a, e, hl1, hl2⟩

theorem plain_f (xs : List Int) (hx : ∀ x ∈ xs, (Lit.int .u8 x).wf = true) (hm : xs.length ≤ 1000) (k : Nat) (hk : 1000 < k) :
    ∃ a : List UInt8, spec_AnPlain.f k xs = some (bs a) ∧ a ≠ [] ∧ a.length ≤ 1000 ∧ a.all Dm.isPlain = true := by
  unfold spec_AnPlain.f
  by_cases h0 : (xs.length : Int) = 0
  · rw [if_pos h0]; exact ⟨[97], rfl, by simp, by simp, by decide⟩
  · rw [if_neg h0, if_pos (by omega), if_pos (by omega)]
    obtain ⟨a, e, h1, h2⟩ := plain_loop xs hx hm xs.length 0 [] k (by omega) (by omega) rfl (by simp)
    refine ⟨a, by simpa using e, ?_, by omega, List.all_eq_true.2 h2⟩
    rintro rfl; simp at h1; omega
theorem idAt_n (a n : Int) (h0 : 0 < n) (h1 : n ≤ 4611686018427387904) : ∃ q : Nat, laws_idAt.f a n = some (q : Int) ∧ (q : Int) < n := by
  unfold laws_idAt.f
  rw [if_neg (by omega)]
  have m0 := Int.tmod_lt_of_pos a h0
  have m1 := Int.lt_tmod_of_pos a h0
  rw [wrap_id (x := Int.tmod a n + n) (by omega) (by omega)]
  have q0 : 0 ≤ Int.tmod (Int.tmod a n + n) n := Int.tmod_nonneg _ (by omega)
  have q1 : Int.tmod (Int.tmod a n + n) n < n := Int.tmod_lt_of_pos _ h0
  obtain ⟨q, hq⟩ := Int.eq_ofNat_of_zero_le q0
  exact ⟨q, by rw [hq], by omega⟩
theorem tmod_nat (m d : Nat) : Int.tmod (m : Int) (d : Int) = ((m % d : Nat) : Int) := rfl
theorem tdiv_nat (m d : Nat) : Int.tdiv (m : Int) (d : Int) = ((m / d : Nat) : Int) := rfl
theorem uwrap {x : Int} (h0 : 0 ≤ x) (h1 : x < 18446744073709551616) : IntKind.u64.wrap x = x := by rw [IntKind.wrap_u64]; omega
theorem piece62 (d : Nat) (h : d < 62) : (⟨#[48, 49, 50, 51, 52, 53, 54, 55, 56, 57, 97, 98, 99, 100, 101, 102, 103, 104, 105, 106, 107, 108, 109, 110, 111, 112, 113, 114, 115, 116, 117, 118, 119, 120, 121, 122, 65, 66, 67, 68, 69, 70, 71, 72, 73, 74, 75, 76, 77, 78, 79, 80, 81, 82, 83, 84, 85, 86, 87, 88, 89, 90]⟩ : ByteArray).extract d (d + 1) = bs [Dm.dig1 d] := by
  have hp : ∀ d : Fin 62, (Dm.D62.drop d.val).take 1 = [Dm.D62.getD d.val 0] := by decide +kernel
  show (bs Dm.D62).extract _ _ = _
  apply ByteArray.ext
  have := hp ⟨d, h⟩
  simp only at this
  simp [bs, ByteArray.data_extract]
  rw [this]
  rfl
theorem base62_loop (m : Nat) : ∀ (k : Nat) (t : List UInt8), m < k → m < 4611686018427387904 → t.length + m ≤ 4611686018427387904 →
    spec_IdBase62.l0 k (m : Int) (bs t) = some (bs ((if m = 0 then [] else Dm.digs62 m) ++ t)) := by
  induction m using Nat.strongRecOn with
  | _ m ih =>
    intro k t hk hm ht
    obtain ⟨k, rfl⟩ : ∃ j, k = j + 1 := ⟨k - 1, by omega⟩
    simp only [spec_IdBase62.l0]
    by_cases h0 : m = 0
    · rw [if_neg (by omega), if_pos h0]; rfl
    · have e1 : Int.tmod (m : Int) 62 = ((m % 62 : Nat) : Int) := tmod_nat m 62
      have e2 : Int.tdiv (m : Int) 62 = ((m / 62 : Nat) : Int) := tdiv_nat m 62
      rw [if_pos (by omega), e1, e2, uwrap (x := ((m % 62 : Nat) : Int) + 1) (by omega) (by omega), uwrap (x := ((m / 62 : Nat) : Int)) (by omega) (by omega), if_pos (by omega), if_pos (by omega), if_pos (by omega)]
      rw [show (((m % 62 : Nat) : Int)).toNat = m % 62 from Int.toNat_natCast _, show (((m % 62 : Nat) : Int) + 1).toNat = m % 62 + 1 by omega, piece62 (m % 62) (by omega)]
      rw [if_pos (by rw [bs_size, bs_size, List.length_singleton]; omega), app, ih (m / 62) (by omega) k _ (by omega) (by omega) (by rw [List.length_append, List.length_singleton]; omega)]
      rw [if_neg h0, Dm.digs62.eq_1 m]
      by_cases h62 : m < 62
      · rw [dif_pos h62, if_pos (by omega), Nat.mod_eq_of_lt h62]; rfl
      · rw [dif_neg h62, if_neg (by omega)]; simp
theorem base62_f (n k : Nat) (hk : n < k) (hn : n ≤ 4611686018427387903) : spec_IdBase62.f k (n : Int) = some (bs (Dm.b62W n)) := by
  unfold spec_IdBase62.f Dm.b62W
  by_cases h0 : n = 0
  · rw [if_neg (by omega), if_pos h0]; rfl
  · obtain ⟨m, rfl⟩ : ∃ m, n = m + 1 := ⟨n - 1, by omega⟩
    have e0 : ((m + 1 : Nat) : Int) - 1 = (m : Int) := by omega
    have e1 : Int.tmod (m : Int) 62 = ((m % 62 : Nat) : Int) := tmod_nat m 62
    have e2 : Int.tdiv (m : Int) 62 = ((m / 62 : Nat) : Int) := tdiv_nat m 62
    rw [if_pos (by omega), e0, uwrap (x := (m : Int)) (by omega) (by omega), e1, e2, uwrap (x := ((m % 62 : Nat) : Int) + 1) (by omega) (by omega), uwrap (x := ((m / 62 : Nat) : Int)) (by omega) (by omega), if_pos (by omega), if_pos (by omega), if_pos (by omega)]
    rw [show (((m % 62 : Nat) : Int)).toNat = m % 62 from Int.toNat_natCast _, show (((m % 62 : Nat) : Int) + 1).toNat = m % 62 + 1 by omega, piece62 (m % 62) (by omega)]
    rw [show (⟨#[95]⟩ : ByteArray) = bs [95] from rfl, if_pos (by rw [bs_size, List.length_singleton]; omega), app, base62_loop (m / 62) k _ (by omega) (by omega) (by simp; omega)]
    rw [if_neg h0, Nat.add_sub_cancel, Dm.digs62.eq_1 m]
    by_cases h62 : m < 62
    · rw [dif_pos h62, if_pos (by omega), Nat.mod_eq_of_lt h62]; rfl
    · rw [dif_neg h62, if_neg (by omega)]; simp
theorem b62W_len (n : Nat) : (Dm.b62W n).length ≤ n + 1 := by
  unfold Dm.b62W
  split
  · simp
  · rw [List.length_append, List.length_singleton]; have := Dm.digs62_len (n - 1); omega
theorem dis_f (n k : Nat) (hk : n < k) (hn : n ≤ 4611686018427387903) : spec_IdDisambiguator.f k (n : Int) = some (bs (Dm.disW n)) := by
  unfold spec_IdDisambiguator.f Dm.disW
  by_cases h0 : n = 0
  · rw [if_pos (by omega), if_pos h0]; rfl
  · have e0 : IntKind.u64.wrap ((n : Int) - 1) = ((n - 1 : Nat) : Int) := by rw [uwrap (by omega) (by omega)]; omega
    rw [if_neg (by omega), if_neg h0, e0, base62_f (n - 1) k (by omega) (by omega)]
    have := b62W_len (n - 1)
    refine bind_of rfl ?_
    rw [if_pos (by rw [bs_size]; omega), show (⟨#[115]⟩ : ByteArray) = bs [115] from rfl, app]
    rfl

theorem written_len (t : List UInt8) (h : t.length ≤ 1000) : (Dm.written t).length ≤ 3000 := by
  unfold Dm.written Dm.counted
  have := Dm.digits_len t.length
  have hs : (Dm.sep t).length ≤ 1 := by
    cases t with
    | nil => simp [Dm.sep]
    | cons c t => simp only [Dm.sep]; split <;> simp
  split
  · simp
  · rw [List.length_append, List.length_append]; omega
theorem written_f (t : List UInt8) (h : t.length ≤ 1000) (hp : t.all Dm.isPlain = true) : spec_IdWritten.f (bs t) = some (bs (Dm.written t)) := by
  unfold spec_IdWritten.f
  rw [bs_size, bs_dl, if_pos ⟨by omega, hp⟩]
theorem nums_str (xs : List Int) : ∃ t : List UInt8, strOfNums xs = bs t ∧ t.length = xs.length := by
  obtain ⟨t, hs, hz⟩ := bs_of (strOfNums xs)
  exact ⟨t, hs, by rw [hz, strOfNums_size]⟩
theorem door_read (q : Nat) (t r : List UInt8) (h0 : t ≠ []) (hp : t.all Dm.isPlain = true) (hl : t.length ≤ 1000) (hq : q ≤ 1099511627776) (hr : r.length ≤ 2147483647) :
    laws_doorIdentifier.f ((bs (Dm.disW q) ++ bs (Dm.written t)) ++ bs r) (q : Int) (bs t) (bs r) = some true := by
  have h1 : (Dm.disW q).length ≤ q + 2 := by
    unfold Dm.disW; split
    · simp
    · rw [List.length_cons]; have := b62W_len (q - 1); omega
  have h2 := written_len t hl
  unfold laws_doorIdentifier.f impl_Identifier.f
  rw [app, app, bs_size, bs_dl, List.append_assoc, if_pos (by simp only [List.length_append]; omega), Dm.ident_written q (by omega) t r h0 hp (by omega)]
  simp

theorem ident_body (xs : List Int) (hx : ∀ x ∈ xs, (Lit.int .u8 x).wf = true) (hm : xs.length ≤ 1000) (a : Int) (r : List Int) (hr : r.length ≤ 2147483647) (k : Nat) (hk : 2199023255552 < k) :
    ((laws_idAt.f a 1099511627776).bind fun t114 => ((spec_AnPlain.f k xs).bind fun t116 => ((spec_IdDisambiguator.f k (IntKind.u64.wrap (t114))).bind fun t117 => ((spec_IdWritten.f t116).bind fun t118 => (if t117.size + t118.size ≤ 9223372036854775807 then (if (t117 ++ t118).size + (strOfNums r).size ≤ 9223372036854775807 then ((laws_doorIdentifier.f ((t117 ++ t118) ++ (strOfNums r)) t114 t116 (strOfNums r)).bind fun t119 => (some t119)) else (none)) else (none)))))) = some true := by
  obtain ⟨q, hq, hq1⟩ := idAt_n a 1099511627776 (by omega) (by omega)
  obtain ⟨t, et, h0, hl, hp⟩ := plain_f xs hx hm k (by omega)
  obtain ⟨u, eu, hu⟩ := nums_str r
  have h1 : (Dm.disW q).length ≤ q + 2 := by
    unfold Dm.disW; split
    · simp
    · rw [List.length_cons]; have := b62W_len (q - 1); omega
  have h2 := written_len t hl
  refine bind_of hq ?_
  refine bind_of et ?_
  rw [uwrap (by omega) (by omega)]
  refine bind_of (dis_f q k (by omega) (by omega)) ?_
  refine bind_of (written_f t hl hp) ?_
  rw [if_pos (by rw [bs_size, bs_size]; omega), eu, if_pos (by rw [app, bs_size, bs_size, List.length_append]; omega)]
  exact bind_of (door_read q t u h0 hp hl (by omega) (by omega)) rfl

theorem FnIdentifierRead : laws_FnIdentifierRead.Pure := by
  intro l0 a1 l2 hm0 _ hw0 hw1 hm2 _ hw2
  obtain ⟨K, hK⟩ : ∃ K : Nat, 2199023255552 < K := ⟨_, Nat.lt_succ_self _⟩
  refine ⟨K + 1, ?_⟩
  unfold laws_FnIdentifierRead.f
  simp only [laws_FnIdentifierRead.j0]
  by_cases hz : (l0.length : Int) > 2147483647
  · rw [if_pos hz]; rfl
  · rw [if_neg hz]
    by_cases hz2 : (l2.length : Int) > 2147483647
    · rw [if_pos (by simpa using hz2)]
    · rw [if_neg (by simpa using hz2)]
      have hmn : 0 ≤ mn (l0.length : Int) 1000 ∧ mn (l0.length : Int) 1000 ≤ (l0.length : Int) ∧ mn (l0.length : Int) 1000 ≤ 1000 := by unfold mn; split <;> omega
      simp only [if_pos hmn.1, if_pos hmn.2.1]
      exact ident_body (l0.take (mn (l0.length : Int) 1000).toNat) (fun x h => hw0 x (List.mem_of_mem_take h)) (by rw [List.length_take]; omega) a1 l2 (by omega) K hK
end Go.Proofs.YtfblehpiecialaaDoor.Pure
