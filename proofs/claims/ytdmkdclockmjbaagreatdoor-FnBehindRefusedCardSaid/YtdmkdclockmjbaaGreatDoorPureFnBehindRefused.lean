/- FnBehindRefused, of numbers and lists alone: a path with small letters or digits behind it is refused. -/
import Derived.Test.YtdmkdclockmjbaaGreatDoorPFnBehindRefusedx2
import Derived.Test.YtdmkdclockmjbaaGreatDoorM6
import Derived.Test.YtdmkdclockmjbaaGreatDoorM4
import Derived.Test.YtdmkdclockmjbaaGreatDoorM5
import Derived.Test.YtdmkdclockmjbaaGreatDoorWMore
import Derived.Laws.Bits64
namespace Go.Proofs.YtdmkdclockmjbaaGreatDoor.Pure
set_option linter.unusedVariables false
set_option linter.unusedSimpArgs false
open Go.RowKit Go.Proofs.YtdmkdclockmjbaaGreatDoor.PFnBehindRefused Go.Proofs.YtdmkdclockmjbaaGreatDoorW.PrintWords Go.Proofs.YtdmkdclockmjbaaGreatDoorW.PrintLast

theorem getD_mem' {l : List UInt8} {k : Nat} (h : k < l.length) : l.getD k 0 ∈ l := by
  rw [List.getD_eq_getElem?_getD, List.getElem?_eq_getElem h]; exact List.getElem_mem h
theorem app (l m : List UInt8) : bs l ++ bs m = bs (l ++ m) := by
  apply ByteArray.ext
  simp [bs, ByteArray.data_append]
theorem bind_of {α β : Type} {x : Option α} {a : α} {f : α → Option β} {r : Option β} (h : x = some a) (h2 : f a = r) : x.bind f = r := by subst h; exact h2
theorem u8_range {l : List Int} (h : ∀ x ∈ l, (Lit.int .u8 x).wf = true) (i : Nat) : 0 ≤ rd l (i : Int) ∧ rd l (i : Int) ≤ 255 := by
  unfold rd
  rw [Int.toNat_natCast, List.getD_eq_getElem?_getD]
  cases hi : l[i]? with
  | none => simp
  | some x =>
    have := h x (List.mem_of_getElem? hi)
    simp [Lit.wf, IntKind.min, IntKind.max, IntKind.bits, IntKind.signed] at this
    simp; omega
theorem strOf_list (a : List UInt8) : strOfNums (a.map (fun c => (c.toNat : Int))) = bs a := by
  unfold strOfNums bs
  congr 2
  rw [List.map_map, show ((fun n : Int => UInt8.ofNat n.toNat) ∘ fun c : UInt8 => (c.toNat : Int)) = id from by funext c; simp]
  simp
def L63 : List UInt8 := [97, 98, 99, 100, 101, 102, 103, 104, 105, 106, 107, 108, 109, 110, 111, 112, 113, 114, 115, 116, 117, 118, 119, 120, 121, 122, 65, 66, 67, 68, 69, 70, 71, 72, 73, 74, 75, 76, 77, 78, 79, 80, 81, 82, 83, 84, 85, 86, 87, 88, 89, 90, 48, 49, 50, 51, 52, 53, 54, 55, 56, 57, 95]
theorem l63_at (q : Int) (h0 : 0 ≤ q) (h1 : q < 63) : bt (⟨#[97, 98, 99, 100, 101, 102, 103, 104, 105, 106, 107, 108, 109, 110, 111, 112, 113, 114, 115, 116, 117, 118, 119, 120, 121, 122, 65, 66, 67, 68, 69, 70, 71, 72, 73, 74, 75, 76, 77, 78, 79, 80, 81, 82, 83, 84, 85, 86, 87, 88, 89, 90, 48, 49, 50, 51, 52, 53, 54, 55, 56, 57, 95]⟩ : ByteArray) q = ((L63.getD q.toNat 0).toNat : Int) := by
  have hq : q.toNat < L63.length := by show q.toNat < 63; omega
  have := bt_bs L63 q.toNat hq
  rw [Int.toNat_of_nonneg h0] at this
  refine (show bt (bs L63) q = _ from this).trans ?_
  rw [List.getD_eq_getElem?_getD, List.getElem?_eq_getElem hq]; rfl
theorem l63_plain : ∀ c ∈ L63, Dm.isPlain c = true := by decide
theorem plain_loop (xs : List Int) (hx : ∀ x ∈ xs, (Lit.int .u8 x).wf = true) (hm : xs.length ≤ 1000) :
    ∀ (d i : Nat) (p : List UInt8) (k : Nat), i + d = xs.length → d < k → p.length = i → (∀ c ∈ p, Dm.isPlain c = true) →
      ∃ a : List UInt8, spec_AnPlain.l0 k (p.map (fun c => (c.toNat : Int)) ++ List.replicate d 0) xs (xs.length : Int) (i : Int) = some (bs a) ∧ a.length = xs.length ∧ ∀ c ∈ a, Dm.isPlain c = true := by
  intro d
  induction d with
  | zero =>
    intro i p k hi hk hp hl
    obtain ⟨k, rfl⟩ : ∃ m, k = m + 1 := ⟨k - 1, by omega⟩
    simp only [spec_AnPlain.l0]
    rw [if_neg (by omega)]
    refine ⟨p, ?_, by omega, hl⟩
    rw [List.replicate_zero, List.append_nil, strOf_list]
  | succ d ih =>
    intro i p k hi hk hp hl
    obtain ⟨k, rfl⟩ : ∃ m, k = m + 1 := ⟨k - 1, by omega⟩
    obtain ⟨r0, r1⟩ := u8_range hx i
    simp only [spec_AnPlain.l0]
    rw [wrap_id (x := rd xs (i : Int)) (by omega) (by omega)]
    have hm0 : 0 ≤ Int.tmod (rd xs (i : Int)) 63 := Int.tmod_nonneg _ r0
    have hm1 : Int.tmod (rd xs (i : Int)) 63 < 63 := Int.tmod_lt_of_pos _ (by omega)
    generalize Int.tmod (rd xs (i : Int)) 63 = q at hm0 hm1 ⊢
    rw [if_pos (by omega), if_pos (by omega), if_pos (by omega), if_pos hm0, if_pos hm1, if_pos (by simp; omega), wrap_id (x := (i : Int) + 1) (by omega) (by omega), l63_at q hm0 hm1]
    have hc := l63_plain _ (getD_mem' (show q.toNat < L63.length by show q.toNat < 63; omega))
    generalize L63.getD q.toNat 0 = c at hc
    have hset : (p.map (fun c : UInt8 => (c.toNat : Int)) ++ List.replicate (d + 1) 0).set ((i : Int)).toNat (c.toNat : Int) = (p ++ [c]).map (fun c : UInt8 => (c.toNat : Int)) ++ List.replicate d 0 := by
      rw [Int.toNat_natCast, List.set_append_right _ _ (by rw [List.length_map]; omega)]
      simp [hp, List.replicate_succ]
    rw [hset]
    obtain ⟨a, e, hl1, hl2⟩ := ih (i + 1) (p ++ [c]) k (by omega) (by omega) (by simp; omega) (by
      intro x hx2
      rcases List.mem_append.1 hx2 with hx2 | hx2
      · exact hl x hx2
      · obtain rfl := List.mem_singleton.1 hx2; exact hc)
    exact ⟨a, e, hl1, hl2⟩

theorem plain_f (xs : List Int) (hx : ∀ x ∈ xs, (Lit.int .u8 x).wf = true) (hm : xs.length ≤ 1000) (k : Nat) (hk : 1000 < k) :
    ∃ a : List UInt8, spec_AnPlain.f k xs = some (bs a) ∧ a ≠ [] ∧ a.length ≤ 1000 ∧ a.all Dm.isPlain = true := by
  unfold spec_AnPlain.f
  by_cases h0 : (xs.length : Int) = 0
  · rw [if_pos h0]; exact ⟨[97], rfl, by simp, by simp, by decide⟩
  · rw [if_neg h0, if_pos (by omega), if_pos (by omega)]
    obtain ⟨a, e, h1, h2⟩ := plain_loop xs hx hm xs.length 0 [] k (by omega) (by omega) rfl (by simp)
    refine ⟨a, by simpa using e, ?_, by omega, List.all_eq_true.2 h2⟩
    rintro rfl; simp at h1; omega
theorem idAt_n (a n : Int) (h0 : 0 < n) (h1 : n ≤ 4611686018427387904) : ∃ q : Nat, laws_idAt.f a n = some (q : Int) ∧ (q : Int) < n := by
  unfold laws_idAt.f
  rw [if_neg (by omega)]
  have m0 := Int.tmod_lt_of_pos a h0
  have m1 := Int.lt_tmod_of_pos a h0
  rw [wrap_id (x := Int.tmod a n + n) (by omega) (by omega)]
  have q0 : 0 ≤ Int.tmod (Int.tmod a n + n) n := Int.tmod_nonneg _ (by omega)
  have q1 : Int.tmod (Int.tmod a n + n) n < n := Int.tmod_lt_of_pos _ h0
  obtain ⟨q, hq⟩ := Int.eq_ofNat_of_zero_le q0
  exact ⟨q, by rw [hq], by omega⟩
theorem tmod_nat (m d : Nat) : Int.tmod (m : Int) (d : Int) = ((m % d : Nat) : Int) := rfl
theorem tdiv_nat (m d : Nat) : Int.tdiv (m : Int) (d : Int) = ((m / d : Nat) : Int) := rfl
theorem uwrap {x : Int} (h0 : 0 ≤ x) (h1 : x < 18446744073709551616) : IntKind.u64.wrap x = x := by rw [IntKind.wrap_u64]; omega
theorem piece62 (d : Nat) (h : d < 62) : (⟨#[48, 49, 50, 51, 52, 53, 54, 55, 56, 57, 97, 98, 99, 100, 101, 102, 103, 104, 105, 106, 107, 108, 109, 110, 111, 112, 113, 114, 115, 116, 117, 118, 119, 120, 121, 122, 65, 66, 67, 68, 69, 70, 71, 72, 73, 74, 75, 76, 77, 78, 79, 80, 81, 82, 83, 84, 85, 86, 87, 88, 89, 90]⟩ : ByteArray).extract d (d + 1) = bs [Dm.dig1 d] := by
  have hp : ∀ d : Fin 62, (Dm.D62.drop d.val).take 1 = [Dm.D62.getD d.val 0] := by decide +kernel
  show (bs Dm.D62).extract _ _ = _
  apply ByteArray.ext
  have := hp ⟨d, h⟩
  simp only at this
  simp [bs, ByteArray.data_extract]
  rw [this]
  rfl
theorem base62_loop (m : Nat) : ∀ (k : Nat) (t : List UInt8), m < k → m < 4611686018427387904 → t.length + m ≤ 4611686018427387904 →
    spec_IdBase62.l0 k (m : Int) (bs t) = some (bs ((if m = 0 then [] else Dm.digs62 m) ++ t)) := by
  induction m using Nat.strongRecOn with
  | _ m ih =>
    intro k t hk hm ht
    obtain ⟨k, rfl⟩ : ∃ j, k = j + 1 := ⟨k - 1, by omega⟩
    simp only [spec_IdBase62.l0]
    by_cases h0 : m = 0
    · rw [if_neg (by omega), if_pos h0]; rfl
    · have e1 : Int.tmod (m : Int) 62 = ((m % 62 : Nat) : Int) := tmod_nat m 62
      have e2 : Int.tdiv (m : Int) 62 = ((m / 62 : Nat) : Int) := tdiv_nat m 62
      rw [if_pos (by omega), e1, e2, uwrap (x := ((m % 62 : Nat) : Int) + 1) (by omega) (by omega), uwrap (x := ((m / 62 : Nat) : Int)) (by omega) (by omega), if_pos (by omega), if_pos (by omega), if_pos (by omega)]
      rw [show (((m % 62 : Nat) : Int)).toNat = m % 62 from Int.toNat_natCast _, show (((m % 62 : Nat) : Int) + 1).toNat = m % 62 + 1 by omega, piece62 (m % 62) (by omega)]
      rw [if_pos (by rw [bs_size, bs_size, List.length_singleton]; omega), app, ih (m / 62) (by omega) k _ (by omega) (by omega) (by rw [List.length_append, List.length_singleton]; omega)]
      rw [if_neg h0, Dm.digs62.eq_1 m]
      by_cases h62 : m < 62
      · rw [dif_pos h62, if_pos (by omega), Nat.mod_eq_of_lt h62]; rfl
      · rw [dif_neg h62, if_neg (by omega)]; simp
theorem base62_f (n k : Nat) (hk : n < k) (hn : n ≤ 4611686018427387903) : spec_IdBase62.f k (n : Int) = some (bs (Dm.b62W n)) := by
  unfold spec_IdBase62.f Dm.b62W
  by_cases h0 : n = 0
  · rw [if_neg (by omega), if_pos h0]; rfl
  · obtain ⟨m, rfl⟩ : ∃ m, n = m + 1 := ⟨n - 1, by omega⟩
    have e0 : ((m + 1 : Nat) : Int) - 1 = (m : Int) := by omega
    have e1 : Int.tmod (m : Int) 62 = ((m % 62 : Nat) : Int) := tmod_nat m 62
    have e2 : Int.tdiv (m : Int) 62 = ((m / 62 : Nat) : Int) := tdiv_nat m 62
    rw [if_pos (by omega), e0, uwrap (x := (m : Int)) (by omega) (by omega), e1, e2, uwrap (x := ((m % 62 : Nat) : Int) + 1) (by omega) (by omega), uwrap (x := ((m / 62 : Nat) : Int)) (by omega) (by omega), if_pos (by omega), if_pos (by omega), if_pos (by omega)]
    rw [show (((m % 62 : Nat) : Int)).toNat = m % 62 from Int.toNat_natCast _, show (((m % 62 : Nat) : Int) + 1).toNat = m % 62 + 1 by omega, piece62 (m % 62) (by omega)]
    rw [show (⟨#[95]⟩ : ByteArray) = bs [95] from rfl, if_pos (by rw [bs_size, List.length_singleton]; omega), app, base62_loop (m / 62) k _ (by omega) (by omega) (by simp; omega)]
    rw [if_neg h0, Nat.add_sub_cancel, Dm.digs62.eq_1 m]
    by_cases h62 : m < 62
    · rw [dif_pos h62, if_pos (by omega), Nat.mod_eq_of_lt h62]; rfl
    · rw [dif_neg h62, if_neg (by omega)]; simp
theorem b62W_len (n : Nat) : (Dm.b62W n).length ≤ n + 1 := by
  unfold Dm.b62W
  split
  · simp
  · rw [List.length_append, List.length_singleton]; have := Dm.digs62_len (n - 1); omega
theorem dis_f (n k : Nat) (hk : n < k) (hn : n ≤ 4611686018427387903) : spec_IdDisambiguator.f k (n : Int) = some (bs (Dm.disW n)) := by
  unfold spec_IdDisambiguator.f Dm.disW
  by_cases h0 : n = 0
  · rw [if_pos (by omega), if_pos h0]; rfl
  · have e0 : IntKind.u64.wrap ((n : Int) - 1) = ((n - 1 : Nat) : Int) := by rw [uwrap (by omega) (by omega)]; omega
    rw [if_neg (by omega), if_neg h0, e0, base62_f (n - 1) k (by omega) (by omega)]
    have := b62W_len (n - 1)
    refine bind_of rfl ?_
    rw [if_pos (by rw [bs_size]; omega), show (⟨#[115]⟩ : ByteArray) = bs [115] from rfl, app]
    rfl
/-! ### paths that are written -/
theorem enc_ascii (c : UInt8) (h : c.toNat < 128) : Utf8.encode (wrap32 (c.toNat : Int)) = bs [c] := by
  have e : wrap32 (c.toNat : Int) = (c.toNat : Int) := by unfold wrap32; omega
  rw [e]
  have hv : Utf8.valid (c.toNat : Int) = true := by unfold Utf8.valid; simp; omega
  unfold Utf8.encode
  simp only [hv, if_true, Int.toNat_natCast]
  rw [if_pos h]
  simp [bs]
theorem bd_of {α β : Type} {x : Option α} {a : α} {f : α → Option β} {r : Option β} (h : x = some a) (h2 : f a = r) : x.bind f = r := by subst h; exact h2
def toS (p : Prt) : S43 := ⟨(p.sp.toNat : Int), bs p.nm, (p.ds : Int)⟩
theorem rdT (ps : List Prt) (i : Nat) (h : i < ps.length) : rd_T43 (ps.map toS) (i : Int) = toS ps[i] := by
  unfold rd_T43
  rw [Int.toNat_natCast, List.getD_eq_getElem?_getD, List.getElem?_map, List.getElem?_eq_getElem h]; rfl
theorem space_n (sp : List Int) (hx : ∀ x ∈ sp, (Lit.int .u8 x).wf = true) (i : Nat) (fr : Int) (h0 : 0 ≤ fr) (h1 : fr ≤ 200) : ∃ q : Nat, q < 26 ∧ laws_idSpace.f sp (i : Int) fr = some (fr + q) := by
  unfold laws_idSpace.f
  by_cases hz : (sp.length : Int) = 0
  · rw [if_pos hz]; exact ⟨2, by omega, by congr 1; omega⟩
  · rw [if_neg hz]
    have m0 : 0 ≤ Int.tmod (i : Int) (sp.length : Int) := Int.tmod_nonneg _ (by omega)
    have m1 := Int.tmod_lt_of_pos (i : Int) (show (0 : Int) < sp.length by omega)
    obtain ⟨j, hj⟩ := Int.eq_ofNat_of_zero_le m0
    rw [if_pos m0, if_pos m1, hj]
    obtain ⟨r0, r1⟩ := u8_range hx j
    have q0 : 0 ≤ Int.tmod (rd sp (j : Int)) 26 := Int.tmod_nonneg _ r0
    have q1 := Int.tmod_lt_of_pos (rd sp (j : Int)) (show (0 : Int) < 26 by omega)
    obtain ⟨q, hq⟩ := Int.eq_ofNat_of_zero_le q0
    rw [hq] at q1 ⊢
    exact ⟨q, by omega, by congr 1; omega⟩
theorem dis_n (L : List Int) (i : Nat) : ∃ q : Nat, (q : Int) < 1099511627776 ∧ laws_idDis.f L (i : Int) = some (q : Int) ∧ (L = [] → q = 0) := by
  unfold laws_idDis.f
  by_cases hz : (L.length : Int) = 0
  · rw [if_pos hz]; exact ⟨0, by omega, rfl, fun _ => rfl⟩
  · rw [if_neg hz]
    have m0 : 0 ≤ Int.tmod (i : Int) (L.length : Int) := Int.tmod_nonneg _ (by omega)
    have m1 := Int.tmod_lt_of_pos (i : Int) (show (0 : Int) < L.length by omega)
    rw [if_pos m0, if_pos m1]
    obtain ⟨q, hq, hq1⟩ := idAt_n (rd L (Int.tmod (i : Int) (L.length : Int))) 1099511627776 (by omega) (by omega)
    refine ⟨q, hq1, bd_of hq ?_, fun h => absurd (by rw [h]; rfl) hz⟩
    rw [uwrap (by omega) (by omega)]
theorem rdL (rows : List (List Int)) (i : Nat) (h : i < rows.length) : rd_L1 rows (i : Int) = rows[i] := by
  unfold rd_L1
  rw [Int.toNat_natCast, List.getD_eq_getElem?_getD, List.getElem?_eq_getElem h]; rfl
theorem mn_take (n : Nat) : 0 ≤ mn (n : Int) 1000 ∧ mn (n : Int) 1000 ≤ (n : Int) ∧ (mn (n : Int) 1000).toNat ≤ 1000 := by unfold mn; split <;> omega
theorem fits_loop (rows : List (List Int)) (hm : rows.length ≤ 2147483647) : ∀ (d i k : Nat), i + d = rows.length → d < k →
    ∃ b, laws_zzFits1.l0 k rows (rows.length : Int) (i : Int) = some b := by
  intro d
  induction d with
  | zero =>
    intro i k hi hk
    obtain ⟨k, rfl⟩ : ∃ m, k = m + 1 := ⟨k - 1, by omega⟩
    simp only [laws_zzFits1.l0]
    rw [if_neg (by omega)]; exact ⟨_, rfl⟩
  | succ d ih =>
    intro i k hi hk
    obtain ⟨k, rfl⟩ : ∃ m, k = m + 1 := ⟨k - 1, by omega⟩
    simp only [laws_zzFits1.l0]
    rw [if_pos (by omega), if_pos (by omega), if_pos (by omega), wrap_id (x := (i : Int) + 1) (by omega) (by omega)]
    split
    · exact ⟨_, rfl⟩
    · exact ih (i + 1) k (by omega) (by omega)
theorem fits_f (rows : List (List Int)) (k : Nat) (hk : rows.length < k) : ∃ b, laws_zzFits1.f k rows = some b ∧ (b = true → rows.length ≤ 2147483647) := by
  unfold laws_zzFits1.f
  by_cases h : (rows.length : Int) > 2147483647
  · rw [if_pos h]; exact ⟨false, rfl, fun h => by cases h⟩
  · rw [if_neg h]
    obtain ⟨b, hb⟩ := fits_loop rows (by omega) rows.length 0 k (by omega) hk
    exact ⟨b, hb, fun _ => by omega⟩

/-- A part as these statements write them. -/
structure POk (p : Prt) : Prop where
  good : p.Good
  ln : p.nm.length ≤ 1000
  ds : p.ds < 1099511627776
theorem letter_low {p : Prt} (h : p.Good) : p.sp.toNat < 128 := by
  rcases h.sp with h | h
  · have := low_nums h; omega
  · have := up_nums h; omega
theorem written_len (t : List UInt8) (h : t.length ≤ 1000) : (Dm.written t).length ≤ 3000 := by
  unfold Dm.written Dm.counted
  have := Dm.digits_len t.length
  have hs : (Dm.sep t).length ≤ 1 := by
    cases t with
    | nil => simp [Dm.sep]
    | cons c t => simp only [Dm.sep]; split <;> simp
  split
  · simp
  · rw [List.length_append, List.length_append]; omega
theorem written_f (t : List UInt8) (h : t.length ≤ 1000) (hp : t.all Dm.isPlain = true) : spec_IdWritten.f (bs t) = some (bs (Dm.written t)) := by
  unfold spec_IdWritten.f
  rw [bs_size, bs_dl, if_pos ⟨by omega, hp⟩]
theorem disW_len (n : Nat) : (Dm.disW n).length ≤ n + 2 := by
  unfold Dm.disW; split
  · simp
  · rw [List.length_cons]; have := b62W_len (n - 1); omega
theorem ownW_len {p : Prt} (h : POk p) : (ownW p).length ≤ 1099511633000 := by
  unfold ownW
  rw [List.length_append]
  have h1 := disW_len p.ds; have h2 := written_len p.nm h.ln; have := h.ds
  omega
theorem symR_max (base : List UInt8) : ∀ ps : List Prt, (∀ p ∈ ps, POk p) → (symR base ps).length ≤ base.length + ps.length * 1099511633002 := by
  intro ps
  induction ps with
  | nil => intro _; simp [symR]
  | cons p ps ih =>
    intro h
    have h1 := ih fun x hx => h x (by simp [hx])
    have h2 := ownW_len (h p (by simp))
    simp only [symR, List.length_cons, List.length_append]
    omega
theorem base_len (cd : Nat) (crate : List UInt8) (h : crate.length ≤ 1000) (hcd : cd < 1099511627776) : (baseW cd crate).length ≤ 1099511633002 := by
  unfold baseW
  rw [List.length_cons, List.length_append]
  have h1 := disW_len cd; have h2 := written_len crate h
  omega
theorem ident_f (nm : List UInt8) (ds k : Nat) (hl : nm.length ≤ 1000) (hp : nm.all Dm.isPlain = true) (hd : ds < 1099511627776) (hk : 1099511627776 < k) : spec_idIdentifier.f k (bs nm) (ds : Int) = some (bs (Dm.disW ds ++ Dm.written nm)) := by
  have h1 := disW_len ds; have h2 := written_len nm hl
  unfold spec_idIdentifier.f
  refine bd_of (dis_f ds k (by omega) (by omega)) (bd_of (written_f nm hl hp) ?_)
  rw [if_pos (by rw [bs_size, bs_size]; omega), app]

theorem rev_take {α : Type} {l : List α} {i : Nat} (h : i < l.length) : (l.take (i + 1)).reverse = l[i] :: (l.take i).reverse := by
  rw [List.take_succ_eq_append_getElem h, List.reverse_append]; rfl

theorem symbol_step (all : List Prt) (hg : ∀ p ∈ all, POk p) (hm : all.length ≤ 100) (T : List UInt8) (hT : T.length ≤ 1000000000000000) (i k : Nat) (hi : i < all.length) (hk : 1099511627776 < k) :
    spec_IdSymbol.l0 (k + 1) (all.map toS) (bs T) (all.map toS) (all.length : Int) (i : Int) =
      spec_IdSymbol.l0 k (all.map toS) (bs (78 :: all[i].sp :: (T ++ (if all[i].nm = [] ∧ i + 1 = all.length then Dm.disW all[i].ds ++ [48] else ownW all[i])))) (all.map toS) (all.length : Int) ((i + 1 : Nat) : Int) := by
  simp only [spec_IdSymbol.l0]
  have hp := hg all[i] (List.getElem_mem hi)
  rw [if_pos (by omega), if_pos (by omega), if_pos (by rw [List.length_map]; omega), rdT all i hi, wrap_id (x := (i : Int) + 1) (by omega) (by omega)]
  have hown := ownW_len hp
  generalize all[i] = p at hp hown ⊢
  have hlow := letter_low hp.good
  show (spec_idIdentifier.f k (bs p.nm) (p.ds : Int)).bind _ = _
  refine bd_of (ident_f p.nm p.ds k hp.ln hp.good.pl hp.ds hk) ?_
  simp only [show (toS p).f0 = (p.sp.toNat : Int) from rfl, show (toS p).f1 = bs p.nm from rfl, show (toS p).f2 = (p.ds : Int) from rfl]
  rw [enc_ascii p.sp hlow, bs_tl, show (⟨#[78]⟩ : ByteArray) = bs [78] from rfl, show (⟨#[48]⟩ : ByteArray) = bs [48] from rfl, app [78] [p.sp]]
  have hd := disW_len p.ds
  have hds := hp.ds
  have plain : (if 1 + (bs [p.sp]).size ≤ 9223372036854775807 then (if (bs ([78] ++ [p.sp])).size + (bs T).size ≤ 9223372036854775807 then (if (bs ([78] ++ [p.sp]) ++ bs T).size + (bs (Dm.disW p.ds ++ Dm.written p.nm)).size ≤ 9223372036854775807 then (spec_IdSymbol.l0 k (all.map toS) ((bs ([78] ++ [p.sp]) ++ bs T) ++ bs (Dm.disW p.ds ++ Dm.written p.nm)) (all.map toS) (all.length : Int) ((i : Int) + 1)) else none) else none) else none) =
      spec_IdSymbol.l0 k (all.map toS) (bs (78 :: p.sp :: (T ++ ownW p))) (all.map toS) (all.length : Int) ((i + 1 : Nat) : Int) := by
    have hown : (Dm.disW p.ds ++ Dm.written p.nm).length ≤ 1099511633000 := hown
    rw [if_pos (by simp [bs_size]), if_pos (by rw [bs_size, bs_size]; simp; omega), app, if_pos (by rw [bs_size, bs_size, List.length_append]; simp at hown ⊢; omega), app]
    simp [ownW]
  by_cases h0 : p.nm = []
  · rw [if_pos h0]
    by_cases h1 : i + 1 = all.length
    · rw [if_pos (by rw [List.length_map, wrap_id (by omega) (by omega)]; omega)]
      refine bd_of (dis_f p.ds k (by omega) (by omega)) ?_
      rw [if_pos (by rw [bs_size]; omega), if_pos (by simp [bs_size]), if_pos (by rw [bs_size, bs_size]; simp; omega), app, app, if_pos (by rw [bs_size, bs_size]; simp; omega), app, if_pos ⟨h0, h1⟩]
      simp
    · rw [if_neg (by rw [List.length_map, wrap_id (by omega) (by omega)]; omega), plain, if_neg (by rintro ⟨_, h⟩; exact h1 h)]
  · rw [if_neg h0, plain, if_neg (by rintro ⟨h, _⟩; exact h0 h)]

theorem symbol_loop (all : List Prt) (hg : ∀ p ∈ all, POk p) (hm : all.length ≤ 100) (base : List UInt8) (hb : base.length ≤ 1099511633002) :
    ∀ (d i k : Nat), i + (d + 1) = all.length → d + 1 + 1099511627776 < k →
      spec_IdSymbol.l0 k (all.map toS) (bs (symR base (all.take i).reverse)) (all.map toS) (all.length : Int) (i : Int) = some (bs (symL base all.reverse)) := by
  have hT : ∀ i, (symR base (all.take i).reverse).length ≤ 1000000000000000 := by
    intro i
    have := symR_max base (all.take i).reverse (fun p hp => hg p (List.mem_of_mem_take (List.mem_reverse.1 hp)))
    rw [List.length_reverse, List.length_take] at this
    omega
  intro d
  induction d with
  | zero =>
    intro i k hi hk
    obtain ⟨k, rfl⟩ : ∃ m, k = m + 1 := ⟨k - 1, by omega⟩
    rw [symbol_step all hg hm _ (hT i) i k (by omega) (by omega)]
    obtain ⟨k, rfl⟩ : ∃ m, k = m + 1 := ⟨k - 1, by omega⟩
    simp only [spec_IdSymbol.l0]
    rw [if_neg (by omega)]
    have hr := rev_take (l := all) (i := i) (by omega)
    rw [List.take_of_length_le (by omega)] at hr
    rw [hr]
    simp only [symL]
    by_cases h0 : all[i].nm = []
    · rw [if_pos ⟨h0, by omega⟩, if_pos h0]
    · rw [if_neg (by rintro ⟨h, _⟩; exact h0 h), if_neg h0]
  | succ d ih =>
    intro i k hi hk
    obtain ⟨k, rfl⟩ : ∃ m, k = m + 1 := ⟨k - 1, by omega⟩
    rw [symbol_step all hg hm _ (hT i) i k (by omega) (by omega), if_neg (by rintro ⟨_, h⟩; omega)]
    have := ih (i + 1) k (by omega) (by omega)
    rw [rev_take (by omega)] at this
    exact this
theorem symbol_f (all : List Prt) (hg : ∀ p ∈ all, POk p) (hm : all.length ≤ 100) (crate : List UInt8) (cd : Nat) (hl : crate.length ≤ 1000) (hp : crate.all Dm.isPlain = true) (hcd : cd < 1099511627776) (k : Nat) (hk : 1099511628000 < k) :
    spec_IdSymbol.f k (bs crate) (cd : Int) (all.map toS) = some (bs (symL (baseW cd crate) all.reverse)) := by
  have hb := base_len cd crate hl hcd
  unfold spec_IdSymbol.f
  refine bd_of (ident_f crate cd k hl hp hcd (by omega)) ?_
  have hb2 : (Dm.disW cd ++ Dm.written crate).length + 1 ≤ 1099511633002 := by
    have := hb; unfold baseW at this; rw [List.length_cons] at this; exact this
  rw [if_pos (by rw [bs_size]; omega), show (⟨#[67]⟩ : ByteArray) = bs [67] from rfl, app, List.length_map]
  show spec_IdSymbol.l0 k (all.map toS) (bs (baseW cd crate)) (all.map toS) (all.length : Int) ((0 : Nat) : Int) = _
  cases ha : all with
  | nil =>
    obtain ⟨k, rfl⟩ : ∃ m, k = m + 1 := ⟨k - 1, by omega⟩
    simp only [spec_IdSymbol.l0]
    rw [if_neg (by simp)]; rfl
  | cons p ps =>
    rw [← ha]
    have := symbol_loop all hg hm (baseW cd crate) hb (all.length - 1) 0 k (by rw [ha]; simp) (by omega)
    exact this
theorem symL_max (base : List UInt8) (ps : List Prt) (h : ∀ p ∈ ps, POk p) : (symL base ps).length ≤ base.length + ps.length * 1099511633002 := by
  cases ps with
  | nil => simp [symL]
  | cons p ps =>
    have h1 := symR_max base ps fun x hx => h x (by simp [hx])
    have h2 := ownW_len (h p (by simp))
    have h3 := disW_len p.ds
    have h4 := (h p (by simp)).ds
    simp only [symL]
    split <;> simp only [List.length_cons, List.length_append, List.length_nil] <;> omega

/-! ### the text -/
theorem partT_low {p : Prt} (h : isLow p.sp = true) : partT p.sp (p.ds : Int) p.nm = [58, 58] ++ p.nm := by
  unfold partT
  rw [if_neg]
  intro hu
  have h1 := low_nums h; have h2 := up_nums hu; omega
theorem kindT_len (n : UInt8) : (kindT n).length ≤ 7 := by
  unfold kindT; split
  · simp
  · split <;> simp
theorem partT_len {p : Prt} (h : POk p) : (partT p.sp (p.ds : Int) p.nm).length ≤ 1100 := by
  have h1 := h.ln
  have h2 := itoa_len (n := (p.ds : Int)) (by have := h.ds; omega)
  have h3 := kindT_len p.sp
  have h4 : (nameT p.nm).length ≤ p.nm.length + 1 := by unfold nameT; split <;> simp
  unfold partT
  split
  · simp only [List.length_append, List.length_cons, List.length_nil]; omega
  · simp only [List.length_append, List.length_cons, List.length_nil]; omega
theorem textR_max (crate : List UInt8) : ∀ ps : List Prt, (∀ p ∈ ps, POk p) → (textR crate ps).length ≤ crate.length + ps.length * 1100 := by
  intro ps
  induction ps with
  | nil => intro _; simp [textR]
  | cons p ps ih =>
    intro h
    have h1 := ih fun x hx => h x (by simp [hx])
    have h2 := partT_len (h p (by simp))
    simp only [textR, List.length_cons, List.length_append]
    omega
/-! ### parts of small letters -/
theorem small_loop (rows : List (List Int)) (sp L : List Int) (hr : ∀ r ∈ rows, ∀ x ∈ r, (Lit.int .u8 x).wf = true) (hs : ∀ x ∈ sp, (Lit.int .u8 x).wf = true) (hm : rows.length ≤ 2147483647) :
    ∀ (d i k : Nat) (ps : List Prt), i + d = rows.length → d + 1000 < k → ps.length ≤ i → ps.length ≤ 100 → (∀ p ∈ ps, POk p ∧ isLow p.sp = true ∧ p.nm ≠ [] ∧ (L = [] → p.ds = 0)) →
      ∃ qs : List Prt, laws_idSmall.l0 k sp L (ps.map toS) rows (rows.length : Int) (i : Int) = some (qs.map toS) ∧ qs.length ≤ 100 ∧ ∀ p ∈ qs, POk p ∧ isLow p.sp = true ∧ p.nm ≠ [] ∧ (L = [] → p.ds = 0) := by
  intro d
  induction d with
  | zero =>
    intro i k ps hi hk h1 h2 hg
    obtain ⟨k, rfl⟩ : ∃ m, k = m + 1 := ⟨k - 1, by omega⟩
    simp only [laws_idSmall.l0]
    rw [if_neg (by omega)]
    exact ⟨ps, rfl, h2, hg⟩
  | succ d ih =>
    intro i k ps hi hk h1 h2 hg
    obtain ⟨k, rfl⟩ : ∃ m, k = m + 1 := ⟨k - 1, by omega⟩
    have hlt : i < rows.length := by omega
    simp only [laws_idSmall.l0]
    rw [if_pos (by omega), if_pos (by omega), if_pos (by omega), rdL rows i hlt, wrap_id (x := (i : Int) + 1) (by omega) (by omega)]
    have hrow := hr rows[i] (List.getElem_mem hlt)
    generalize rows[i] = r at hrow ⊢
    by_cases h100 : (i : Int) < 100
    · obtain ⟨q, hq, eq⟩ := space_n sp hs i 97 (by omega) (by omega)
      obtain ⟨t, et, ht0, htl, htp⟩ := plain_f (r.take (mn (r.length : Int) 1000).toNat) (fun x h => hrow x (List.mem_of_mem_take h)) (by have := mn_take r.length; rw [List.length_take]; omega) k (by omega)
      obtain ⟨ds, hd, ed, hd0⟩ := dis_n L i
      have hqt : (UInt8.ofNat (97 + q)).toNat = 97 + q := by simp; omega
      have hlow : isLow (UInt8.ofNat (97 + q)) = true := by unfold isLow; rw [hqt]; simp; omega
      obtain ⟨qs, e, hl, hgs⟩ := ih (i + 1) k (ps ++ [⟨UInt8.ofNat (97 + q), t, ds⟩]) (by omega) (by omega) (by rw [List.length_append]; simp; omega) (by rw [List.length_append]; simp; omega) (by
        intro p hp
        rcases List.mem_append.1 hp with hp | hp
        · exact hg p hp
        · rw [List.mem_singleton] at hp; subst hp
          exact ⟨⟨⟨.inl hlow, htp, by show t.length ≤ _; omega, by show ds ≤ _; omega⟩, htl, by show ds < _; omega⟩, hlow, ht0, hd0⟩)
      refine ⟨qs, ?_, hl, hgs⟩
      have hmn := mn_take r.length
      rw [if_pos h100]
      refine bd_of eq ?_
      rw [if_pos hmn.1, if_pos hmn.2.1]
      refine bd_of et (bd_of ed ?_)
      rw [if_pos (by rw [List.length_map]; omega)]
      rw [← e, List.map_append]
      have hS : toS ⟨UInt8.ofNat (97 + q), t, ds⟩ = ⟨97 + (q : Int), bs t, (ds : Int)⟩ := by unfold toS; simp only [hqt]; congr 1
      rw [List.map_singleton, hS]
      rfl
    · rw [if_neg h100]
      exact ih (i + 1) k ps (by omega) (by omega) (by omega) h2 hg
theorem small_f (rows : List (List Int)) (sp L : List Int) (hr : ∀ r ∈ rows, ∀ x ∈ r, (Lit.int .u8 x).wf = true) (hs : ∀ x ∈ sp, (Lit.int .u8 x).wf = true) (hm : rows.length ≤ 2147483647) (k : Nat) (hk : 2147485000 < k) :
    ∃ qs : List Prt, laws_idSmall.f k rows sp L = some (qs.map toS) ∧ qs.length ≤ 100 ∧ ∀ p ∈ qs, POk p ∧ isLow p.sp = true ∧ p.nm ≠ [] ∧ (L = [] → p.ds = 0) := by
  unfold laws_idSmall.f
  exact small_loop rows sp L hr hs hm rows.length 0 k [] (by omega) (by omega) (by simp) (by simp) (by simp)
/-! ### what is refused -/
theorem refused_f (l : List UInt8) (hl : l.length ≤ 4611686018427387904) (t : ByteArray) (n : Int) (h : toldAns l false false (mxOf 0) = some (t, n)) (hn : n ≠ 0) : laws_idRefused.f (bs l) = some true := by
  unfold laws_idRefused.f
  refine bd_of (a := (t, n)) ?_ ?_
  · unfold impl_Told.f
    rw [if_pos ⟨by rw [bs_size]; exact hl, by omega, by omega⟩, bs_dl]; exact h
  · simp [hn]
theorem refused_bad (l : List UInt8) (hl : l.length ≤ 4611686018427380000) (h : ∀ mx, toldM l false false mx = .bad) : laws_idRefused.f (bs (95 :: 82 :: l)) = some true :=
  refused_f _ (by simp only [List.length_cons]; omega) ⟨#[]⟩ 2 (by show ansOf (toldM l false false (mxOf 0)) = _; rw [h]; rfl) (by decide)
def L36 : List UInt8 := [97, 98, 99, 100, 101, 102, 103, 104, 105, 106, 107, 108, 109, 110, 111, 112, 113, 114, 115, 116, 117, 118, 119, 120, 121, 122, 48, 49, 50, 51, 52, 53, 54, 55, 56, 57]
theorem l36_props : ∀ k : Fin 36, (L36.getD k.val 0 ≠ 67 ∧ L36.getD k.val 0 ≠ 78) ∧ (L36.getD k.val 0 ≠ 77 ∧ L36.getD k.val 0 ≠ 88 ∧ L36.getD k.val 0 ≠ 89 ∧ L36.getD k.val 0 ≠ 73 ∧ L36.getD k.val 0 ≠ 66) ∧ Dm.isPlain (L36.getD k.val 0) = true := by decide +kernel
theorem piece36 (d : Nat) (h : d < 36) : (⟨#[97, 98, 99, 100, 101, 102, 103, 104, 105, 106, 107, 108, 109, 110, 111, 112, 113, 114, 115, 116, 117, 118, 119, 120, 121, 122, 48, 49, 50, 51, 52, 53, 54, 55, 56, 57]⟩ : ByteArray).extract d (d + 1) = bs [L36.getD d 0] := by
  have hp : ∀ d : Fin 36, (L36.drop d.val).take 1 = [L36.getD d.val 0] := by decide +kernel
  show (bs L36).extract _ _ = _
  apply ByteArray.ext
  have := hp ⟨d, h⟩
  simp only at this
  simp [bs, ByteArray.data_extract]
  rw [this]
  rfl

theorem FnBehindRefused : laws_FnBehindRefused.Pure := by
  intro l0 l1 l2 a3 l4 hm0 _ hw0 hm1 hw1 hm2 _ hw2 hw3 hm4 _ hw4
  obtain ⟨K, hK⟩ : ∃ K : Nat, 2199023255552 + l1.length < K := ⟨_, Nat.lt_succ_self _⟩
  have hbad : laws_FnBehindRefused.j0 (K + 1) l0 l1 l2 a3 l4 true = some true := by simp only [laws_FnBehindRefused.j0, if_true]
  refine ⟨K + 1, ?_⟩
  unfold laws_FnBehindRefused.f
  by_cases hz : (l0.length : Int) > 2147483647
  · rw [if_pos hz]; exact hbad
  · rw [if_neg hz]
    obtain ⟨b, hb, hb2⟩ := fits_f l1 (K + 1) (by omega)
    refine bd_of hb ?_
    cases b with
    | false => rw [if_neg (by decide)]; exact hbad
    | true =>
      rw [if_pos rfl]
      by_cases hz1 : (l2.length : Int) > 2147483647
      · rw [if_pos hz1]; exact hbad
      rw [if_neg hz1]
      cases hz2 : decide ((l4.length : Int) > 2147483647) with
      | true => exact hbad
      | false =>
        have hl1 := hb2 rfl
        have hmn := mn_take l0.length
        simp only [laws_FnBehindRefused.j0]
        rw [if_neg (by decide), if_pos hmn.1, if_pos hmn.2.1]
        obtain ⟨t, et, ht0, htl, htp⟩ := plain_f (l0.take (mn (l0.length : Int) 1000).toNat) (fun x h => hw0 x (List.mem_of_mem_take h)) (by rw [List.length_take]; omega) K (by omega)
        refine bd_of et ?_
        obtain ⟨qs, eq, hql, hqg⟩ := small_f l1 l2 [] (fun r h => (hw1 r h).2) hw2 hl1 K (by omega)
        refine bd_of eq ?_
        have hrev : ∀ p ∈ qs.reverse, POk p := fun p h => (hqg p (List.mem_reverse.1 h)).1
        have hs := symL_max (baseW 0 t) qs.reverse hrev
        have hbl := base_len 0 t htl (by omega)
        have h3 := textR_max t qs.reverse hrev
        have hrl : qs.reverse.length ≤ 100 := by rw [List.length_reverse]; exact hql
        refine bd_of (symbol_f qs (fun p h => (hqg p h).1) hql t 0 htl htp (by omega) K (by omega)) ?_
        rw [if_pos (by rw [bs_size]; omega), show (⟨#[95, 82]⟩ : ByteArray) = bs [95, 82] from rfl, app]
        have ha : 0 ≤ a3 ∧ a3 ≤ 255 := by
          simp [Lit.wf, IntKind.min, IntKind.max, IntKind.bits, IntKind.signed] at hw3; omega
        have q0 : 0 ≤ Int.tmod a3 36 := Int.tmod_nonneg _ ha.1
        have q1 := Int.tmod_lt_of_pos a3 (show (0 : Int) < 36 by omega)
        obtain ⟨q, hq⟩ := Int.eq_ofNat_of_zero_le q0
        rw [hq] at q1 ⊢
        have e1 : ((q : Int) + 1) % 256 = ((q + 1 : Nat) : Int) := by omega
        rw [e1, if_pos (by omega), if_pos (by omega), if_pos (by omega), Int.toNat_natCast, Int.toNat_natCast, piece36 q (by omega)]
        have hmn4 := mn_take l4.length
        obtain ⟨u, eu, hu0, hul, hup⟩ := plain_f (l4.take (mn (l4.length : Int) 1000).toNat) (fun x h => hw4 x (List.mem_of_mem_take h)) (by rw [List.length_take]; omega) K (by omega)
        rw [if_pos (by simp only [bs_size, List.length_append, List.length_cons, List.length_nil]; omega), if_pos hmn4.1, if_pos hmn4.2.1]
        refine bd_of eu ?_
        rw [app, if_pos (by simp only [bs_size, List.length_append, List.length_cons, List.length_nil]; omega), app]
        refine bd_of (a := true) ?_ rfl
        have hne : ∀ p ∈ qs.reverse, p.nm ≠ [] := fun p h => (hqg p (List.mem_reverse.1 h)).2.2.1
        rw [symL_R _ _ hne] at hs ⊢
        obtain ⟨hc1, hc2, hcp⟩ := l36_props ⟨q, by omega⟩
        have := refused_bad (symR (baseW 0 t) qs.reverse ++ (L36.getD q 0 :: u)) (by simp only [List.length_append, List.length_cons]; omega) fun mx =>
          told_behind t htp (by omega) false false mx qs.reverse (L36.getD q 0) u (fun p h => (hrev p h).good) (by omega) hc1 hc2 (Pl.cons hcp (pl_all hup))
        simpa using this
end Go.Proofs.YtdmkdclockmjbaaGreatDoor.Pure
