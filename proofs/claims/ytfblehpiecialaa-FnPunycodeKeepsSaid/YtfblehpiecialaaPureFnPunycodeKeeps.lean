/- FnPunycodeKeeps, of numbers and lists alone: the plain characters of what is read are those before the last underscore. -/
import Derived.Test.YtfblehpiecialaaPFnPunycodeKeepsx1
import Derived.Test.YtfblehpiecialaaPunT
import Derived.Test.YtfblehpiecialaaDig62
namespace Go.Proofs.Ytfblehpiecialaa.Pure
set_option linter.unusedVariables false
set_option linter.unusedSimpArgs false
open Go.RowKit Go.Proofs.Ytfblehpiecialaa.PFnPunycodeKeeps Go.Proofs.YtfblehpiecialaaW.PrintWords Go.Proofs.YtfblehpiecialaaW.PrintLast

def L63 : List UInt8 := [97, 98, 99, 100, 101, 102, 103, 104, 105, 106, 107, 108, 109, 110, 111, 112, 113, 114, 115, 116, 117, 118, 119, 120, 121, 122, 65, 66, 67, 68, 69, 70, 71, 72, 73, 74, 75, 76, 77, 78, 79, 80, 81, 82, 83, 84, 85, 86, 87, 88, 89, 90, 48, 49, 50, 51, 52, 53, 54, 55, 56, 57, 95]
def L36 : List UInt8 := [97, 98, 99, 100, 101, 102, 103, 104, 105, 106, 107, 108, 109, 110, 111, 112, 113, 114, 115, 116, 117, 118, 119, 120, 121, 122, 48, 49, 50, 51, 52, 53, 54, 55, 56, 57]
theorem l63_low : ∀ c ∈ L63, c.toNat < 128 := by decide
theorem l36_ne : ∀ c ∈ L36, c ≠ 95 := by decide

theorem getD_mem' {l : List UInt8} {k : Nat} (h : k < l.length) : l.getD k 0 ∈ l := by
  rw [List.getD_eq_getElem?_getD, List.getElem?_eq_getElem h]; exact List.getElem_mem h

/-- A number of a list of bytes that begins with plain characters. -/
theorem strOf_split (done : List UInt8) (r : List Int) : strOfNums (done.map (fun c => (c.toNat : Int)) ++ r) = bs (done ++ r.map fun n => UInt8.ofNat n.toNat) := by
  unfold strOfNums bs
  congr 2
  rw [List.map_append, List.map_map]
  congr 1
  rw [show ((fun n : Int => UInt8.ofNat n.toNat) ∘ fun c : UInt8 => (c.toNat : Int)) = id from by funext c; simp]
  simp

theorem plain_loop (xs : List Int) (hx : ∀ x ∈ xs, (Lit.int .u8 x).wf = true) (hm : xs.length ≤ 1000) :
    ∀ (d i : Nat) (p : List UInt8) (k : Nat), i + d = xs.length → d < k → p.length = i → (∀ c ∈ p, c.toNat < 128) →
      ∃ a : List UInt8, spec_AnPlain.l0 k (p.map (fun c => (c.toNat : Int)) ++ List.replicate d 0) xs (xs.length : Int) (i : Int) = some (bs a) ∧ a.length = xs.length ∧ ∀ c ∈ a, c.toNat < 128 := by
  intro d
  induction d with
  | zero =>
    intro i p k hi hk hp hl
    obtain ⟨k, rfl⟩ : ∃ m, k = m + 1 := ⟨k - 1, by omega⟩
    simp only [spec_AnPlain.l0]
    rw [if_neg (by omega)]
    refine ⟨p, ?_, by omega, hl⟩
    rw [strOf_split]; simp
  | succ d ih =>
    intro i p k hi hk hp hl
    obtain ⟨k, rfl⟩ : ∃ m, k = m + 1 := ⟨k - 1, by omega⟩
    obtain ⟨r0, r1⟩ := rd_range hx i
    simp only [spec_AnPlain.l0]
    rw [wrap_id (x := rd xs (i : Int)) (by omega) (by omega)]
    have hm0 : 0 ≤ Int.tmod (rd xs (i : Int)) 63 := Int.tmod_nonneg _ r0
    have hm1 : Int.tmod (rd xs (i : Int)) 63 < 63 := Int.tmod_lt_of_pos _ (by omega)
    generalize Int.tmod (rd xs (i : Int)) 63 = q at hm0 hm1 ⊢
    rw [if_pos (by omega), if_pos (by omega), if_pos (by omega), if_pos hm0, if_pos hm1, if_pos (by simp; omega), wrap_id (x := (i : Int) + 1) (by omega) (by omega)]
    have hq : q.toNat < L63.length := by show q.toNat < 63; omega
    have hb : bt (bs L63) q = ((L63.getD q.toNat 0).toNat : Int) := by
      have := bt_bs L63 q.toNat hq
      rw [Int.toNat_of_nonneg hm0] at this
      rw [this, List.getD_eq_getElem?_getD, List.getElem?_eq_getElem hq]; rfl
    have hb' : bt (⟨#[97, 98, 99, 100, 101, 102, 103, 104, 105, 106, 107, 108, 109, 110, 111, 112, 113, 114, 115, 116, 117, 118, 119, 120, 121, 122, 65, 66, 67, 68, 69, 70, 71, 72, 73, 74, 75, 76, 77, 78, 79, 80, 81, 82, 83, 84, 85, 86, 87, 88, 89, 90, 48, 49, 50, 51, 52, 53, 54, 55, 56, 57, 95]⟩ : ByteArray) q = ((L63.getD q.toNat 0).toNat : Int) := hb
    rw [hb']
    have hc := l63_low _ (getD_mem' hq)
    generalize L63.getD q.toNat 0 = c at hc
    have hset : (p.map (fun c : UInt8 => (c.toNat : Int)) ++ List.replicate (d + 1) 0).set ((i : Int)).toNat (c.toNat : Int) = (p ++ [c]).map (fun c : UInt8 => (c.toNat : Int)) ++ List.replicate d 0 := by
      rw [Int.toNat_natCast, List.set_append_right _ _ (by rw [List.length_map]; omega)]
      simp [hp, List.replicate_succ]
    rw [hset]
    obtain ⟨a, e, hl1, hl2⟩ := ih (i + 1) (p ++ [c]) k (by omega) (by omega) (by simp; omega) (by
      intro x hx2
      rcases List.mem_append.1 hx2 with hx2 | hx2
      · exact hl x hx2
      · obtain rfl := List.mem_singleton.1 hx2; exact hc)
    exact ⟨a, e, hl1, hl2⟩

theorem plain_f (xs : List Int) (hx : ∀ x ∈ xs, (Lit.int .u8 x).wf = true) (hm : xs.length ≤ 1000) (k : Nat) (hk : 1000 < k) :
    ∃ a : List UInt8, spec_AnPlain.f k xs = some (bs a) ∧ a.length ≤ 1000 ∧ ∀ c ∈ a, c.toNat < 128 := by
  unfold spec_AnPlain.f
  by_cases h0 : (xs.length : Int) = 0
  · rw [if_pos h0]; exact ⟨[97], rfl, by simp, by decide⟩
  · rw [if_neg h0, if_pos (by omega), if_pos (by omega)]
    obtain ⟨a, e, h1, h2⟩ := plain_loop xs hx hm xs.length 0 [] k (by omega) (by omega) rfl (by simp)
    exact ⟨a, by simpa using e, by omega, h2⟩

theorem l36_piece (q : Int) (h0 : 0 ≤ q) (h1 : q < 36) : ∃ c, (⟨#[97, 98, 99, 100, 101, 102, 103, 104, 105, 106, 107, 108, 109, 110, 111, 112, 113, 114, 115, 116, 117, 118, 119, 120, 121, 122, 48, 49, 50, 51, 52, 53, 54, 55, 56, 57]⟩ : ByteArray).extract q.toNat ((q + 1) % 256).toNat = bs [c] ∧ c ≠ 95 := by
  have hq : q.toNat < L36.length := by show q.toNat < 36; omega
  refine ⟨L36.getD q.toNat 0, ?_, l36_ne _ (getD_mem' hq)⟩
  show (bs L36).extract _ _ = _
  rw [bs_piece, show ((q + 1) % 256).toNat - q.toNat = 1 from by omega, List.drop_eq_getElem_cons hq, List.getD_eq_getElem?_getD, List.getElem?_eq_getElem hq]
  rfl

theorem puny_loop (xs : List Int) (hx : ∀ x ∈ xs, (Lit.int .u8 x).wf = true) (hm : xs.length ≤ 1000) :
    ∀ (d i : Nat) (p : List UInt8) (k : Nat), i + d = xs.length → d < k → p.length ≤ i → (∀ c ∈ p, c ≠ 95) →
      ∃ a : List UInt8, laws_idPuny.l0 k (bs p) xs (xs.length : Int) (i : Int) = some (bs a) ∧ a.length ≤ 1000 ∧ ∀ c ∈ a, c ≠ 95 := by
  intro d
  induction d with
  | zero =>
    intro i p k hi hk hp hl
    obtain ⟨k, rfl⟩ : ∃ m, k = m + 1 := ⟨k - 1, by omega⟩
    simp only [laws_idPuny.l0]
    rw [if_neg (by omega)]
    exact ⟨p, rfl, by omega, hl⟩
  | succ d ih =>
    intro i p k hi hk hp hl
    obtain ⟨k, rfl⟩ : ∃ m, k = m + 1 := ⟨k - 1, by omega⟩
    obtain ⟨r0, r1⟩ := rd_range hx i
    simp only [laws_idPuny.l0]
    have hm0 : 0 ≤ Int.tmod (rd xs (i : Int)) 36 := Int.tmod_nonneg _ r0
    have hm1 : Int.tmod (rd xs (i : Int)) 36 < 36 := Int.tmod_lt_of_pos _ (by omega)
    generalize Int.tmod (rd xs (i : Int)) 36 = q at hm0 hm1 ⊢
    obtain ⟨c, hc, hne⟩ := l36_piece q hm0 hm1
    rw [if_pos (by omega), if_pos (by omega), if_pos (by omega), if_pos hm0, if_pos (by omega), if_pos (by omega), hc, if_pos (by rw [bs_size, bs_size]; simp; omega), bs_app, wrap_id (x := (i : Int) + 1) (by omega) (by omega)]
    exact ih (i + 1) (p ++ [c]) k (by omega) (by omega) (by simp; omega) (by
      intro x hx2
      rcases List.mem_append.1 hx2 with hx2 | hx2
      · exact hl x hx2
      · obtain rfl := List.mem_singleton.1 hx2; exact hne)

theorem cut_f (xs : List Int) : laws_idCut.f xs = some (xs.take 1000) := by
  unfold laws_idCut.f mn
  by_cases h : (xs.length : Int) ≤ 1000
  · have e : (if (xs.length : Int) ≤ 1000 then (xs.length : Int) else 1000) = xs.length := by rw [if_pos h]
    simp only [show (if (1000 : Int) < (xs.length : Int) then (1000 : Int) else (xs.length : Int)) = (xs.length : Int) from by rw [if_neg (by omega)], e]
    rw [if_pos (by omega), if_pos (by omega)]
    rw [List.take_of_length_le (by omega), List.take_of_length_le (by omega)]
  · have e : (if (xs.length : Int) ≤ 1000 then (xs.length : Int) else 1000) = 1000 := by rw [if_neg h]
    simp only [show (if (1000 : Int) < (xs.length : Int) then (1000 : Int) else (xs.length : Int)) = (1000 : Int) from by rw [if_pos (by omega)], e]
    rw [if_pos (by omega), if_pos (by omega)]
    rfl

theorem wf_take {xs : List Int} (hx : ∀ x ∈ xs, (Lit.int .u8 x).wf = true) (n : Nat) : ∀ x ∈ xs.take n, (Lit.int .u8 x).wf = true := fun x h => hx x (List.mem_of_mem_take h)
theorem wf_one {xs : List Int} (hx : ∀ x ∈ xs, (Lit.int .u8 x).wf = true) : ∀ x ∈ ([1] : List Int) ++ xs, (Lit.int .u8 x).wf = true := by
  intro x h
  rcases List.mem_append.1 h with h | h
  · obtain rfl := List.mem_singleton.1 h; rfl
  · exact hx x h

theorem puny_f (xs : List Int) (hx : ∀ x ∈ xs, (Lit.int .u8 x).wf = true) (k : Nat) (hk : 1001 < k) :
    ∃ a : List UInt8, laws_idPuny.f k [] xs = some (bs a) ∧ a.length ≤ 1000 ∧ ∀ c ∈ a, c ≠ 95 := by
  obtain ⟨k, rfl⟩ : ∃ m, k = m + 1 := ⟨k - 1, by omega⟩
  unfold laws_idPuny.f
  rw [if_neg (by simp)]
  simp only [laws_idPuny.j0, cut_f, Option.bind_some]
  have hl : (xs.take 1000).length ≤ 1000 := by simp; omega
  exact puny_loop (xs.take 1000) (wf_take hx _) hl (xs.take 1000).length 0 [] k (by omega) (by omega) (by simp) (by simp)

theorem door_godel : laws_doorPuny.f (⟨#[103, 100, 101, 108, 95, 53, 113, 97]⟩ : ByteArray) (⟨#[103, 195, 182, 100, 101, 108]⟩ : ByteArray) = some true := by
  unfold laws_doorPuny.f impl_Punycode.f
  rw [if_pos (by decide)]
  have e : Dm.expand (⟨#[103, 100, 101, 108, 95, 53, 113, 97]⟩ : ByteArray).data.toList = some [103, 246, 100, 101, 108] := Dm.expand_godel
  rw [e]
  decide +kernel

theorem keeps_end (a t : List UInt8) (ok : Bool) (p : List UInt8) (h : ok = true → p = a) (k : Nat) :
    laws_FnPunycodeKeeps.l0 (k + 1) (bs a) (bs t) ok (bs p) (t.length : Int) (t.length : Int) = some true := by
  simp only [laws_FnPunycodeKeeps.l0]
  rw [if_neg (by omega), door_godel]
  cases ok with
  | false => rfl
  | true => obtain rfl := h rfl; rw [if_pos rfl, if_pos rfl]; rfl

theorem keeps_loop (a t : List UInt8) (ht : t.length ≤ 9000000000000000000) (ok : Bool) (hok : ok = true → t.filter Dm.low = a) :
    ∀ (d i : Nat) (p : List UInt8) (k : Nat), i + d = t.length → d < k → p = (t.take i).filter Dm.low →
      laws_FnPunycodeKeeps.l0 k (bs a) (bs t) ok (bs p) (t.length : Int) (i : Int) = some true := by
  intro d
  induction d with
  | zero =>
    intro i p k hi hk hp
    obtain ⟨k, rfl⟩ : ∃ m, k = m + 1 := ⟨k - 1, by omega⟩
    obtain rfl : i = t.length := by omega
    exact keeps_end a t ok p (fun h => by rw [hp, List.take_of_length_le (Nat.le_refl _)]; exact hok h) k
  | succ d ih =>
    intro i p k hi hk hp
    obtain ⟨k, rfl⟩ : ∃ m, k = m + 1 := ⟨k - 1, by omega⟩
    have hit : i < t.length := by omega
    have hpl : p.length ≤ i := by
      rw [hp]; refine Nat.le_trans (List.length_filter_le _ _) ?_; simp; omega
    have htk : t.take (i + 1) = t.take i ++ [t[i]] := (List.take_append_getElem hit).symm
    simp only [laws_FnPunycodeKeeps.l0]
    rw [if_pos (by omega), if_pos (by omega), if_pos (by rw [bs_size]; omega), wrap_id (x := (i : Int) + 1) (by omega) (by omega), bt_bs t i hit]
    have hex : (bs t).extract ((i : Int)).toNat (((i : Int) + 1)).toNat = bs [t[i]] := by
      rw [bs_piece, show (((i : Int) + 1)).toNat - ((i : Int)).toNat = 1 from by omega, Int.toNat_natCast, List.drop_eq_getElem_cons hit]
      rfl
    by_cases hc : ((t[i]).toNat : Int) < 128
    · rw [if_pos hc, if_pos (by omega), if_pos (by rw [bs_size]; omega), hex, if_pos (by rw [bs_size, bs_size]; simp; omega), bs_app]
      exact ih (i + 1) _ k (by omega) (by omega) (by rw [htk, List.filter_append, ← hp, List.filter_cons_of_pos (by unfold Dm.low; simp; omega)]; rfl)
    · rw [if_neg hc]
      exact ih (i + 1) _ k (by omega) (by omega) (by rw [htk, List.filter_append, ← hp, List.filter_cons_of_neg (by unfold Dm.low; simp; omega)]; simp)

theorem deltas_len : ∀ (fuel : Nat) (out : List Int) (i n bias : Int) (enc : List UInt8) (res : List Int), Dm.deltas fuel out i n bias enc = some res → res.length ≤ out.length + fuel
  | 0, _, _, _, _, _, _, h => by unfold Dm.deltas at h; cases h
  | fuel + 1, out, i, n, bias, enc, res, h => by
    unfold Dm.deltas at h
    by_cases he : enc = []
    · rw [if_pos he] at h; injection h with h; subst h; omega
    · rw [if_neg he] at h
      cases hd : Dm.delta bias 36 i 1 enc with
      | none => rw [hd] at h; cases h
      | some q =>
        obtain ⟨j, r⟩ := q
        rw [hd] at h
        simp only at h
        split at h
        · cases h
        · split at h
          · cases h
          · have := deltas_len fuel _ _ _ _ _ res h
            simp only [List.length_append, List.length_cons, List.length_take, List.length_drop] at this
            omega
theorem expand_len (l : List UInt8) (out : List Int) (h : Dm.expand l = some out) : out.length ≤ 2 * l.length + 1 := by
  unfold Dm.expand at h
  split at h
  · have := deltas_len _ _ _ _ _ _ _ h
    simp only [List.length_map, List.length_take] at this
    omega
  · have := deltas_len _ _ _ _ _ _ _ h
    simp only [List.length_nil] at this
    omega
theorem encode_len (n : Int) : (Utf8.encode n).data.toList.length ≤ 4 := by
  unfold Utf8.encode
  generalize (if Utf8.valid n = true then n.toNat else Utf8.runeError) = c
  simp only []
  split
  · simp
  · split
    · simp
    · split <;> simp
theorem runes_len (ns : List Int) : (runesBytes ns).data.toList.length ≤ 4 * ns.length := by
  rw [Dm.runes_list]
  induction ns with
  | nil => simp
  | cons n ns ih => rw [List.flatMap_cons, List.length_append, List.length_cons]; have := encode_len n; omega

theorem FnPunycodeKeeps : laws_FnPunycodeKeeps.Pure := by
  intro l0 l1 hm0 _ hw0 hm1 _ hw1
  by_cases h0 : (l0.length : Int) > 2147483647
  · exact ⟨1, by unfold laws_FnPunycodeKeeps.f; rw [if_pos h0]; rfl⟩
  · by_cases h1 : (l1.length : Int) > 2147483647
    · exact ⟨1, by unfold laws_FnPunycodeKeeps.f; rw [if_neg h0, decide_eq_true h1]; rfl⟩
    · obtain ⟨K, hK⟩ : ∃ K : Nat, 19999 ≤ K := ⟨19999, Nat.le_refl _⟩
      refine ⟨K + 1, ?_⟩
      unfold laws_FnPunycodeKeeps.f
      rw [if_neg h0, decide_eq_false h1]
      simp only [laws_FnPunycodeKeeps.j0]
      obtain ⟨a, ea, la, lowa⟩ := plain_f ((([1] : List Int) ++ l0).take 1000) (wf_take (wf_one hw0) _) (by simp; omega) K (by omega)
      obtain ⟨d, ed, ld, nd⟩ := puny_f (([1] : List Int) ++ l1) (wf_one hw1) K (by omega)
      rw [if_neg (by simp)]
      simp only [Option.bind_some, cut_f, ea, ed]
      rw [if_pos (by simp; omega), if_pos (by rw [bs_size]; omega), if_pos (by simp; omega), bs_one, bs_app, if_pos (by rw [bs_size, bs_size]; simp; omega), bs_app, List.append_assoc, List.singleton_append]
      unfold impl_Punycode.f
      have htk : (a ++ 95 :: d).take (Dm.lastU (a ++ 95 :: d)).toNat = a := by rw [Dm.lastU_app a d nd]; simp
      rw [bs_dl, htk, if_pos ⟨by rw [bs_size]; simp; omega, lowa⟩]
      cases hx : Dm.expand (a ++ 95 :: d) with
      | none => exact keeps_loop a [] (by simp) false (by intro h; cases h) 0 0 [] K rfl (by omega) rfl
      | some out =>
        obtain ⟨t, ht, hz⟩ := bs_of (runesBytes out)
        have hlow := Dm.expand_low a d lowa nd out hx
        have hlen := runes_len out
        have hel := expand_len _ out hx
        simp only [List.length_append, List.length_cons] at hel
        simp only [Option.bind_some]
        rw [ht] at hlow hlen ⊢
        rw [bs_dl] at hlow hlen
        rw [bs_size]
        exact keeps_loop a t (by omega) true (fun _ => hlow) t.length 0 [] K (by omega) (by omega) (by simp)

end Go.Proofs.Ytfblehpiecialaa.Pure
