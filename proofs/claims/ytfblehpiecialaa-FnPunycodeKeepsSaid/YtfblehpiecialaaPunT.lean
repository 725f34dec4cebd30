/- Plain law on Punycode: the characters below 128 of what is read are those before the last underscore. -/
import Derived.Test.YtfblehpiecialaaPuny
import Derived.Laws.Cover4
namespace Go.Proofs.Ytfblehpiecialaa.Dm
set_option linter.unusedVariables false
set_option linter.unusedSimpArgs false
open Go.RowKit

theorem lastU_none : ∀ (d : List UInt8), (∀ c ∈ d, c ≠ 95) → lastU d = -1
  | [], _ => rfl
  | c :: r, h => by
    have e := lastU_none r (fun x hx => h x (List.mem_cons_of_mem _ hx))
    unfold lastU
    rw [e, if_neg (by omega), if_neg (h c (by simp))]
theorem lastU_app (a d : List UInt8) (hd : ∀ c ∈ d, c ≠ 95) : lastU (a ++ 95 :: d) = a.length := by
  induction a with
  | nil => show lastU (95 :: d) = 0; unfold lastU; rw [lastU_none d hd]; simp
  | cons c a ih => show lastU (c :: (a ++ 95 :: d)) = _; unfold lastU; rw [ih, if_pos (by omega)]; simp

theorem encode_low (r : Int) (h0 : 0 ≤ r) (h1 : r < 128) : (Utf8.encode r).data.toList = [UInt8.ofNat r.toNat] := by
  have hv : Utf8.valid r = true := by unfold Utf8.valid; simp; omega
  unfold Utf8.encode
  simp only [hv, if_true]
  rw [if_pos (by omega)]
theorem encode_high (r : Int) (h : 128 ≤ r) : ∀ b ∈ (Utf8.encode r).data.toList, 128 ≤ b.toNat := by
  unfold Utf8.encode
  have hc : ¬ (if Utf8.valid r then r.toNat else Utf8.runeError) < 128 := by split <;> simp [Utf8.runeError] <;> omega
  generalize hg : (if Utf8.valid r then r.toNat else Utf8.runeError) = c at hc
  have hcl : c < 1114112 := by
    rw [← hg]; unfold Utf8.valid Utf8.runeError
    split
    · rename_i hv; simp at hv; omega
    · omega
  simp only []
  rw [if_neg hc]
  intro b
  split
  · simp only [List.mem_cons, List.not_mem_nil, or_false]
    rintro (rfl | rfl) <;> simp <;> omega
  · split
    · simp only [List.mem_cons, List.not_mem_nil, or_false]
      rintro (rfl | rfl | rfl) <;> simp <;> omega
    · simp only [List.mem_cons, List.not_mem_nil, or_false]
      rintro (rfl | rfl | rfl | rfl) <;> simp <;> omega

theorem runes_fold (ns : List Int) : ∀ r : ByteArray, (ns.foldl (fun r n => r ++ Utf8.encode n) r).data.toList = r.data.toList ++ ns.flatMap (fun n => (Utf8.encode n).data.toList) := by
  induction ns with
  | nil => intro r; simp
  | cons n ns ih => intro r; rw [List.foldl_cons, ih]; simp [ByteArray.data_append]
theorem runes_list (ns : List Int) : (runesBytes ns).data.toList = ns.flatMap (fun n => (Utf8.encode n).data.toList) := by
  unfold runesBytes
  rw [runes_fold]
  simp

def low (c : UInt8) : Bool := decide (c.toNat < 128)
def lowI (n : Int) : Bool := decide (n < 128)

theorem runes_low (ns : List Int) (h : ∀ n ∈ ns, 0 ≤ n) : (runesBytes ns).data.toList.filter low = (ns.filter lowI).map (fun n => UInt8.ofNat n.toNat) := by
  rw [runes_list]
  induction ns with
  | nil => rfl
  | cons n ns ih =>
    rw [List.flatMap_cons, List.filter_append, ih (fun x hx => h x (List.mem_cons_of_mem _ hx))]
    have h0 := h n (by simp)
    by_cases hn : n < 128
    · rw [encode_low n h0 hn, List.filter_cons_of_pos (by unfold low; simp; omega), List.filter_cons_of_pos (by unfold lowI; simpa using hn)]
      rfl
    · have e : (Utf8.encode n).data.toList.filter low = [] := by
        rw [List.filter_eq_nil_iff]
        intro b hb
        have := encode_high n (by omega) b hb
        unfold low; simp; omega
      rw [e, List.filter_cons_of_neg (by unfold lowI; simpa using hn)]
      rfl

theorem delta_ge (bias : Int) : ∀ (l : List UInt8) (k i w j : Int) (r : List UInt8), 0 ≤ i → 0 ≤ w → delta bias k i w l = some (j, r) → i ≤ j
  | [], _, _, _, _, _, _, _, h => by unfold delta at h; cases h
  | c :: l, k, i, w, j, r, hi, hw, h => by
    unfold delta at h
    cases hp : pdig c with
    | none => rw [hp] at h; cases h
    | some g =>
      rw [hp] at h
      obtain ⟨g0, g1⟩ := pdig_range hp
      obtain ⟨t0, t1⟩ := thr_range k bias
      have hm : 0 ≤ g * w := Int.mul_nonneg g0 hw
      simp only at h
      by_cases hc : g < thr k bias
      · rw [if_pos hc] at h
        injection h with h; injection h with h _; omega
      · rw [if_neg hc] at h
        by_cases hb : w ≥ 59652323
        · rw [if_pos hb] at h; cases h
        · rw [if_neg hb] at h
          have := delta_ge bias l (k + 36) (i + g * w) (w * (36 - thr k bias)) j r (by omega) (Int.mul_nonneg hw (by omega)) h
          omega

theorem deltas_low : ∀ (fuel : Nat) (out : List Int) (i n bias : Int) (enc : List UInt8) (res : List Int), (∀ x ∈ out, 0 ≤ x) → 0 ≤ i → 128 ≤ n → deltas fuel out i n bias enc = some res →
    (∀ x ∈ res, 0 ≤ x) ∧ res.filter lowI = out.filter lowI
  | 0, _, _, _, _, _, _, _, _, _, h => by unfold deltas at h; cases h
  | fuel + 1, out, i, n, bias, enc, res, ho, hi, hn, h => by
    unfold deltas at h
    by_cases he : enc = []
    · rw [if_pos he] at h; injection h with h; subst h; exact ⟨ho, rfl⟩
    · rw [if_neg he] at h
      cases hd : delta bias 36 i 1 enc with
      | none => rw [hd] at h; cases h
      | some q =>
        obtain ⟨j, r⟩ := q
        rw [hd] at h
        have hj := delta_ge bias enc 36 i 1 j r hi (by omega) hd
        simp only at h
        have hm : 0 ≤ j / ((out.length : Int) + 1) := Int.ediv_nonneg (by omega) (by omega)
        have hr : 0 ≤ j % ((out.length : Int) + 1) := Int.emod_nonneg _ (by omega)
        split at h
        · cases h
        · split at h
          · cases h
          · have := deltas_low fuel _ _ _ _ _ res ?_ (by omega) (by omega) h
            · refine ⟨this.1, this.2.trans ?_⟩
              rw [List.filter_append, List.filter_cons_of_neg (by unfold lowI; simp; omega), ← List.filter_append, List.take_append_drop]
            · intro x hx
              rcases List.mem_append.1 hx with hx | hx
              · exact ho x (List.mem_of_mem_take hx)
              · rcases List.mem_cons.1 hx with rfl | hx
                · omega
                · exact ho x (List.mem_of_mem_drop hx)

theorem expand_low (a d : List UInt8) (ha : ∀ c ∈ a, c.toNat < 128) (hd : ∀ c ∈ d, c ≠ 95) (out : List Int) (h : expand (a ++ 95 :: d) = some out) :
    (runesBytes out).data.toList.filter low = a := by
  unfold expand at h
  rw [lastU_app a d hd, if_pos (by omega)] at h
  have e : (a ++ 95 :: d).take ((a.length : Int)).toNat = a := by simp
  rw [e] at h
  have := deltas_low _ _ _ _ _ _ out (by intro x hx; rw [List.mem_map] at hx; obtain ⟨c, _, rfl⟩ := hx; omega) (by omega) (by omega) h
  rw [runes_low out this.1, this.2]
  clear h this e
  induction a with
  | nil => rfl
  | cons c a ih =>
    have hc := ha c (by simp)
    rw [List.map_cons, List.filter_cons_of_pos (by unfold lowI; simp; omega), List.map_cons, ih (fun x hx => ha x (List.mem_cons_of_mem _ hx))]
    simp

/-- The example of the statement. -/
theorem expand_godel : expand [103, 100, 101, 108, 95, 53, 113, 97] = some [103, 246, 100, 101, 108] := by
  simp [expand, lastU, deltas, delta, pdig, thr, adapted, small, validRune]

end Go.Proofs.Ytfblehpiecialaa.Dm
