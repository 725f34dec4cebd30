/- Punycode that is written is read, in plain Lean: one delta, the bias. Punycode that is written is read, in plain Lean: the characters in their order. Plain law on Punycode: the characters below 128 of what is read are those before the last underscore. Punycode that is written is read, in plain Lean: all passes, and the whole text. Punycode of one character beyond 128 within plain ones, in plain Lean. -/
import Derived.Test.YtkhbmkccbhkolaaGreatDoorM2
import Derived.Laws.Cover4
namespace Go.Proofs.YtkhbmkccbhkolaaGreatDoor.Dm
set_option linter.unusedVariables false
set_option linter.unusedSimpArgs false
open Go.RowKit

/-- The character of a digit. -/
def pch (d : Int) : UInt8 := if d < 26 then UInt8.ofNat (97 + d.toNat) else UInt8.ofNat (22 + d.toNat)
theorem pch_dig : ∀ d : Nat, d < 36 → pdig (pch (d : Int)) = some (d : Int) ∧ pch (d : Int) ≠ 95 := by decide
theorem pdig_pch {d : Int} (h0 : 0 ≤ d) (h1 : d < 36) : pdig (pch d) = some d := by
  have := (pch_dig d.toNat (by omega)).1
  rwa [Int.toNat_of_nonneg h0] at this
theorem pch_us {d : Int} (h0 : 0 ≤ d) (h1 : d < 36) : pch d ≠ 95 := by
  have := (pch_dig d.toNat (by omega)).2
  rwa [Int.toNat_of_nonneg h0] at this
/-- The digits of a delta. -/
def encD : Nat → Int → Nat → Int → List UInt8
  | 0, _, _, _ => []
  | n + 1, q, p, bias =>
    if q < thr (36 * p) bias then [pch q]
    else pch (thr (36 * p) bias + (q - thr (36 * p) bias) % (36 - thr (36 * p) bias)) :: encD n ((q - thr (36 * p) bias) / (36 - thr (36 * p) bias)) (p + 1) bias
theorem encD_us : ∀ (n : Nat) (q : Int) (p : Nat) (bias : Int), 0 ≤ q → ∀ c ∈ encD n q p bias, c ≠ 95 := by
  intro n
  induction n with
  | zero => intro q p bias _ c h; simp [encD] at h
  | succ n ih =>
    intro q p bias h0 c hc
    have ht := thr_range (36 * p) bias
    simp only [encD] at hc
    generalize thr (36 * p) bias = t at *
    split at hc
    · rw [List.mem_singleton] at hc; rw [hc]; exact pch_us h0 (by omega)
    · rcases List.mem_cons.1 hc with rfl | hc
      · have h1 := Int.emod_nonneg (q - t) (b := 36 - t) (by omega)
        have h2 := Int.emod_lt_of_pos (q - t) (b := 36 - t) (by omega)
        exact pch_us (by omega) (by omega)
      · exact ih _ _ _ (Int.ediv_nonneg (by omega) (by omega)) c hc
theorem pow_step (p : Nat) (h : 1 ≤ p) (w t : Int) (h0 : 0 < w) (hw : w ≤ (35 : Int) ^ (p - 1)) (ht : 1 ≤ t) (ht2 : t ≤ 26) : 0 < w * (36 - t) ∧ w * (36 - t) ≤ (35 : Int) ^ (p + 1 - 1) := by
  refine ⟨Int.mul_pos h0 (by omega), ?_⟩
  have e : (35 : Int) ^ (p + 1 - 1) = (35 : Int) ^ (p - 1) * 35 := by
    rw [← Int.pow_succ]; congr 1; omega
  rw [e]
  exact Int.mul_le_mul hw (by omega) (by omega) (by omega)
theorem weight_small (p : Nat) (w q bias : Int) (h0 : 0 < w) (hw : w ≤ (35 : Int) ^ (p - 1)) (hb : bias ≤ 213) (hq : q * w ≤ 1200000000) (ht : ¬ q < thr (36 * p) bias) : ¬ w ≥ 59652323 := by
  intro hw2
  have hp : 7 ≤ p := by
    by_cases h : 7 ≤ p
    · exact h
    · have h1 : (35 : Int) ^ (p - 1) ≤ (35 : Int) ^ 5 := by
        have := Nat.pow_le_pow_right (n := 35) (by decide) (show p - 1 ≤ 5 by omega)
        exact_mod_cast this
      have h2 : (35 : Int) ^ 5 = 52521875 := by decide
      omega
  have ht2 : thr (36 * p) bias = 26 := by
    unfold thr
    rw [if_neg (by omega), if_pos (by omega)]
  rw [ht2] at ht
  have h1 : 26 * 59652323 ≤ q * w := Int.mul_le_mul (by omega) hw2 (by omega) (by omega)
  omega
theorem delta_read (bias D : Int) (W : Nat → Int → Prop) (hst0 : ∀ p w, 1 ≤ p → W p w → 0 < w ∧ W (p + 1) (w * (36 - thr (36 * p) bias)))
    (hsm0 : ∀ p w q, 1 ≤ p → W p w → q * w ≤ D → ¬ q < thr (36 * p) bias → ¬ w ≥ 59652323) (rest : List UInt8) : ∀ (n : Nat) (q : Int) (p : Nat) (i w : Int), 0 ≤ q → q < n → 1 ≤ p → W p w → q * w ≤ D →
    delta bias (36 * p) i w (encD n q p bias ++ rest) = some (i + q * w, rest) := by
  intro n
  induction n with
  | zero => intro q p i w h0 h1; omega
  | succ n ih =>
    intro q p i w h0 hn hp hw hq
    have ht := thr_range (36 * p) bias
    have hws := hsm0 p w q hp hw hq
    have hst := hst0 p w hp hw
    have hw0 := hst.1
    simp only [encD]
    generalize hT : thr (36 * p) bias = t at *
    by_cases hc : q < t
    · rw [if_pos hc]
      simp only [List.singleton_append, delta]
      rw [pdig_pch h0 (by omega)]
      simp only [hT]
      rw [if_pos hc]
    · rw [if_neg hc]
      have h1 := Int.emod_nonneg (q - t) (b := 36 - t) (by omega)
      have h2 := Int.emod_lt_of_pos (q - t) (b := 36 - t) (by omega)
      have h3 := Int.mul_ediv_add_emod (q - t) (36 - t)
      have h4 : 0 ≤ (q - t) / (36 - t) := Int.ediv_nonneg (by omega) (by omega)
      have h5 : (q - t) / (36 - t) ≤ q - t := Int.ediv_le_self _ (by omega)
      simp only [List.cons_append, delta]
      rw [pdig_pch (by omega) (by omega)]
      simp only [hT]
      rw [if_neg (by omega), if_neg (hws hc)]
      generalize (q - t) % (36 - t) = g at *
      generalize (q - t) / (36 - t) = q' at *
      have h6 : q' * (w * (36 - t)) ≤ q * w := by
        rw [show q' * (w * (36 - t)) = ((36 - t) * q') * w from by rw [Int.mul_comm w, ← Int.mul_assoc, Int.mul_comm q']]
        exact Int.mul_le_mul_of_nonneg_right (by omega) (by omega)
      have h7 := ih q' (p + 1) (i + (t + g) * w) (w * (36 - t)) h4 (by omega) (by omega) hst.2 (by omega)
      rw [show (36 * (p : Int) + 36) = 36 * ((p + 1 : Nat) : Int) from by omega]
      rw [h7]
      have h8 : (t + g) * w + q' * (w * (36 - t)) = q * w := by
        rw [show q' * (w * (36 - t)) = ((36 - t) * q') * w from by rw [Int.mul_comm w, ← Int.mul_assoc, Int.mul_comm q'], ← Int.add_mul]
        congr 1
        omega
      rw [Int.add_assoc, h8]

/-- Any delta up to so much, at any bias that comes. -/
theorem delta_any (bias : Int) (hb : bias ≤ 213) (rest : List UInt8) (q i : Int) (h0 : 0 ≤ q) (hq : q ≤ 1200000000) : delta bias 36 i 1 (encD (q.toNat + 1) q 1 bias ++ rest) = some (i + q, rest) := by
  have := delta_read bias 1200000000 (fun p w => 0 < w ∧ w ≤ (35 : Int) ^ (p - 1))
    (fun p w hp h => ⟨h.1, pow_step p hp w _ h.1 h.2 (thr_range _ _).1 (thr_range _ _).2⟩)
    (fun p w q hp h hq ht => weight_small p w q bias h.1 h.2 hb hq ht) rest (q.toNat + 1) q 1 i 1 h0 (by omega) (by omega) (by decide) (by omega)
  rw [Int.mul_one] at this
  exact this
/-- A greater one, at the first bias. -/
def W72 (p : Nat) (w : Int) : Prop := 0 < w ∧ (p = 1 → w = 1) ∧ (p = 2 → w = 35) ∧ (p = 3 → w = 1225) ∧ (p = 4 → w = 12250) ∧ (p = 5 → w = 122500) ∧ (p = 6 → w = 1225000) ∧ (p = 7 → w = 12250000) ∧ (8 ≤ p → 122500000 ≤ w)
theorem thr72 (p : Nat) (h : 3 ≤ p) : thr (36 * p) 72 = 26 := by unfold thr; rw [if_neg (by omega), if_pos (by omega)]
theorem W72_step (p : Nat) (w : Int) (hp : 1 ≤ p) (h : W72 p w) : 0 < w ∧ W72 (p + 1) (w * (36 - thr (36 * p) 72)) := by
  obtain ⟨h0, h1, h2, h3, h4, h5, h6, h7, h8⟩ := h
  refine ⟨h0, ?_⟩
  have hc : p = 1 ∨ p = 2 ∨ 3 ≤ p := by omega
  rcases hc with rfl | rfl | hc
  · rw [h1 rfl]; unfold W72; exact ⟨by decide, by decide, by decide, by decide, by decide, by decide, by decide, by decide, by decide⟩
  · rw [h2 rfl]; unfold W72; exact ⟨by decide, by decide, by decide, by decide, by decide, by decide, by decide, by decide, by decide⟩
  · rw [thr72 p hc, show w * (36 - 26) = w * 10 from rfl]
    unfold W72
    refine ⟨by omega, by omega, by omega, by omega, ?_, ?_, ?_, ?_, ?_⟩
    · intro e; have := h3 (by omega); omega
    · intro e; have := h4 (by omega); omega
    · intro e; have := h5 (by omega); omega
    · intro e; have := h6 (by omega); omega
    · intro e
      by_cases h9 : p = 7
      · have := h7 h9; omega
      · have := h8 (by omega); omega
theorem W72_small (p : Nat) (w q : Int) (hp : 1 ≤ p) (h : W72 p w) (hq : q * w ≤ 2400000000) (ht : ¬ q < thr (36 * p) 72) : ¬ w ≥ 59652323 := by
  intro hw2
  obtain ⟨h0, h1, h2, h3, h4, h5, h6, h7, h8⟩ := h
  by_cases h9 : 8 ≤ p
  · rw [thr72 p (by omega)] at ht
    have := h8 h9
    have h1 : 26 * 122500000 ≤ q * w := Int.mul_le_mul (by omega) this (by omega) (by omega)
    omega
  · have : p = 1 ∨ p = 2 ∨ p = 3 ∨ p = 4 ∨ p = 5 ∨ p = 6 ∨ p = 7 := by omega
    rcases this with e | e | e | e | e | e | e
    · have := h1 e; omega
    · have := h2 e; omega
    · have := h3 e; omega
    · have := h4 e; omega
    · have := h5 e; omega
    · have := h6 e; omega
    · have := h7 e; omega
theorem delta_first (rest : List UInt8) (q i : Int) (h0 : 0 ≤ q) (hq : q ≤ 2400000000) : delta 72 36 i 1 (encD (q.toNat + 1) q 1 72 ++ rest) = some (i + q, rest) := by
  have := delta_read 72 2400000000 W72 W72_step W72_small rest (q.toNat + 1) q 1 i 1 h0 (by omega) (by omega)
    ⟨by decide, by decide, by decide, by decide, by decide, by decide, by decide, by decide, by decide⟩ (by omega)
  rw [Int.mul_one] at this
  exact this

/-! ### the bias -/
theorem small_le : ∀ (m : Nat) (d k : Int), 0 ≤ d → d ≤ 455 * (35 : Int) ^ m → 0 ≤ (small d k).1 ∧ (small d k).1 ≤ 455 ∧ k ≤ (small d k).2 ∧ (small d k).2 ≤ k + 36 * m := by
  intro m
  induction m with
  | zero => intro d k h0 h1; unfold small; rw [if_neg (by simp at h1; omega)]; simp at h1 ⊢; omega
  | succ m ih =>
    intro d k h0 h1
    unfold small
    by_cases h : 455 < d
    · rw [if_pos h]
      have h2 : d / 35 ≤ 455 * (35 : Int) ^ m := by
        rw [Int.pow_succ, ← Int.mul_assoc] at h1
        exact Int.ediv_le_of_le_mul (by omega) h1
      have := ih (d / 35) (k + 36) (by omega) h2
      omega
    · rw [if_neg h]
      omega
theorem adapted_le (d many : Int) (first : Bool) (h0 : 0 ≤ d) (h1 : d ≤ 4000000000) (hm : 1 ≤ many) : 0 ≤ adapted d many first ∧ adapted d many first ≤ 213 := by
  show 0 ≤ (small ((if first = true then d / 700 else d / 2) + (if first = true then d / 700 else d / 2) / many) 0).2 + 36 * (small ((if first = true then d / 700 else d / 2) + (if first = true then d / 700 else d / 2) / many) 0).1 / ((small ((if first = true then d / 700 else d / 2) + (if first = true then d / 700 else d / 2) / many) 0).1 + 38) ∧ (small ((if first = true then d / 700 else d / 2) + (if first = true then d / 700 else d / 2) / many) 0).2 + 36 * (small ((if first = true then d / 700 else d / 2) + (if first = true then d / 700 else d / 2) / many) 0).1 / ((small ((if first = true then d / 700 else d / 2) + (if first = true then d / 700 else d / 2) / many) 0).1 + 38) ≤ 213
  have hd : 0 ≤ (if first = true then d / 700 else d / 2) ∧ (if first = true then d / 700 else d / 2) ≤ 2000000000 := by split <;> omega
  generalize (if first = true then d / 700 else d / 2) = e at *
  have h2 : 0 ≤ e / many := Int.ediv_nonneg (by omega) (by omega)
  have h3 : e / many ≤ e := Int.ediv_le_self _ (by omega)
  have h4 := small_le 5 (e + e / many) 0 (by omega) (by rw [show (455 : Int) * 35 ^ 5 = 23897453125 from by decide]; omega)
  generalize small (e + e / many) 0 = s at *
  have h5 : 36 * s.1 / (s.1 + 38) ≤ 33 := by
    have : 36 * s.1 / (s.1 + 38) < 34 := Int.ediv_lt_of_lt_mul (by omega) (by omega)
    omega
  have h6 : 0 ≤ 36 * s.1 / (s.1 + 38) := Int.ediv_nonneg (by omega) (by omega)
  omega
end Go.Proofs.YtkhbmkccbhkolaaGreatDoor.Dm
namespace Go.Proofs.YtkhbmkccbhkolaaGreatDoor.Dm
set_option linter.unusedVariables false
set_option linter.unusedSimpArgs false
open Go.RowKit

/-- From so much that was read on, the digits enc are read as res. -/
def Rd (out : List Int) (i n bias : Int) (enc : List UInt8) (res : List Int) : Prop := (∀ f, enc.length < f → deltas f out i n bias enc = some res) ∧ ∀ c ∈ enc, c ≠ 95
theorem Rd.nil (out : List Int) (i n bias : Int) : Rd out i n bias [] out := by
  refine ⟨?_, by simp⟩
  intro f hf
  obtain ⟨g, rfl⟩ : ∃ g, f = g + 1 := ⟨f - 1, by simp at hf; omega⟩
  simp only [deltas]
  rw [if_pos trivial]
/-- One more character. -/
theorem Rd.step {out : List Int} {i n bias q now : Int} {ds rest : List UInt8} {cnt : Nat} {res : List Int}
    (hd : delta bias 36 i 1 (ds ++ rest) = some (i + q, rest)) (hne : ds ≠ []) (hus : ∀ c ∈ ds, c ≠ 95) (hq : i + q = (now - n) * ((out.length : Int) + 1) + cnt) (hn : n ≤ now) (hc : cnt ≤ out.length) (h0 : 0 ≤ now) (hm : now ≤ 1114111) (hv : validRune now = true)
    (h : Rd (out.take cnt ++ now :: out.drop cnt) (cnt + 1) now (adapted q ((out.length : Int) + 1) (i == 0)) rest res) : Rd out i n bias (ds ++ rest) res := by
  refine ⟨?_, fun c hc => by
    rcases List.mem_append.1 hc with hc | hc
    · exact hus c hc
    · exact h.2 c hc⟩
  intro f hf
  obtain ⟨g, rfl⟩ : ∃ g, f = g + 1 := ⟨f - 1, by omega⟩
  have hl : 0 < ds.length := List.length_pos_iff.2 hne
  rw [List.length_append] at hf
  have h1 : (i + q) / ((out.length : Int) + 1) = now - n := by
    rw [hq, Int.add_comm, Int.add_mul_ediv_right _ _ (by omega), Int.ediv_eq_zero_of_lt (by omega) (by omega)]; omega
  have h2 : (i + q) % ((out.length : Int) + 1) = cnt := by
    rw [hq, Int.add_comm, Int.add_mul_emod_self_right, Int.emod_eq_of_lt (by omega) (by omega)]
  simp only [deltas]
  rw [if_neg (by intro e; rw [List.append_eq_nil_iff] at e; exact hne e.1), hd]
  simp only [h1, h2]
  rw [show n + (now - n) = now from by omega, if_neg (by omega), if_neg (by rw [hv]; decide), Int.toNat_natCast, show i + q - i = q from by omega]
  exact h.1 g (by omega)

/-- One pass over the characters: those that are now are written. -/
def pass (now : Int) : List Int → Int → Int → Int → Bool → List UInt8 × (Int × Int × Int × Bool)
  | [], many, d, bias, first => ([], many, d, bias, first)
  | c :: r, many, d, bias, first =>
    if c < now then pass now r many (d + 1) bias first
    else if c = now then
      (encD (d.toNat + 1) d 1 bias ++ (pass now r (many + 1) 0 (adapted d (many + 1) first) false).1, (pass now r (many + 1) 0 (adapted d (many + 1) first) false).2)
    else pass now r many d bias first
def le (m : Int) (c : Int) : Bool := decide (c ≤ m)
def lt (m : Int) (c : Int) : Bool := decide (c < m)
/-- How many there are below a bound. -/
theorem encD_ne (n : Nat) (q : Int) (p : Nat) (bias : Int) : encD (n + 1) q p bias ≠ [] := by
  simp only [encD]; split <;> simp
/-- What a pass writes is read. -/
theorem pass_read (now D : Int) (hnow : 0 ≤ now) (hnm : now ≤ 1114111) (hv : validRune now = true) (rest : List UInt8) (res : List Int) :
    ∀ (r A : List Int) (n i d bias : Int) (first : Bool),
      (∀ c ∈ A, c ≤ now) → 0 ≤ i → i ≤ (A ++ r.filter (lt now)).length → (0 ≤ n ∧ n ≤ now) → (first = (i == 0)) → 0 ≤ d →
      d = (now - n) * (((A ++ r.filter (lt now)).length : Int) + 1) + A.length - i →
      (∀ q : Int, ∀ rest : List UInt8, ∀ i : Int, 0 ≤ q → (q ≤ d + r.length ∧ True) → delta bias 36 i 1 (encD (q.toNat + 1) q 1 bias ++ rest) = some (i + q, rest)) →
      (∀ q b : Int, 0 ≤ q → q ≤ r.length → 0 ≤ b → b ≤ 213 → ∀ rest : List UInt8, ∀ i : Int, delta b 36 i 1 (encD (q.toNat + 1) q 1 b ++ rest) = some (i + q, rest)) →
      d + r.length ≤ 1200000000 →
      (∀ n' i' : Int, (0 ≤ n' ∧ n' ≤ now) → 0 ≤ i' → i' ≤ (A ++ r.filter (le now)).length → (pass now r (A ++ r.filter (lt now)).length d bias first).2.2.2.2 = (i' == 0) →
        (pass now r (A ++ r.filter (lt now)).length d bias first).2.2.1 = (now - n') * (((A ++ r.filter (le now)).length : Int) + 1) + (A ++ r.filter (le now)).length - i' →
        Rd (A ++ r.filter (le now)) i' n' (pass now r (A ++ r.filter (lt now)).length d bias first).2.2.2.1 rest res) →
      Rd (A ++ r.filter (lt now)) i n bias ((pass now r (A ++ r.filter (lt now)).length d bias first).1 ++ rest) res := by
  intro r
  induction r with
  | nil =>
    intro A n i d bias first hA h0 h1 hn hf hd0 hd hdel hdel2 hbd hfin
    simp only [List.filter_nil, List.append_nil, pass] at hfin hd h1 ⊢
    exact hfin n i hn h0 h1 hf hd
  | cons c r ih =>
    intro A n i d bias first hA h0 h1 hn hf hd0 hd hdel hdel2 hbd hfin
    by_cases c1 : c < now
    · have hlt : (c :: r).filter (lt now) = c :: r.filter (lt now) := List.filter_cons_of_pos (decide_eq_true c1)
      have hle : (c :: r).filter (le now) = c :: r.filter (le now) := List.filter_cons_of_pos (decide_eq_true (by omega))
      rw [hlt, hle] at hfin
      rw [hlt] at hd h1 ⊢
      have e1 : ∀ F : List Int, A ++ c :: F = (A ++ [c]) ++ F := by intro F; simp
      rw [e1 (r.filter (lt now))] at hd h1 ⊢
      rw [e1 (r.filter (le now)), e1 (r.filter (lt now))] at hfin
      have hp : pass now (c :: r) ((A ++ [c] ++ r.filter (lt now)).length : Int) d bias first = pass now r ((A ++ [c] ++ r.filter (lt now)).length : Int) (d + 1) bias first := by simp only [pass]; rw [if_pos c1]
      rw [hp] at hfin ⊢
      refine ih (A ++ [c]) n i (d + 1) bias first ?_ h0 h1 hn hf (by omega) ?_ ?_ ?_ ?_ hfin
      · intro x hx
        rcases List.mem_append.1 hx with hx | hx
        · exact hA x hx
        · rw [List.mem_singleton] at hx; omega
      · rw [hd]; simp only [List.length_append, List.length_singleton]; push_cast; omega
      · intro q rest i hq hq2; exact hdel q rest i hq ⟨by simp; omega, trivial⟩
      · intro q b hq hq2; exact hdel2 q b hq (by simp; omega)
      · simp at hbd; omega
    · by_cases c2 : c = now
      · subst c2
        have hlt : (c :: r).filter (lt c) = r.filter (lt c) := List.filter_cons_of_neg (by unfold lt; rw [decide_eq_true_eq]; omega)
        have hle : (c :: r).filter (le c) = c :: r.filter (le c) := List.filter_cons_of_pos (decide_eq_true (Int.le_refl _))
        rw [hlt, hle] at hfin
        rw [hlt] at hd ⊢
        have e1 : ∀ F : List Int, A ++ c :: F = (A ++ [c]) ++ F := by intro F; simp
        rw [e1 (r.filter (le c))] at hfin
        have hm : ((A ++ [c] ++ r.filter (lt c)).length : Int) = ((A ++ r.filter (lt c)).length : Int) + 1 := by simp only [List.length_append, List.length_singleton]; omega
        have hp : pass c (c :: r) ((A ++ r.filter (lt c)).length : Int) d bias first = (encD (d.toNat + 1) d 1 bias ++ (pass c r (((A ++ r.filter (lt c)).length : Int) + 1) 0 (adapted d (((A ++ r.filter (lt c)).length : Int) + 1) first) false).1, (pass c r (((A ++ r.filter (lt c)).length : Int) + 1) 0 (adapted d (((A ++ r.filter (lt c)).length : Int) + 1) first) false).2) := by
          simp only [pass]; rw [if_neg c1, if_pos trivial]
        rw [hp] at hfin ⊢
        simp only at hfin ⊢
        rw [← hm] at hfin ⊢
        obtain ⟨b0, b1⟩ := adapted_le d ((A ++ [c] ++ r.filter (lt c)).length : Int) first hd0 (by omega) (by rw [hm]; omega)
        rw [List.append_assoc]
        refine Rd.step (cnt := A.length) (q := d) (now := c) (hdel d _ i hd0 ⟨by omega, trivial⟩) (encD_ne _ _ _ _) (encD_us _ _ _ _ hd0) (by rw [hd]; omega) hn.2 (by rw [List.length_append]; omega) hnow hnm hv ?_
        rw [show (A ++ r.filter (lt c)).take A.length = A from List.take_left, show (A ++ r.filter (lt c)).drop A.length = r.filter (lt c) from List.drop_left, e1 (r.filter (lt c)), ← hf, ← hm]
        refine ih (A ++ [c]) c ((A.length : Int) + 1) 0 _ false ?_ (by omega) ?_ ⟨hnow, Int.le_refl _⟩ ?_ (Int.le_refl _) ?_ ?_ ?_ ?_ hfin
        · intro x hx
          rcases List.mem_append.1 hx with hx | hx
          · exact hA x hx
          · rw [List.mem_singleton] at hx; omega
        · rw [hm, List.length_append]; omega
        · symm; rw [beq_eq_false_iff_ne]; omega
        · rw [@List.length_append _ A]; simp
        · intro q rest i hq hq2; exact hdel2 q _ hq (by simp; omega) b0 b1 rest i
        · intro q b hq hq2; exact hdel2 q b hq (by simp; omega)
        · simp at hbd; omega
      · have hlt : (c :: r).filter (lt now) = r.filter (lt now) := List.filter_cons_of_neg (by unfold lt; rw [decide_eq_true_eq]; omega)
        have hle : (c :: r).filter (le now) = r.filter (le now) := List.filter_cons_of_neg (by unfold le; rw [decide_eq_true_eq]; omega)
        rw [hlt, hle] at hfin
        rw [hlt] at hd h1 ⊢
        have hp : pass now (c :: r) ((A ++ r.filter (lt now)).length : Int) d bias first = pass now r ((A ++ r.filter (lt now)).length : Int) d bias first := by simp only [pass]; rw [if_neg c1, if_neg c2]
        rw [hp] at hfin ⊢
        refine ih A n i d bias first hA h0 h1 hn hf hd0 hd ?_ ?_ ?_ hfin
        · intro q rest i hq hq2; exact hdel q rest i hq ⟨by simp; omega, trivial⟩
        · intro q b hq hq2; exact hdel2 q b hq (by simp; omega)
        · simp at hbd; omega
end Go.Proofs.YtkhbmkccbhkolaaGreatDoor.Dm
namespace Go.Proofs.YtkhbmkccbhkolaaGreatDoor.Dm
set_option linter.unusedVariables false
set_option linter.unusedSimpArgs false
open Go.RowKit

theorem lastU_none : ∀ (d : List UInt8), (∀ c ∈ d, c ≠ 95) → lastU d = -1
  | [], _ => rfl
  | c :: r, h => by
    have e := lastU_none r (fun x hx => h x (List.mem_cons_of_mem _ hx))
    unfold lastU
    rw [e, if_neg (by omega), if_neg (h c (by simp))]
theorem lastU_app (a d : List UInt8) (hd : ∀ c ∈ d, c ≠ 95) : lastU (a ++ 95 :: d) = a.length := by
  induction a with
  | nil => show lastU (95 :: d) = 0; unfold lastU; rw [lastU_none d hd]; simp
  | cons c a ih => show lastU (c :: (a ++ 95 :: d)) = _; unfold lastU; rw [ih, if_pos (by omega)]; simp

theorem encode_low (r : Int) (h0 : 0 ≤ r) (h1 : r < 128) : (Utf8.encode r).data.toList = [UInt8.ofNat r.toNat] := by
  have hv : Utf8.valid r = true := by unfold Utf8.valid; simp; omega
  unfold Utf8.encode
  simp only [hv, if_true]
  rw [if_pos (by omega)]
theorem encode_high (r : Int) (h : 128 ≤ r) : ∀ b ∈ (Utf8.encode r).data.toList, 128 ≤ b.toNat := by
  unfold Utf8.encode
  have hc : ¬ (if Utf8.valid r then r.toNat else Utf8.runeError) < 128 := by split <;> simp [Utf8.runeError] <;> omega
  generalize hg : (if Utf8.valid r then r.toNat else Utf8.runeError) = c at hc
  have hcl : c < 1114112 := by
    rw [← hg]; unfold Utf8.valid Utf8.runeError
    split
    · rename_i hv; simp at hv; omega
    · omega
  simp only []
  rw [if_neg hc]
  intro b
  split
  · simp only [List.mem_cons, List.not_mem_nil, or_false]
    rintro (rfl | rfl) <;> simp <;> omega
  · split
    · simp only [List.mem_cons, List.not_mem_nil, or_false]
      rintro (rfl | rfl | rfl) <;> simp <;> omega
    · simp only [List.mem_cons, List.not_mem_nil, or_false]
      rintro (rfl | rfl | rfl | rfl) <;> simp <;> omega

theorem runes_fold (ns : List Int) : ∀ r : ByteArray, (ns.foldl (fun r n => r ++ Utf8.encode n) r).data.toList = r.data.toList ++ ns.flatMap (fun n => (Utf8.encode n).data.toList) := by
  induction ns with
  | nil => intro r; simp
  | cons n ns ih => intro r; rw [List.foldl_cons, ih]; simp [ByteArray.data_append]
theorem runes_list (ns : List Int) : (runesBytes ns).data.toList = ns.flatMap (fun n => (Utf8.encode n).data.toList) := by
  unfold runesBytes
  rw [runes_fold]
  simp

def low (c : UInt8) : Bool := decide (c.toNat < 128)
def lowI (n : Int) : Bool := decide (n < 128)

theorem runes_low (ns : List Int) (h : ∀ n ∈ ns, 0 ≤ n) : (runesBytes ns).data.toList.filter low = (ns.filter lowI).map (fun n => UInt8.ofNat n.toNat) := by
  rw [runes_list]
  induction ns with
  | nil => rfl
  | cons n ns ih =>
    rw [List.flatMap_cons, List.filter_append, ih (fun x hx => h x (List.mem_cons_of_mem _ hx))]
    have h0 := h n (by simp)
    by_cases hn : n < 128
    · rw [encode_low n h0 hn, List.filter_cons_of_pos (by unfold low; simp; omega), List.filter_cons_of_pos (by unfold lowI; simpa using hn)]
      rfl
    · have e : (Utf8.encode n).data.toList.filter low = [] := by
        rw [List.filter_eq_nil_iff]
        intro b hb
        have := encode_high n (by omega) b hb
        unfold low; simp; omega
      rw [e, List.filter_cons_of_neg (by unfold lowI; simpa using hn)]
      rfl

theorem delta_ge (bias : Int) : ∀ (l : List UInt8) (k i w j : Int) (r : List UInt8), 0 ≤ i → 0 ≤ w → delta bias k i w l = some (j, r) → i ≤ j
  | [], _, _, _, _, _, _, _, h => by unfold delta at h; cases h
  | c :: l, k, i, w, j, r, hi, hw, h => by
    unfold delta at h
    cases hp : pdig c with
    | none => rw [hp] at h; cases h
    | some g =>
      rw [hp] at h
      obtain ⟨g0, g1⟩ := pdig_range hp
      obtain ⟨t0, t1⟩ := thr_range k bias
      have hm : 0 ≤ g * w := Int.mul_nonneg g0 hw
      simp only at h
      by_cases hc : g < thr k bias
      · rw [if_pos hc] at h
        injection h with h; injection h with h _; omega
      · rw [if_neg hc] at h
        by_cases hb : w ≥ 59652323
        · rw [if_pos hb] at h; cases h
        · rw [if_neg hb] at h
          have := delta_ge bias l (k + 36) (i + g * w) (w * (36 - thr k bias)) j r (by omega) (Int.mul_nonneg hw (by omega)) h
          omega

theorem deltas_low : ∀ (fuel : Nat) (out : List Int) (i n bias : Int) (enc : List UInt8) (res : List Int), (∀ x ∈ out, 0 ≤ x) → 0 ≤ i → 128 ≤ n → deltas fuel out i n bias enc = some res →
    (∀ x ∈ res, 0 ≤ x) ∧ res.filter lowI = out.filter lowI
  | 0, _, _, _, _, _, _, _, _, _, h => by unfold deltas at h; cases h
  | fuel + 1, out, i, n, bias, enc, res, ho, hi, hn, h => by
    unfold deltas at h
    by_cases he : enc = []
    · rw [if_pos he] at h; injection h with h; subst h; exact ⟨ho, rfl⟩
    · rw [if_neg he] at h
      cases hd : delta bias 36 i 1 enc with
      | none => rw [hd] at h; cases h
      | some q =>
        obtain ⟨j, r⟩ := q
        rw [hd] at h
        have hj := delta_ge bias enc 36 i 1 j r hi (by omega) hd
        simp only at h
        have hm : 0 ≤ j / ((out.length : Int) + 1) := Int.ediv_nonneg (by omega) (by omega)
        have hr : 0 ≤ j % ((out.length : Int) + 1) := Int.emod_nonneg _ (by omega)
        split at h
        · cases h
        · split at h
          · cases h
          · have := deltas_low fuel _ _ _ _ _ res ?_ (by omega) (by omega) h
            · refine ⟨this.1, this.2.trans ?_⟩
              rw [List.filter_append, List.filter_cons_of_neg (by unfold lowI; simp; omega), ← List.filter_append, List.take_append_drop]
            · intro x hx
              rcases List.mem_append.1 hx with hx | hx
              · exact ho x (List.mem_of_mem_take hx)
              · rcases List.mem_cons.1 hx with rfl | hx
                · omega
                · exact ho x (List.mem_of_mem_drop hx)

theorem expand_low (a d : List UInt8) (ha : ∀ c ∈ a, c.toNat < 128) (hd : ∀ c ∈ d, c ≠ 95) (out : List Int) (h : expand (a ++ 95 :: d) = some out) :
    (runesBytes out).data.toList.filter low = a := by
  unfold expand at h
  rw [lastU_app a d hd, if_pos (by omega)] at h
  have e : (a ++ 95 :: d).take ((a.length : Int)).toNat = a := by simp
  rw [e] at h
  have := deltas_low _ _ _ _ _ _ out (by intro x hx; rw [List.mem_map] at hx; obtain ⟨c, _, rfl⟩ := hx; omega) (by omega) (by omega) h
  rw [runes_low out this.1, this.2]
  clear h this e
  induction a with
  | nil => rfl
  | cons c a ih =>
    have hc := ha c (by simp)
    rw [List.map_cons, List.filter_cons_of_pos (by unfold lowI; simp; omega), List.map_cons, ih (fun x hx => ha x (List.mem_cons_of_mem _ hx))]
    simp

/-- The example of the statement. -/
theorem expand_godel : expand [103, 100, 101, 108, 95, 53, 113, 97] = some [103, 246, 100, 101, 108] := by
  simp [expand, lastU, deltas, delta, pdig, thr, adapted, small, validRune]

end Go.Proofs.YtkhbmkccbhkolaaGreatDoor.Dm
namespace Go.Proofs.YtkhbmkccbhkolaaGreatDoor.Dm
set_option linter.unusedVariables false
set_option linter.unusedSimpArgs false
open Go.RowKit

/-- The least character that is at least so much. -/
def nxt : List Int → Int → Int → Int
  | [], _, next => next
  | c :: r, least, next => nxt r least (if least ≤ c ∧ (next < 0 ∨ c < next) then c else next)
theorem nxt_spec : ∀ (r : List Int) (least next : Int), 0 ≤ least → (next < 0 ∨ least ≤ next) →
    (nxt r least next < 0 ↔ (next < 0 ∧ ∀ c ∈ r, c < least)) ∧ (0 ≤ nxt r least next → least ≤ nxt r least next ∧ (nxt r least next = next ∨ nxt r least next ∈ r) ∧ (∀ c ∈ r, least ≤ c → nxt r least next ≤ c) ∧ (0 ≤ next → nxt r least next ≤ next)) := by
  intro r
  induction r with
  | nil => intro least next h0 h1; simp only [nxt, List.not_mem_nil, false_imp_iff, implies_true, and_true]; exact ⟨trivial, fun h => ⟨by omega, .inl trivial, trivial, fun _ => Int.le_refl _⟩⟩
  | cons c r ih =>
    intro least next h0 h1
    simp only [nxt]
    by_cases hc : least ≤ c ∧ (next < 0 ∨ c < next)
    · rw [if_pos hc]
      obtain ⟨i1, i2⟩ := ih least c h0 (.inr hc.1)
      constructor
      · rw [i1]
        constructor
        · rintro ⟨h, _⟩; omega
        · rintro ⟨_, h⟩; have := h c (by simp); omega
      · intro h
        obtain ⟨a1, a2, a3, a4⟩ := i2 h
        have a5 := a4 (by omega)
        refine ⟨a1, ?_, ?_, ?_⟩
        · rcases a2 with a2 | a2
          · exact .inr (by rw [a2]; simp)
          · exact .inr (by simp [a2])
        · intro x hx hl
          rcases List.mem_cons.1 hx with rfl | hx
          · exact a5
          · exact a3 x hx hl
        · intro hn; omega
    · rw [if_neg hc]
      obtain ⟨i1, i2⟩ := ih least next h0 h1
      constructor
      · rw [i1]
        constructor
        · rintro ⟨h, h2⟩
          refine ⟨h, fun x hx => ?_⟩
          rcases List.mem_cons.1 hx with rfl | hx
          · omega
          · exact h2 x hx
        · rintro ⟨h, h2⟩; exact ⟨h, fun x hx => h2 x (by simp [hx])⟩
      · intro h
        obtain ⟨a1, a2, a3, a4⟩ := i2 h
        refine ⟨a1, ?_, ?_, a4⟩
        · rcases a2 with a2 | a2
          · exact .inl a2
          · exact .inr (by simp [a2])
        · intro x hx hl
          rcases List.mem_cons.1 hx with rfl | hx
          · have hn : 0 ≤ next ∧ next ≤ x := by omega
            have := a4 hn.1; omega
          · exact a3 x hx hl

/-- What a pass leaves. -/
theorem pass_left (now : Int) (hnow : 0 ≤ now) : ∀ (r : List Int) (A : List Int) (d bias : Int) (first : Bool), 0 ≤ d → d + r.length ≤ 4000000000 → 0 ≤ bias → bias ≤ 213 →
    (pass now r (A ++ r.filter (lt now)).length d bias first).2.1 = ((A ++ r.filter (le now)).length : Int) ∧
    0 ≤ (pass now r (A ++ r.filter (lt now)).length d bias first).2.2.2.1 ∧ (pass now r (A ++ r.filter (lt now)).length d bias first).2.2.2.1 ≤ 213 ∧
    (∀ c ∈ (pass now r (A ++ r.filter (lt now)).length d bias first).1, c ≠ 95) ∧ (now ∈ r → (pass now r (A ++ r.filter (lt now)).length d bias first).1 ≠ []) := by
  intro r
  induction r with
  | nil => intro A d bias first h0 h1 h2 h3; simp only [List.filter_nil, List.append_nil, pass]; exact ⟨trivial, h2, h3, by simp, by simp⟩
  | cons c r ih =>
    intro A d bias first h0 h1 h2 h3
    simp only [List.length_cons] at h1
    by_cases c1 : c < now
    · have hlt : (c :: r).filter (lt now) = c :: r.filter (lt now) := List.filter_cons_of_pos (decide_eq_true c1)
      have hle : (c :: r).filter (le now) = c :: r.filter (le now) := List.filter_cons_of_pos (decide_eq_true (by omega))
      have e1 : ∀ F : List Int, A ++ c :: F = (A ++ [c]) ++ F := by intro F; simp
      rw [hlt, hle, e1 (r.filter (lt now)), e1 (r.filter (le now))]
      have hp : pass now (c :: r) ((A ++ [c] ++ r.filter (lt now)).length : Int) d bias first = pass now r ((A ++ [c] ++ r.filter (lt now)).length : Int) (d + 1) bias first := by simp only [pass]; rw [if_pos c1]
      rw [hp]
      obtain ⟨a1, a2, a3, a4, a5⟩ := ih (A ++ [c]) (d + 1) bias first (by omega) (by omega) h2 h3
      exact ⟨a1, a2, a3, a4, fun h => a5 (by rcases List.mem_cons.1 h with h | h; omega; exact h)⟩
    · by_cases c2 : c = now
      · subst c2
        have hlt : (c :: r).filter (lt c) = r.filter (lt c) := List.filter_cons_of_neg (by unfold lt; rw [decide_eq_true_eq]; omega)
        have hle : (c :: r).filter (le c) = c :: r.filter (le c) := List.filter_cons_of_pos (decide_eq_true (Int.le_refl _))
        have e1 : ∀ F : List Int, A ++ c :: F = (A ++ [c]) ++ F := by intro F; simp
        have hm : ((A ++ [c] ++ r.filter (lt c)).length : Int) = ((A ++ r.filter (lt c)).length : Int) + 1 := by simp only [List.length_append, List.length_singleton]; omega
        rw [hlt, hle, e1 (r.filter (le c))]
        have hp : pass c (c :: r) ((A ++ r.filter (lt c)).length : Int) d bias first = (encD (d.toNat + 1) d 1 bias ++ (pass c r ((A ++ [c] ++ r.filter (lt c)).length : Int) 0 (adapted d (((A ++ r.filter (lt c)).length : Int) + 1) first) false).1, (pass c r ((A ++ [c] ++ r.filter (lt c)).length : Int) 0 (adapted d (((A ++ r.filter (lt c)).length : Int) + 1) first) false).2) := by
          rw [hm]; simp only [pass]; rw [if_neg c1, if_pos trivial]
        rw [hp]
        obtain ⟨b0, b1⟩ := adapted_le d (((A ++ r.filter (lt c)).length : Int) + 1) first h0 (by omega) (by omega)
        obtain ⟨a1, a2, a3, a4, a5⟩ := ih (A ++ [c]) 0 _ false (by omega) (by omega) b0 b1
        refine ⟨a1, a2, a3, ?_, fun _ h => encD_ne d.toNat d 1 bias (List.append_eq_nil_iff.1 h).1⟩
        intro x hx
        rcases List.mem_append.1 hx with hx | hx
        · exact encD_us _ _ _ _ h0 x hx
        · exact a4 x hx
      · have hlt : (c :: r).filter (lt now) = r.filter (lt now) := List.filter_cons_of_neg (by unfold lt; rw [decide_eq_true_eq]; omega)
        have hle : (c :: r).filter (le now) = r.filter (le now) := List.filter_cons_of_neg (by unfold le; rw [decide_eq_true_eq]; omega)
        rw [hlt, hle]
        have hp : pass now (c :: r) ((A ++ r.filter (lt now)).length : Int) d bias first = pass now r ((A ++ r.filter (lt now)).length : Int) d bias first := by simp only [pass]; rw [if_neg c1, if_neg c2]
        rw [hp]
        obtain ⟨a1, a2, a3, a4, a5⟩ := ih A d bias first h0 (by omega) h2 h3
        exact ⟨a1, a2, a3, a4, fun h => a5 (by rcases List.mem_cons.1 h with h | h; exact absurd h.symm c2; exact h)⟩

/-- All passes. -/
def encAll : Nat → List Int → Int → Int → Int → Int → Bool → List UInt8
  | 0, _, _, _, _, _, _ => []
  | k + 1, L, now, many, d, bias, first =>
    if nxt L now (-1) < 0 then [] else
      (pass (nxt L now (-1)) L many (d + (nxt L now (-1) - now) * (many + 1)) bias first).1 ++
        encAll k L (nxt L now (-1) + 1) (pass (nxt L now (-1)) L many (d + (nxt L now (-1) - now) * (many + 1)) bias first).2.1 ((pass (nxt L now (-1)) L many (d + (nxt L now (-1) - now) * (many + 1)) bias first).2.2.1 + 1)
          (pass (nxt L now (-1)) L many (d + (nxt L now (-1) - now) * (many + 1)) bias first).2.2.2.1 (pass (nxt L now (-1)) L many (d + (nxt L now (-1) - now) * (many + 1)) bias first).2.2.2.2
theorem filt_all {L : List Int} {now : Int} (h : ∀ c ∈ L, c < now) : L.filter (lt now) = L := List.filter_eq_self.2 fun c hc => decide_eq_true (h c hc)
theorem filt_next (L : List Int) (now nx : Int) (h : ∀ c ∈ L, now ≤ c → nx ≤ c) (hl : now ≤ nx) : L.filter (lt nx) = L.filter (lt now) := by
  apply List.filter_congr
  intro c hc
  unfold lt
  rw [decide_eq_decide]
  have := h c hc
  omega
theorem filt_succ (L : List Int) (nx : Int) : L.filter (lt (nx + 1)) = L.filter (le nx) := by
  apply List.filter_congr
  intro c hc
  unfold lt le
  rw [decide_eq_decide]
  omega
theorem filt_less (L : List Int) (nx : Int) (h : nx ∈ L) : (L.filter (lt nx)).length < (L.filter (le nx)).length ∧ (L.filter (le nx)).length ≤ L.length := by
  refine ⟨?_, List.length_filter_le _ _⟩
  induction L with
  | nil => cases h
  | cons c L ih =>
    have hsub : (L.filter (lt nx)).length ≤ (L.filter (le nx)).length := by
      clear ih h
      induction L with
      | nil => simp
      | cons x L ih =>
        by_cases h1 : x < nx
        · rw [List.filter_cons_of_pos (show lt nx x = true from decide_eq_true h1), List.filter_cons_of_pos (show le nx x = true from decide_eq_true (by omega))]; simp only [List.length_cons]; omega
        · rw [List.filter_cons_of_neg (by unfold lt; rw [decide_eq_true_eq]; exact h1)]
          by_cases h2 : x ≤ nx
          · rw [List.filter_cons_of_pos (show le nx x = true from decide_eq_true h2)]; simp only [List.length_cons]; omega
          · rw [List.filter_cons_of_neg (by unfold le; rw [decide_eq_true_eq]; exact h2)]; exact ih
    by_cases h1 : c = nx
    · subst h1
      rw [List.filter_cons_of_neg (by unfold lt; rw [decide_eq_true_eq]; omega), List.filter_cons_of_pos (show le c c = true from decide_eq_true (Int.le_refl _))]
      simp only [List.length_cons]; omega
    · have h2 := ih (by rcases List.mem_cons.1 h with h | h; exact absurd h.symm h1; exact h)
      by_cases h3 : c < nx
      · rw [List.filter_cons_of_pos (show lt nx c = true from decide_eq_true h3), List.filter_cons_of_pos (show le nx c = true from decide_eq_true (by omega))]; simp only [List.length_cons]; omega
      · rw [List.filter_cons_of_neg (by unfold lt; rw [decide_eq_true_eq]; exact h3), List.filter_cons_of_neg (by unfold le; rw [decide_eq_true_eq]; omega)]; exact h2
/-- The characters of which these texts speak. -/
structure Chars (L : List Int) : Prop where
  rg : ∀ c ∈ L, 0 ≤ c ∧ c ≤ 1114111
  ok : ∀ c ∈ L, 128 ≤ c → validRune c = true
  ln : L.length ≤ 1001
theorem all_read (L : List Int) (hL : Chars L) : ∀ (k : Nat) (now i n d bias : Int) (first : Bool), L.length < (L.filter (lt now)).length + k → 128 ≤ now → 0 ≤ i → i ≤ (L.filter (lt now)).length → (0 ≤ n ∧ n ≤ now) → (n < now ∨ i = 0) → (first = (i == 0)) →
      d = (now - n) * (((L.filter (lt now)).length : Int) + 1) - i → 0 ≤ bias → bias ≤ 213 →
      Rd (L.filter (lt now)) i n bias (encAll k L now (L.filter (lt now)).length d bias first) L := by
  intro k
  induction k with
  | zero => intro now i n d bias first hk; have := List.length_filter_le (lt now) L; omega
  | succ k ih =>
    intro now i n d bias first hk h128 h0 h1 hn hs hf hd hb0 hb1
    obtain ⟨s1, s2⟩ := nxt_spec L now (-1) (by omega) (.inl (by omega))
    simp only [encAll]
    generalize nxt L now (-1) = nx at *
    by_cases hx : nx < 0
    · rw [if_pos hx]
      obtain ⟨_, hall⟩ := s1.1 hx
      rw [filt_all hall]
      exact Rd.nil _ _ _ _
    · rw [if_neg hx]
      obtain ⟨a1, a2, a3, _⟩ := s2 (by omega)
      have hmem : nx ∈ L := by rcases a2 with a2 | a2; omega; exact a2
      obtain ⟨hr0, hr1⟩ := hL.rg nx hmem
      have hv := hL.ok nx hmem (by omega)
      have hln := hL.ln
      have hfn := filt_next L now nx a3 a1
      obtain ⟨f1, f2⟩ := filt_less L nx hmem
      rw [← hfn] at h1 hd hk ⊢
      have hd2 : d + (nx - now) * (((L.filter (lt nx)).length : Int) + 1) = (nx - n) * (((L.filter (lt nx)).length : Int) + 1) - i := by
        have : (nx - n) * (((L.filter (lt nx)).length : Int) + 1) = (nx - now) * (((L.filter (lt nx)).length : Int) + 1) + (now - n) * (((L.filter (lt nx)).length : Int) + 1) := by
          rw [← Int.add_mul]; congr 1; omega
        omega
      have hdb : (nx - n) * (((L.filter (lt nx)).length : Int) + 1) ≤ 1114111 * 1001 := Int.mul_le_mul (by omega) (by omega) (by omega) (by omega)
      have hd0 : 0 ≤ (nx - n) * (((L.filter (lt nx)).length : Int) + 1) - i := by
        by_cases e : nx = n
        · have : i = 0 := by omega
          rw [e, Int.sub_self, Int.zero_mul]; omega
        · have : 1 * (((L.filter (lt nx)).length : Int) + 1) ≤ (nx - n) * (((L.filter (lt nx)).length : Int) + 1) := Int.mul_le_mul_of_nonneg_right (by omega) (by omega)
          omega
      rw [hd2]
      generalize hD : (nx - n) * (((L.filter (lt nx)).length : Int) + 1) - i = d2 at *
      have hsum : d2 + (L.length : Int) ≤ 1200000000 := by omega
      have hleft := pass_left nx hr0 L [] d2 bias first hd0 (by omega) hb0 hb1
      have hread := pass_read nx 0 hr0 hr1 hv (encAll k L (nx + 1) (pass nx L ((L.filter (lt nx)).length : Int) d2 bias first).2.1 ((pass nx L ((L.filter (lt nx)).length : Int) d2 bias first).2.2.1 + 1) (pass nx L ((L.filter (lt nx)).length : Int) d2 bias first).2.2.2.1 (pass nx L ((L.filter (lt nx)).length : Int) d2 bias first).2.2.2.2) L L [] n i d2 bias first
      simp only [List.nil_append] at hleft hread
      obtain ⟨l1, l2, l3, l4, l5⟩ := hleft
      generalize pass nx L ((L.filter (lt nx)).length : Int) d2 bias first = P at *
      have hih : ∀ n' i' : Int, (0 ≤ n' ∧ n' ≤ nx) → 0 ≤ i' → i' ≤ (L.filter (le nx)).length → P.2.2.2.2 = (i' == 0) → P.2.2.1 = (nx - n') * (((L.filter (le nx)).length : Int) + 1) + (L.filter (le nx)).length - i' →
          Rd (L.filter (le nx)) i' n' P.2.2.2.1 (encAll k L (nx + 1) P.2.1 (P.2.2.1 + 1) P.2.2.2.1 P.2.2.2.2) L := by
        intro n' i' hn' hi0 hi1 hf' hd'
        have := ih (nx + 1) i' n' (P.2.2.1 + 1) P.2.2.2.1 P.2.2.2.2
        rw [filt_succ, ← l1] at this
        refine this (by omega) (by omega) hi0 (by rw [l1]; exact hi1) ⟨hn'.1, by omega⟩ (.inl (by omega)) hf' ?_ l2 l3
        rw [hd', l1]
        have : (nx + 1 - n') * (((L.filter (le nx)).length : Int) + 1) = (nx - n') * (((L.filter (le nx)).length : Int) + 1) + (((L.filter (le nx)).length : Int) + 1) := by
          rw [show nx + 1 - n' = (nx - n') + 1 by omega, Int.add_mul, Int.one_mul]
        omega
      refine hread (by simp) h0 h1 ⟨hn.1, by omega⟩ hf hd0 (by rw [← hD]; simp) ?_ ?_ hsum hih
      · intro q rest i hq hq2
        exact delta_any bias hb1 rest q i hq (by omega)
      · intro q b hq hq2 hb hb2 rest i
        exact delta_any b hb2 rest q i hq (by omega)
/-- A text in Punycode. -/
def punyText (L : List Int) : List UInt8 :=
  (if L.filter (lt 128) = [] then [] else (L.filter (lt 128)).map (fun c => UInt8.ofNat c.toNat) ++ [95]) ++ encAll (L.length + 1) L 128 (L.filter (lt 128)).length 0 72 true
theorem expand_puny (L : List Int) (hL : Chars L) : expand (punyText L) = some L := by
  have h := all_read L hL (L.length + 1) 128 0 128 0 72 true (by omega) (by omega) (by omega) (by omega) ⟨by omega, by omega⟩ (.inr rfl) rfl (by omega) (by omega) (by omega)
  unfold punyText
  generalize encAll (L.length + 1) L 128 (L.filter (lt 128)).length 0 72 true = enc at *
  obtain ⟨h1, h2⟩ := h
  by_cases he : L.filter (lt 128) = []
  · rw [if_pos he, List.nil_append]
    unfold expand
    rw [lastU_none enc h2, if_neg (by omega), ← he]
    exact h1 _ (by omega)
  · rw [if_neg he, List.append_assoc, List.singleton_append]
    unfold expand
    rw [lastU_app _ _ h2, if_pos (by omega), Int.toNat_natCast, List.take_left]
    rw [show (((L.filter (lt 128)).map fun c => UInt8.ofNat c.toNat) ++ 95 :: enc).drop (((L.filter (lt 128)).map fun c => UInt8.ofNat c.toNat).length + 1) = enc by
      rw [← List.drop_drop, List.drop_left]; rfl]
    have hm : (((L.filter (lt 128)).map fun c => UInt8.ofNat c.toNat).map fun c => (c.toNat : Int)) = L.filter (lt 128) := by
      rw [List.map_map]
      conv => rhs; rw [← List.map_id (L.filter (lt 128))]
      apply List.map_congr_left
      intro c hc
      obtain ⟨hc1, hc2⟩ := List.mem_filter.1 hc
      have := hL.rg c hc1
      have hc3 : c < 128 := of_decide_eq_true hc2
      simp only [Function.comp, id]
      rw [UInt8.toNat_ofNat_of_lt' (by have : UInt8.size = 256 := rfl; omega)]
      omega
    rw [hm]
    exact h1 _ (by rw [List.length_append, List.length_cons]; omega)
end Go.Proofs.YtkhbmkccbhkolaaGreatDoor.Dm
namespace Go.Proofs.YtkhbmkccbhkolaaGreatDoor.Dm
set_option linter.unusedVariables false
set_option linter.unusedSimpArgs false
open Go.RowKit
theorem pass_low (now : Int) : ∀ (A r : List Int) (many d bias : Int) (first : Bool), (∀ x ∈ A, x < now) → pass now (A ++ r) many d bias first = pass now r many (d + A.length) bias first := by
  intro A
  induction A with
  | nil => intro r many d bias first _; simp
  | cons a A ih =>
    intro r many d bias first h
    rw [List.cons_append]
    simp only [pass]
    rw [if_pos (h a (List.mem_cons_self ..)), ih r many (d + 1) bias first (fun x hx => h x (List.mem_cons_of_mem _ hx)), List.length_cons]
    congr 1
    omega
theorem low_filter (A : List Int) (h : ∀ x ∈ A, x < 128) : A.filter (lt 128) = A := filt_all h
/-- What is read of the digits, with the plain characters ahead of them. -/
theorem expand_rd (L : List Int) (h0 : ∀ c ∈ L, 0 ≤ c) (h : Rd (L.filter (lt 128)) 0 128 72 (encAll (L.length + 1) L 128 (L.filter (lt 128)).length 0 72 true) L) : expand (punyText L) = some L := by
  unfold punyText
  generalize encAll (L.length + 1) L 128 (L.filter (lt 128)).length 0 72 true = enc at *
  obtain ⟨h1, h2⟩ := h
  by_cases he : L.filter (lt 128) = []
  · rw [if_pos he, List.nil_append]
    unfold expand
    rw [lastU_none enc h2, if_neg (by omega), ← he]
    exact h1 _ (by omega)
  · rw [if_neg he, List.append_assoc, List.singleton_append]
    unfold expand
    rw [lastU_app _ _ h2, if_pos (by omega), Int.toNat_natCast, List.take_left]
    rw [show (((L.filter (lt 128)).map fun c => UInt8.ofNat c.toNat) ++ 95 :: enc).drop (((L.filter (lt 128)).map fun c => UInt8.ofNat c.toNat).length + 1) = enc by
      rw [← List.drop_drop, List.drop_left]; rfl]
    have hm : (((L.filter (lt 128)).map fun c => UInt8.ofNat c.toNat).map fun c => (c.toNat : Int)) = L.filter (lt 128) := by
      rw [List.map_map]
      conv => rhs; rw [← List.map_id (L.filter (lt 128))]
      apply List.map_congr_left
      intro c hc
      obtain ⟨hc1, hc2⟩ := List.mem_filter.1 hc
      have := h0 c hc1
      have hc3 : c < 128 := of_decide_eq_true hc2
      simp only [Function.comp, id]
      rw [UInt8.toNat_ofNat_of_lt' (by have : UInt8.size = 256 := rfl; omega)]
      omega
    rw [hm]
    exact h1 _ (by rw [List.length_append, List.length_cons]; omega)
theorem nxt_one (A B : List Int) (c : Int) (hA : ∀ x ∈ A, x < 128) (hB : ∀ x ∈ B, x < 128) (hc : 128 ≤ c) : nxt (A ++ c :: B) 128 (-1) = c := by
  obtain ⟨s1, s2⟩ := nxt_spec (A ++ c :: B) 128 (-1) (by omega) (.inl (by omega))
  have h0 : 0 ≤ nxt (A ++ c :: B) 128 (-1) := by
    apply Decidable.byContradiction
    intro hn
    have := (s1.1 (by omega)).2 c (by simp)
    omega
  obtain ⟨a1, a2, a3, _⟩ := s2 h0
  generalize nxt (A ++ c :: B) 128 (-1) = nx at *
  rcases a2 with a2 | a2
  · omega
  · rcases List.mem_append.1 a2 with h | h
    · have := hA nx h; omega
    · rcases List.mem_cons.1 h with h | h
      · exact h
      · have := hB nx h; omega
theorem nxt_none (A B : List Int) (c : Int) (hA : ∀ x ∈ A, x < 128) (hB : ∀ x ∈ B, x < 128) (hc : 128 ≤ c) : nxt (A ++ c :: B) (c + 1) (-1) < 0 := by
  obtain ⟨s1, _⟩ := nxt_spec (A ++ c :: B) (c + 1) (-1) (by omega) (.inl (by omega))
  refine s1.2 ⟨by omega, fun x hx => ?_⟩
  rcases List.mem_append.1 hx with h | h
  · have := hA x h; omega
  · rcases List.mem_cons.1 h with h | h
    · omega
    · have := hB x h; omega
theorem filter_one (A B : List Int) (c : Int) (hA : ∀ x ∈ A, x < 128) (hB : ∀ x ∈ B, x < 128) (hc : 128 ≤ c) : (A ++ c :: B).filter (lt 128) = A ++ B := by
  rw [List.filter_append, low_filter A hA, List.filter_cons_of_neg (by unfold lt; rw [decide_eq_true_eq]; omega), low_filter B hB]
theorem enc_one (A B : List Int) (c : Int) (hA : ∀ x ∈ A, x < 128) (hB : ∀ x ∈ B, x < 128) (hc : 128 ≤ c) (q : Int) (hq : q = (c - 128) * (((A ++ B).length : Int) + 1) + A.length) :
    encAll ((A ++ c :: B).length + 1) (A ++ c :: B) 128 (A ++ B).length 0 72 true = encD (q.toNat + 1) q 1 72 := by
  obtain ⟨k, hk⟩ : ∃ k, (A ++ c :: B).length = k + 1 := ⟨A.length + B.length, by simp; omega⟩
  rw [hk]
  have e1 := nxt_one A B c hA hB hc
  have e2 := nxt_none A B c hA hB hc
  have ep : pass c (A ++ c :: B) ((A ++ B).length : Int) (0 + (c - 128) * (((A ++ B).length : Int) + 1)) 72 true = (encD (q.toNat + 1) q 1 72, (((A ++ B).length : Int) + 1, (B.length : Int), adapted q (((A ++ B).length : Int) + 1) true, false)) := by
    rw [pass_low c A _ _ _ _ _ (fun x hx => by have := hA x hx; omega), show 0 + (c - 128) * (((A ++ B).length : Int) + 1) + (A.length : Int) = q by omega]
    simp only [pass]
    rw [if_neg (by omega), if_pos trivial]
    have e3 := pass_low c B [] (((A ++ B).length : Int) + 1) 0 (adapted q (((A ++ B).length : Int) + 1) true) false (fun x hx => by have := hB x hx; omega)
    rw [List.append_nil] at e3
    rw [e3]
    simp only [pass, List.append_nil, Int.zero_add]
  simp only [encAll, e1]
  rw [if_neg (by omega), ep]
  rw [if_pos e2, List.append_nil]
theorem rd_one (A B : List Int) (c : Int) (hA : ∀ x ∈ A, 0 ≤ x ∧ x < 128) (hB : ∀ x ∈ B, 0 ≤ x ∧ x < 128) (hc : 128 ≤ c) (hc2 : c ≤ 1114111) (hv : validRune c = true) (hl : A.length + B.length ≤ 2100) :
    Rd ((A ++ c :: B).filter (lt 128)) 0 128 72 (encAll ((A ++ c :: B).length + 1) (A ++ c :: B) 128 ((A ++ c :: B).filter (lt 128)).length 0 72 true) (A ++ c :: B) := by
  have hA2 : ∀ x ∈ A, x < 128 := fun x hx => (hA x hx).2
  have hB2 : ∀ x ∈ B, x < 128 := fun x hx => (hB x hx).2
  rw [filter_one A B c hA2 hB2 hc]
  obtain ⟨q, hq⟩ : ∃ q, q = (c - 128) * (((A ++ B).length : Int) + 1) + A.length := ⟨_, rfl⟩
  rw [enc_one A B c hA2 hB2 hc q hq]
  have hlen : ((A ++ B).length : Int) ≤ 2100 := by rw [List.length_append]; omega
  have h1 : (c - 128) * (((A ++ B).length : Int) + 1) ≤ 1113983 * 2101 := Int.mul_le_mul (by omega) (by omega) (by omega) (by omega)
  have h2 : 0 ≤ (c - 128) * (((A ++ B).length : Int) + 1) := Int.mul_nonneg (by omega) (by omega)
  have hd := delta_first [] q 0 (by omega) (by omega)
  have hs := Rd.step (out := A ++ B) (i := 0) (n := 128) (bias := 72) (q := q) (now := c) (ds := encD (q.toNat + 1) q 1 72) (rest := []) (cnt := A.length) (res := A ++ c :: B) hd (encD_ne _ _ _ _) (encD_us _ _ _ _ (by omega)) (by omega) hc (by rw [List.length_append]; omega) (by omega) hc2 hv
  rw [List.append_nil] at hs
  apply hs
  rw [show (A ++ B).take A.length = A from List.take_left, show (A ++ B).drop A.length = B from List.drop_left]
  exact Rd.nil _ _ _ _
theorem expand_one (A B : List Int) (c : Int) (hA : ∀ x ∈ A, 0 ≤ x ∧ x < 128) (hB : ∀ x ∈ B, 0 ≤ x ∧ x < 128) (hc : 128 ≤ c) (hc2 : c ≤ 1114111) (hv : validRune c = true) (hl : A.length + B.length ≤ 2100) :
    expand (punyText (A ++ c :: B)) = some (A ++ c :: B) := by
  have hA2 : ∀ x ∈ A, x < 128 := fun x hx => (hA x hx).2
  have hB2 : ∀ x ∈ B, x < 128 := fun x hx => (hB x hx).2
  apply expand_rd
  · intro x hx
    rcases List.mem_append.1 hx with h | h
    · exact (hA x h).1
    · rcases List.mem_cons.1 h with h | h
      · omega
      · exact (hB x h).1
  · exact rd_one A B c hA hB hc hc2 hv hl
theorem encD_log : ∀ (m n : Nat) (q : Int) (p : Nat) (b : Int), 0 ≤ q → q < (10 : Int) ^ m → (encD n q p b).length ≤ m + 1 := by
  intro m
  induction m with
  | zero =>
    intro n q p b h0 h1
    cases n with
    | zero => simp [encD]
    | succ n =>
      simp only [encD]
      have := (thr_range (36 * p) b).1
      rw [if_pos (by simp at h1; omega)]; simp
  | succ m ih =>
    intro n q p b h0 h1
    cases n with
    | zero => simp [encD]
    | succ n =>
      simp only [encD]
      obtain ⟨r0, r1⟩ := thr_range (36 * p) b
      generalize thr (36 * p) b = t at *
      split
      · simp
      · have hp : 0 < (10 : Int) ^ m := Int.pow_pos (by omega)
        have h2 : (10 : Int) ^ m * 10 ≤ (10 : Int) ^ m * (36 - t) := Int.mul_le_mul_of_nonneg_left (by omega) (by omega)
        rw [Int.pow_succ] at h1
        have h3 : (q - t) / (36 - t) < (10 : Int) ^ m := Int.ediv_lt_of_lt_mul (by omega) (by omega)
        have h4 : 0 ≤ (q - t) / (36 - t) := Int.ediv_nonneg (by omega) (by omega)
        have := ih n ((q - t) / (36 - t)) (p + 1) b h4 h3
        rw [List.length_cons]; omega
theorem len_one (A B : List Int) (c : Int) (hA : ∀ x ∈ A, x < 128) (hB : ∀ x ∈ B, x < 128) (hc : 128 ≤ c) (hc2 : c ≤ 1114111) (hl : A.length + B.length ≤ 2100) : (punyText (A ++ c :: B)).length ≤ 3000 := by
  unfold punyText
  rw [filter_one A B c hA hB hc, enc_one A B c hA hB hc _ rfl]
  have hlen : ((A ++ B).length : Int) ≤ 2100 := by rw [List.length_append]; omega
  have h1 : (c - 128) * (((A ++ B).length : Int) + 1) ≤ 1113983 * 2101 := Int.mul_le_mul (by omega) (by omega) (by omega) (by omega)
  have h2 : 0 ≤ (c - 128) * (((A ++ B).length : Int) + 1) := Int.mul_nonneg (by omega) (by omega)
  have hd := encD_log 10 (((c - 128) * (((A ++ B).length : Int) + 1) + A.length).toNat + 1) ((c - 128) * (((A ++ B).length : Int) + 1) + A.length) 1 72 (by omega) (by rw [show (10 : Int) ^ 10 = 10000000000 from by decide]; omega)
  rw [List.length_append]
  split
  · simp only [List.length_nil]; omega
  · rw [List.length_append, List.length_map]; simp only [List.length_singleton]; omega
end Go.Proofs.YtkhbmkccbhkolaaGreatDoor.Dm
