/- Constants as the grammar reads them, in plain Lean: what it tells or refuses, the reader tells or refuses. -/
import Derived.Test.YtaegllbokgjoeaaDoorDmC
namespace Go.Proofs.YtaegllbokgjoeaaDoor.Dm
set_option linter.unusedVariables false
set_option linter.unusedSimpArgs false
open Go.RowKit

/-- The digits in front: the number of the first sixteen, how many there are, and what follows. -/
def hexr : Int → Nat → List UInt8 → Int × Nat × List UInt8
  | v, k, [] => (v, k, [])
  | v, k, c :: r => match hexd c with
    | some d => hexr (if k < 16 then IntKind.u64.wrap (IntKind.u64.wrap (v * 16) + d) else v) (k + 1) r
    | none => (v, k, c :: r)
theorem hexr_some {v d : Int} {k : Nat} {c : UInt8} {r : List UInt8} (h : hexd c = some d) : hexr v k (c :: r) = hexr (if k < 16 then IntKind.u64.wrap (IntKind.u64.wrap (v * 16) + d) else v) (k + 1) r := by
  rw [hexr, h]
theorem hexr_none {v : Int} {k : Nat} {c : UInt8} {r : List UInt8} (h : hexd c = none) : hexr v k (c :: r) = (v, k, c :: r) := by
  rw [hexr, h]
theorem hexr_mono : ∀ (l : List UInt8) (v : Int) (k : Nat) {v' : Int} {k' : Nat} {q : List UInt8}, hexr v k l = (v', k', q) → k ≤ k' ∧ k' + q.length = k + l.length := by
  intro l
  induction l with
  | nil => intro v k v' k' q h; unfold hexr at h; cases h; exact ⟨Nat.le_refl _, rfl⟩
  | cons c r ih =>
    intro v k v' k' q h
    cases hd : hexd c with
    | none => rw [hexr_none hd] at h; cases h; exact ⟨Nat.le_refl _, rfl⟩
    | some d => rw [hexr_some hd] at h; have := ih _ _ h; rw [List.length_cons]; omega
theorem hexr_bad : ∀ (l : List UInt8) (v u : Int) (k j : Nat) {v' : Int} {k' : Nat} {c : UInt8} {q : List UInt8}, hexr v k l = (v', k', c :: q) → c ≠ 95 → hexl u j l = none := by
  intro l
  induction l with
  | nil => intro v u k j v' k' c q h; unfold hexr at h; cases h
  | cons x r ih =>
    intro v u k j v' k' c q h hc
    cases hd : hexd x with
    | none =>
      rw [hexr_none hd] at h
      cases h
      rw [hexl, hd]; simp only; rw [if_neg hc]
    | some d =>
      rw [hexr_some hd] at h
      rw [hexl, hd]
      simp only
      split
      · rfl
      · exact ih _ _ _ _ h hc
theorem pow16 (k : Nat) (h : k < 16) : (16 : Int) ^ (k + 1) ≤ 18446744073709551616 := by
  have : ∀ k : Fin 16, (16 : Int) ^ (k.val + 1) ≤ 18446744073709551616 := by decide +kernel
  exact this ⟨k, h⟩
theorem step16 {v d : Int} {k : Nat} (h0 : 0 < v) (h1 : v < 16 ^ k) (hd0 : 0 ≤ d) (hd1 : d ≤ 15) (hk : k < 16) :
    IntKind.u64.wrap (IntKind.u64.wrap (v * 16) + d) = v * 16 + d ∧ v * 16 + d < 16 ^ (k + 1) := by
  have hp := pow16 k hk
  have e : (16 : Int) ^ (k + 1) = 16 ^ k * 16 := Int.pow_succ 16 k
  rw [e] at hp ⊢
  generalize (16 : Int) ^ k = P at *
  refine ⟨?_, by omega⟩
  rw [IntKind.wrap_u64, IntKind.wrap_u64]; omega
theorem hexr_told : ∀ (l : List UInt8) (v : Int) (k : Nat) {v' : Int} {k' : Nat} {q : List UInt8}, 0 < v → v < 16 ^ k → hexr v k l = (v', k', 95 :: q) → k' ≤ 16 →
    hexl v k l = some (v', k', q) ∧ v * 16 ^ (k' - k) ≤ v' := by
  intro l
  induction l with
  | nil => intro v k v' k' q h0 h1 h; unfold hexr at h; cases h
  | cons x r ih =>
    intro v k v' k' q h0 h1 h hk
    cases hd : hexd x with
    | none =>
      rw [hexr_none hd] at h
      cases h
      rw [hexl, hd]; simp only; rw [if_pos trivial, Nat.sub_self]
      exact ⟨rfl, by simp⟩
    | some d =>
      rw [hexr_some hd] at h
      have hm := (hexr_mono r _ _ h).1
      have hb := hexd_le hd
      rw [if_pos (by omega)] at h
      obtain ⟨e, hlt⟩ := step16 h0 h1 hb.1 hb.2 (show k < 16 by omega)
      rw [e] at h
      obtain ⟨i1, i2⟩ := ih (v * 16 + d) (k + 1) (by omega) hlt h hk
      rw [hexl, hd]
      simp only
      rw [if_neg (by rintro ⟨z, _⟩; omega), e]
      refine ⟨i1, ?_⟩
      refine Int.le_trans ?_ i2
      rw [show k' - k = (k' - (k + 1)) + 1 by omega, Int.pow_succ]
      have hp : (0 : Int) ≤ 16 ^ (k' - (k + 1)) := Int.pow_nonneg (by decide)
      generalize (16 : Int) ^ (k' - (k + 1)) = P at *
      have : v * (P * 16) = (v * 16) * P := by rw [Int.mul_comm P 16, Int.mul_assoc]
      rw [this]
      exact Int.mul_le_mul_of_nonneg_right (by omega) hp
theorem hexd_zero {c : UInt8} {d : Int} (h : hexd c = some d) (hc : c ≠ 48) : 0 < d := by
  unfold hexd at h
  have h48 : c.toNat ≠ 48 := fun e => hc (by apply UInt8.toNat_inj.1; simpa using e)
  split at h
  · injection h; omega
  · split at h
    · injection h; omega
    · cases h
/-- Digits that are told: as the reader takes them. -/
theorem hexr_start {l q : List UInt8} {v : Int} {k : Nat} (h : hexr 0 0 l = (v, k, 95 :: q)) (h1 : 1 ≤ k) (h2 : k ≤ 16) (h3 : k = 1 ∨ l.head? ≠ some 48) : hexl 0 0 l = some (v, k, q) ∧ (k = 1 ∨ 16 ^ (k - 1) ≤ v) := by
  cases l with
  | nil => unfold hexr at h; cases h
  | cons c r =>
    cases hd : hexd c with
    | none => rw [hexr_none hd] at h; cases h; omega
    | some d =>
      have hb := hexd_le hd
      have e : IntKind.u64.wrap (IntKind.u64.wrap ((0 : Int) * 16) + d) = d := by rw [IntKind.wrap_u64, IntKind.wrap_u64]; omega
      rw [hexr_some hd, if_pos (by omega), e] at h
      by_cases hk : k = 1
      · subst hk
        refine ⟨?_, .inl rfl⟩
        cases r with
        | nil => unfold hexr at h; cases h
        | cons x r =>
          cases hx : hexd x with
          | some y => rw [hexr_some hx] at h; have := (hexr_mono r _ _ h).1; omega
          | none =>
            rw [hexr_none hx] at h
            cases h
            rw [hexl, hd]
            simp only
            rw [if_neg (by rintro ⟨_, _, z⟩; exact z rfl), e, hexl, hx]
            simp only
            rw [if_pos trivial]
      · have hc : c ≠ 48 := by rcases h3 with h3 | h3; exact absurd h3 hk; intro z; exact h3 (by rw [z]; rfl)
        have hp := hexd_zero hd hc
        obtain ⟨i1, i2⟩ := hexr_told r d 1 hp (by omega) h h2
        refine ⟨?_, .inr ?_⟩
        · rw [hexl, hd]
          simp only
          rw [if_neg (by rintro ⟨_, z, _⟩; omega), e]
          exact i1
        · have hp2 : (0 : Int) ≤ 16 ^ (k - 1) := Int.pow_nonneg (by decide)
          generalize (16 : Int) ^ (k - 1) = P at *
          have : 1 * P ≤ d * P := Int.mul_le_mul_of_nonneg_right (by omega) hp2
          omega

/-- Numbers that are told. -/
def GoodNum (c : UInt8) (flag : Bool) (v : Int) : Prop :=
  ckind c = 1 ∨ (ckind c = 2 ∧ flag = false) ∨ (ckind c = 3 ∧ flag = false ∧ v ≤ 1) ∨ (ckind c = 4 ∧ flag = false ∧ 32 ≤ v ∧ v ≤ 126 ∧ v ≠ 39 ∧ v ≠ 92)
/-- An n in front, of whatever type. -/
def takeN : List UInt8 → Bool × List UInt8
  | [] => (false, [])
  | c :: r => if c = 110 then (true, r) else (false, c :: r)
/-- The text of a number. -/
def numT (c : UInt8) (flag : Bool) (v : Int) : List UInt8 :=
  if c = 98 then (if v = 1 then [116, 114, 117, 101] else [102, 97, 108, 115, 101])
  else if c = 99 then [39, UInt8.ofNat v.toNat, 39]
  else if flag then 45 :: Lib.decDigits v.toNat else Lib.decDigits v.toNat
theorem ckind_98 {c : UInt8} (h : ckind c = 1 ∨ ckind c = 2) : c ≠ 98 ∧ c ≠ 99 ∧ c ≠ 66 ∧ c ≠ 112 := by
  refine ⟨?_, ?_, ?_, ?_⟩ <;> (rintro rfl; revert h; decide)
theorem ckind_3 {c : UInt8} (h : ckind c = 3) : c = 98 := by
  unfold ckind at h
  split at h
  · cases h
  · split at h
    · cases h
    · split at h
      · assumption
      · split at h <;> cases h
theorem ckind_4 {c : UInt8} (h : ckind c = 4) : c = 99 := by
  unfold ckind at h
  split at h
  · cases h
  · split at h
    · cases h
    · split at h
      · cases h
      · split at h
        · assumption
        · cases h
theorem sgn_take {c : UInt8} {r t : List UInt8} {flag : Bool} (h : takeN r = (flag, t)) (hk : ckind c = 1 ∨ flag = false) : sgn (ckind c) r = (flag, t) := by
  cases r with
  | nil => exact h
  | cons x r =>
    simp only [takeN] at h
    simp only [sgn]
    by_cases hx : x = 110
    · rw [if_pos hx] at h
      cases h
      have hk1 : ckind c = 1 := by
        rcases hk with h | h
        · exact h
        · cases h
      rw [if_pos ⟨hk1, hx⟩]
    · rw [if_neg hx] at h
      cases h
      rw [if_neg (fun z => hx z.2)]
/-- What the grammar tells of a number, the reader tells. -/
theorem num_told {c : UInt8} {r t q : List UInt8} {flag : Bool} {v : Int} {k : Nat} (hn : takeN r = (flag, t)) (h : hexr 0 0 t = (v, k, 95 :: q)) (h1 : 1 ≤ k) (h2 : k ≤ 16) (h3 : k = 1 ∨ t.head? ≠ some 48) (hg : GoodNum c flag v) :
    const (c :: r) = .told (numT c flag v) q := by
  obtain ⟨e, hv⟩ := hexr_start h h1 h2 h3
  have hl := hexl_len t 0 0 (by omega) (by omega) e
  have hkind : ckind c = 1 ∨ flag = false := by
    rcases hg with h | h | h | h
    · exact .inl h
    · exact .inr h.2
    · exact .inr h.2.1
    · exact .inr h.2.1
  have hs := sgn_take hn hkind
  have key : ∀ (T : List UInt8), c ≠ 66 → c ≠ 112 → ckind c ≠ 0 → ctext (ckind c) t v k = .told T [] → const (c :: r) = .told ((if flag then [45] else []) ++ T) q := by
    intro T a1 a2 a3 a4
    simp only [const]
    rw [if_neg a1, if_neg a2, if_neg a3, hs]
    simp only [digits, e]
    rw [if_neg (by omega), a4]
  have small : ∀ j, k = 1 ∨ j < k - 1 → k = 1 ∨ (16 : Int) ^ (j + 1) ≤ v := by
    intro j hj
    rcases hv with hv | hv
    · exact .inl hv
    · rcases hj with hj | hj
      · exact .inl hj
      · refine .inr (Int.le_trans ?_ hv)
        exact_mod_cast Nat.pow_le_pow_right (by decide : 0 < 16) (by omega : j + 1 ≤ k - 1)
  rcases hg with hg | ⟨hg, rfl⟩ | ⟨hg, rfl, hv1⟩ | ⟨hg, rfl, v0, v1, v2, v3⟩
  · obtain ⟨n1, n2, n3, n4⟩ := ckind_98 (.inl hg)
    have := key (Lib.decDigits v.toNat) n3 n4 (by omega) (by unfold ctext; rw [if_pos (.inl hg), if_neg (by omega)])
    rw [this]
    unfold numT
    rw [if_neg n1, if_neg n2]
    cases flag <;> rfl
  · obtain ⟨n1, n2, n3, n4⟩ := ckind_98 (.inr hg)
    have := key (Lib.decDigits v.toNat) n3 n4 (by omega) (by unfold ctext; rw [if_pos (.inr hg), if_neg (by omega)])
    rw [this]
    unfold numT
    rw [if_neg n1, if_neg n2]
    rfl
  · have hk1 : k = 1 := by
      rcases hv with hv | hv
      · exact hv
      · by_cases hk : k = 1
        · exact hk
        · exfalso
          have : (16 : Int) ^ 1 ≤ 16 ^ (k - 1) := by exact_mod_cast Nat.pow_le_pow_right (by decide : 0 < 16) (by omega : 1 ≤ k - 1)
          omega
    have hc := ckind_3 hg
    have h01 : v = 0 ∨ v = 1 := by omega
    have := key (if v = 1 then [116, 114, 117, 101] else [102, 97, 108, 115, 101]) (by rw [hc]; decide) (by rw [hc]; decide) (by omega) (by
      unfold ctext
      rw [if_neg (by omega), if_pos hg, if_neg (by omega)]
      rcases h01 with rfl | rfl
      · rfl
      · rfl)
    rw [this]
    unfold numT
    rw [if_pos hc]
    rfl
  · have hk2 : k ≤ 6 := by
      rcases hv with hv | hv
      · omega
      · apply Decidable.byContradiction
        intro hk
        have : (16 : Int) ^ 2 ≤ 16 ^ (k - 1) := by exact_mod_cast Nat.pow_le_pow_right (by decide : 0 < 16) (by omega : 2 ≤ k - 1)
        omega
    have hc := ckind_4 hg
    have := key [39, UInt8.ofNat v.toNat, 39] (by rw [hc]; decide) (by rw [hc]; decide) (by omega) (by
      unfold ctext
      rw [if_neg (by omega), if_neg (by omega), if_neg (by omega), if_pos ⟨v0, v1, v2, v3⟩])
    rw [this]
    unfold numT
    have n98 : c ≠ 98 := by rw [hc]; decide
    rw [if_neg n98, if_pos hc]
    rfl
/-- What the grammar refuses, the reader refuses. -/
theorem num_refused {c x : UInt8} {r t q : List UInt8} {flag : Bool} {v : Int} {k : Nat} (h112 : c ≠ 112) (hn : takeN r = (flag, t)) (h : hexr 0 0 t = (v, k, x :: q)) (hx : x ≠ 95) : const (c :: r) = .bad := by
  simp only [const]
  by_cases h66 : c = 66
  · rw [if_pos h66]
  rw [if_neg h66, if_neg h112]
  by_cases h0 : ckind c = 0
  · rw [if_pos h0]
  rw [if_neg h0]
  have hb : digits (ckind c) (sgn (ckind c) r).2 = .bad := by
    by_cases hk : ckind c = 1 ∨ flag = false
    · rw [sgn_take hn hk]
      unfold digits
      rw [hexr_bad t 0 0 0 0 h hx]
    · have hf : flag = true := by cases flag; exact absurd (.inr rfl) hk; rfl
      subst hf
      cases r with
      | nil => cases hn
      | cons y r =>
        simp only [takeN] at hn
        by_cases hy : y = 110
        · rw [hy] at *
          simp only [sgn]
          rw [if_neg (fun z => hk (.inl z.1))]
          unfold digits
          rw [hexl, show hexd 110 = none from by decide]
          simp only
          rw [if_neg (by decide)]
        · rw [if_neg hy] at hn; cases hn
  rw [hb]
theorem none_refused {c : UInt8} {r : List UInt8} (h112 : c ≠ 112) (h : ckind c = 0) : const (c :: r) = .bad := by
  simp only [const]
  by_cases h66 : c = 66
  · rw [if_pos h66]
  · rw [if_neg h66, if_neg h112, if_pos h]
end Go.Proofs.YtaegllbokgjoeaaDoor.Dm
