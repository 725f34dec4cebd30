/- An identifier in Punycode that is written is read, in plain Lean. -/
import Derived.Test.YtkhbmkccbhkolaaDoorPB
import Derived.Test.YtkhbmkccbhkolaaDoorPA
namespace Go.Proofs.YtkhbmkccbhkolaaDoor.Dm
set_option linter.unusedVariables false
set_option linter.unusedSimpArgs false
open Go.RowKit
theorem named_puny (t r : List UInt8) (out : List Int) (hp : t.all isPlain = true) (hx : expand t = some out) : named true (t.length : Int) (t ++ r) = some ((runesBytes out).data.toList, r) := by
  unfold named
  rw [if_neg (by rw [List.length_append]; omega), Int.toNat_natCast, List.take_left', List.drop_left'] <;> try rfl
  rw [if_neg (by rw [hp]; simp), if_pos rfl, hx]
theorem undis_puny (t r : List UInt8) (out : List Int) (h0 : t ≠ []) (hp : t.all isPlain = true) (hl : t.length < 2147483550) (hx : expand t = some out) : undis (117 :: (counted t ++ r)) = some ((runesBytes out).data.toList, r) := by
  have e : pu (117 :: (counted t ++ r)) = (true, counted t ++ r) := by simp [pu]
  unfold undis
  rw [e]
  simp only
  unfold counted
  rw [List.append_assoc, List.append_assoc, decimal_digits t.length hl _ (by rw [← List.append_assoc]; exact sep_stop t r h0)]
  simp only
  rw [← List.append_assoc, us_sep t r h0]
  exact named_puny t r out hp hx
theorem ident_puny (n : Nat) (hn : n ≤ 4611686018427387904) (t r : List UInt8) (out : List Int) (h0 : t ≠ []) (hp : t.all isPlain = true) (hl : t.length < 2147483550) (hx : expand t = some out) :
    ident (disW n ++ (117 :: (counted t ++ r))) = some ((n : Int), (runesBytes out).data.toList, r) := by
  unfold ident
  rw [disamb_read n hn 117 (counted t ++ r) (by decide)]
  simp only
  rw [undis_puny t r out h0 hp hl hx]
theorem pch_plain : ∀ k : Fin 36, isPlain (pch (k.val : Int)) = true := by decide +kernel
theorem pch_pl {d : Int} (h0 : 0 ≤ d) (h1 : d < 36) : isPlain (pch d) = true := by
  have := pch_plain ⟨d.toNat, by omega⟩
  simp only at this
  rwa [Int.toNat_of_nonneg h0] at this
theorem encD_plain : ∀ (n : Nat) (q : Int) (p : Nat) (bias : Int), 0 ≤ q → ∀ c ∈ encD n q p bias, isPlain c = true := by
  intro n
  induction n with
  | zero => intro q p bias _ c hc; simp [encD] at hc
  | succ n ih =>
    intro q p bias h0 c hc
    obtain ⟨r0, r1⟩ := thr_range (36 * p) bias
    simp only [encD] at hc
    generalize thr (36 * p) bias = t at *
    split at hc
    · rw [List.mem_singleton] at hc; subst hc; exact pch_pl h0 (by omega)
    · have a0 : 0 ≤ (q - t) % (36 - t) := Int.emod_nonneg _ (by omega)
      have a1 : (q - t) % (36 - t) < 36 - t := Int.emod_lt_of_pos _ (by omega)
      rcases List.mem_cons.1 hc with hc | hc
      · subst hc; exact pch_pl (by omega) (by omega)
      · exact ih _ _ _ (Int.ediv_nonneg (by omega) (by omega)) c hc
theorem pass_plain (now : Int) : ∀ (r : List Int) (many d bias : Int) (first : Bool), 0 ≤ d → 0 ≤ many → (∀ c ∈ (pass now r many d bias first).1, isPlain c = true) ∧ 0 ≤ (pass now r many d bias first).2.1 ∧ 0 ≤ (pass now r many d bias first).2.2.1 := by
  intro r
  induction r with
  | nil => intro many d bias first h0 h1; simp only [pass]; exact ⟨by simp, h1, h0⟩
  | cons c r ih =>
    intro many d bias first h0 h1
    simp only [pass]
    by_cases c1 : c < now
    · rw [if_pos c1]; exact ih many (d + 1) bias first (by omega) h1
    · rw [if_neg c1]
      by_cases c2 : c = now
      · rw [if_pos c2]
        obtain ⟨a, b, e⟩ := ih (many + 1) 0 (adapted d (many + 1) first) false (by omega) (by omega)
        refine ⟨?_, b, e⟩
        intro x hx
        rcases List.mem_append.1 hx with hx | hx
        · exact encD_plain _ _ _ _ h0 x hx
        · exact a x hx
      · rw [if_neg c2]; exact ih many d bias first h0 h1
theorem encAll_plain : ∀ (k : Nat) (L : List Int) (now many d bias : Int) (first : Bool), 0 ≤ now → 0 ≤ many → 0 ≤ d → ∀ c ∈ encAll k L now many d bias first, isPlain c = true := by
  intro k
  induction k with
  | zero => intro L now many d bias first _ _ _ c hc; simp [encAll] at hc
  | succ k ih =>
    intro L now many d bias first h0 h1 h2 c hc
    obtain ⟨_, s2⟩ := nxt_spec L now (-1) h0 (.inl (by omega))
    simp only [encAll] at hc
    generalize nxt L now (-1) = nx at *
    split at hc
    · simp at hc
    · rename_i hx
      obtain ⟨a1, _⟩ := s2 (by omega)
      have hm : 0 ≤ (nx - now) * (many + 1) := Int.mul_nonneg (by omega) (by omega)
      obtain ⟨p1, p2, p3⟩ := pass_plain nx L many (d + (nx - now) * (many + 1)) bias first (by omega) h1
      generalize pass nx L many (d + (nx - now) * (many + 1)) bias first = P at *
      rcases List.mem_append.1 hc with hc | hc
      · exact p1 c hc
      · exact ih L (nx + 1) P.2.1 (P.2.2.1 + 1) P.2.2.2.1 P.2.2.2.2 (by omega) p2 (by omega) c hc
theorem puny_plain (L : List Int) (h : ∀ c ∈ L, c < 128 → isPlain (UInt8.ofNat c.toNat) = true) : (punyText L).all isPlain = true := by
  rw [List.all_eq_true]
  intro c hc
  unfold punyText at hc
  rcases List.mem_append.1 hc with hc | hc
  · split at hc
    · simp at hc
    · rcases List.mem_append.1 hc with hc | hc
      · obtain ⟨x, hx, rfl⟩ := List.mem_map.1 hc
        obtain ⟨h1, h2⟩ := List.mem_filter.1 hx
        exact h x h1 (of_decide_eq_true h2)
      · rw [List.mem_singleton] at hc; subst hc; decide
  · exact encAll_plain _ _ _ _ _ _ _ (by omega) (by omega) (by omega) c hc
end Go.Proofs.YtkhbmkccbhkolaaDoor.Dm
