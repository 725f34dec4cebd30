/- An identifier in Punycode that is written is read, in plain Lean. What is written of a path of names in Punycode is read: in plain Lean. -/
import Derived.Test.YtkhbmkccbhkolaaGreatDoorM2
import Derived.Test.YtkhbmkccbhkolaaGreatDoorPA
import Derived.Test.YtkhbmkccbhkolaaGreatDoorM4
import Derived.Test.YtkhbmkccbhkolaaGreatDoorPU
namespace Go.Proofs.YtkhbmkccbhkolaaGreatDoor.Dm
set_option linter.unusedVariables false
set_option linter.unusedSimpArgs false
open Go.RowKit
theorem named_puny (t r : List UInt8) (out : List Int) (hp : t.all isPlain = true) (hx : expand t = some out) : named true (t.length : Int) (t ++ r) = some ((runesBytes out).data.toList, r) := by
  unfold named
  rw [if_neg (by rw [List.length_append]; omega), Int.toNat_natCast, List.take_left', List.drop_left'] <;> try rfl
  rw [if_neg (by rw [hp]; simp), if_pos rfl, hx]
theorem undis_puny (t r : List UInt8) (out : List Int) (h0 : t ≠ []) (hp : t.all isPlain = true) (hl : t.length < 2147483550) (hx : expand t = some out) : undis (117 :: (counted t ++ r)) = some ((runesBytes out).data.toList, r) := by
  have e : pu (117 :: (counted t ++ r)) = (true, counted t ++ r) := by simp [pu]
  unfold undis
  rw [e]
  simp only
  unfold counted
  rw [List.append_assoc, List.append_assoc, decimal_digits t.length hl _ (by rw [← List.append_assoc]; exact sep_stop t r h0)]
  simp only
  rw [← List.append_assoc, us_sep t r h0]
  exact named_puny t r out hp hx
theorem ident_puny (n : Nat) (hn : n ≤ 4611686018427387904) (t r : List UInt8) (out : List Int) (h0 : t ≠ []) (hp : t.all isPlain = true) (hl : t.length < 2147483550) (hx : expand t = some out) :
    ident (disW n ++ (117 :: (counted t ++ r))) = some ((n : Int), (runesBytes out).data.toList, r) := by
  unfold ident
  rw [disamb_read n hn 117 (counted t ++ r) (by decide)]
  simp only
  rw [undis_puny t r out h0 hp hl hx]
theorem pch_plain : ∀ k : Fin 36, isPlain (pch (k.val : Int)) = true := by decide +kernel
theorem pch_pl {d : Int} (h0 : 0 ≤ d) (h1 : d < 36) : isPlain (pch d) = true := by
  have := pch_plain ⟨d.toNat, by omega⟩
  simp only at this
  rwa [Int.toNat_of_nonneg h0] at this
theorem encD_plain : ∀ (n : Nat) (q : Int) (p : Nat) (bias : Int), 0 ≤ q → ∀ c ∈ encD n q p bias, isPlain c = true := by
  intro n
  induction n with
  | zero => intro q p bias _ c hc; simp [encD] at hc
  | succ n ih =>
    intro q p bias h0 c hc
    obtain ⟨r0, r1⟩ := thr_range (36 * p) bias
    simp only [encD] at hc
    generalize thr (36 * p) bias = t at *
    split at hc
    · rw [List.mem_singleton] at hc; subst hc; exact pch_pl h0 (by omega)
    · have a0 : 0 ≤ (q - t) % (36 - t) := Int.emod_nonneg _ (by omega)
      have a1 : (q - t) % (36 - t) < 36 - t := Int.emod_lt_of_pos _ (by omega)
      rcases List.mem_cons.1 hc with hc | hc
      · subst hc; exact pch_pl (by omega) (by omega)
      · exact ih _ _ _ (Int.ediv_nonneg (by omega) (by omega)) c hc
theorem pass_plain (now : Int) : ∀ (r : List Int) (many d bias : Int) (first : Bool), 0 ≤ d → 0 ≤ many → (∀ c ∈ (pass now r many d bias first).1, isPlain c = true) ∧ 0 ≤ (pass now r many d bias first).2.1 ∧ 0 ≤ (pass now r many d bias first).2.2.1 := by
  intro r
  induction r with
  | nil => intro many d bias first h0 h1; simp only [pass]; exact ⟨by simp, h1, h0⟩
  | cons c r ih =>
    intro many d bias first h0 h1
    simp only [pass]
    by_cases c1 : c < now
    · rw [if_pos c1]; exact ih many (d + 1) bias first (by omega) h1
    · rw [if_neg c1]
      by_cases c2 : c = now
      · rw [if_pos c2]
        obtain ⟨a, b, e⟩ := ih (many + 1) 0 (adapted d (many + 1) first) false (by omega) (by omega)
        refine ⟨?_, b, e⟩
        intro x hx
        rcases List.mem_append.1 hx with hx | hx
        · exact encD_plain _ _ _ _ h0 x hx
        · exact a x hx
      · rw [if_neg c2]; exact ih many d bias first h0 h1
theorem encAll_plain : ∀ (k : Nat) (L : List Int) (now many d bias : Int) (first : Bool), 0 ≤ now → 0 ≤ many → 0 ≤ d → ∀ c ∈ encAll k L now many d bias first, isPlain c = true := by
  intro k
  induction k with
  | zero => intro L now many d bias first _ _ _ c hc; simp [encAll] at hc
  | succ k ih =>
    intro L now many d bias first h0 h1 h2 c hc
    obtain ⟨_, s2⟩ := nxt_spec L now (-1) h0 (.inl (by omega))
    simp only [encAll] at hc
    generalize nxt L now (-1) = nx at *
    split at hc
    · simp at hc
    · rename_i hx
      obtain ⟨a1, _⟩ := s2 (by omega)
      have hm : 0 ≤ (nx - now) * (many + 1) := Int.mul_nonneg (by omega) (by omega)
      obtain ⟨p1, p2, p3⟩ := pass_plain nx L many (d + (nx - now) * (many + 1)) bias first (by omega) h1
      generalize pass nx L many (d + (nx - now) * (many + 1)) bias first = P at *
      rcases List.mem_append.1 hc with hc | hc
      · exact p1 c hc
      · exact ih L (nx + 1) P.2.1 (P.2.2.1 + 1) P.2.2.2.1 P.2.2.2.2 (by omega) p2 (by omega) c hc
theorem puny_plain (L : List Int) (h : ∀ c ∈ L, c < 128 → isPlain (UInt8.ofNat c.toNat) = true) : (punyText L).all isPlain = true := by
  rw [List.all_eq_true]
  intro c hc
  unfold punyText at hc
  rcases List.mem_append.1 hc with hc | hc
  · split at hc
    · simp at hc
    · rcases List.mem_append.1 hc with hc | hc
      · obtain ⟨x, hx, rfl⟩ := List.mem_map.1 hc
        obtain ⟨h1, h2⟩ := List.mem_filter.1 hx
        exact h x h1 (of_decide_eq_true h2)
      · rw [List.mem_singleton] at hc; subst hc; decide
  · exact encAll_plain _ _ _ _ _ _ _ (by omega) (by omega) (by omega) c hc
end Go.Proofs.YtkhbmkccbhkolaaGreatDoor.Dm
namespace Go.Proofs.YtkhbmkccbhkolaaGreatDoor
set_option linter.unusedVariables false
set_option linter.unusedSimpArgs false
open Go.RowKit

/-- A name of characters, as it is written. -/
def wU (L : List Int) : List UInt8 := 117 :: Dm.counted (Dm.punyText L)
structure UOk (L : List Int) : Prop where
  hx : Dm.expand (Dm.punyText L) = some L
  hp : (Dm.punyText L).all Dm.isPlain = true
  h0 : Dm.punyText L ≠ []
  hl : (Dm.punyText L).length ≤ 20000
  hu : (Dm.UU L).length ≤ 10000
theorem ident_u (L : List Int) (h : UOk L) (r : List UInt8) : Dm.ident (wU L ++ r) = some (0, Dm.UU L, r) := by
  have := Dm.ident_puny 0 (by omega) (Dm.punyText L) r L h.h0 h.hp (by have := h.hl; omega) h.hx
  rw [show (Dm.disW 0 : List UInt8) = [] from rfl, List.nil_append, Dm.runes_list] at this
  exact this
/-- What is written of names, the last one first. -/
def symU (C : List Int) : List (List Int) → List UInt8
  | [] => 67 :: wU C
  | L :: Ls => 78 :: 118 :: (symU C Ls ++ wU L)
def textU (C : List Int) : List (List Int) → List UInt8
  | [] => Dm.UU C
  | L :: Ls => textU C Ls ++ ([58, 58] ++ Dm.UU L)
theorem textU_mono (C L : List Int) (Ls : List (List Int)) : (textU C Ls).length ≤ (textU C (L :: Ls)).length := by
  show _ ≤ (textU C Ls ++ _).length
  rw [List.length_append]; omega
theorem path_readU (C : List Int) (hC : UOk C) (mx : Int) (T : List UInt8) :
    ∀ (Ls : List (List Int)) (k : Nat) (s : RS) (r : List UInt8), Ls.length < k → (∀ L ∈ Ls, UOk L) → s.str = symU C Ls ++ r → Shown mx T s → T.length + (textU C Ls).length + 20000 ≤ 140737488355000 →
      ∃ s', pathM k s = .ok s' ∧ s'.str = r ∧ Shown mx (T ++ textU C Ls) s' := by
  intro Ls
  induction Ls with
  | nil =>
    intro k s r hk hg hs hT hl
    obtain ⟨k, rfl⟩ : ∃ m, k = m + 1 := ⟨k - 1, by simp at hk; omega⟩
    exact crate_read k s (Dm.UU C) r (wU C ++ r) 0 mx T (by rw [hs]; rfl) (ident_u C hC r) hT (by have := hC.hu; omega)
  | cons L Ls ih =>
    intro k s r hk hg hs hT hl
    obtain ⟨k, rfl⟩ : ∃ m, k = m + 1 := ⟨k - 1, by simp at hk; omega⟩
    have hp := hg L (by simp)
    have hm := textU_mono C L Ls
    obtain ⟨s1, h1, h2, h3⟩ := ih k (s.adv (symU C Ls ++ (wU L ++ r))) (wU L ++ r) (by simp at hk; omega) (fun x hx => hg x (by simp [hx])) rfl (hT.adv _) (by omega)
    have := nested_read k s 118 (symU C Ls ++ (wU L ++ r)) (Dm.UU L) r 0 mx (T ++ textU C Ls) (by rw [hs]; simp [symU]) (.inl (by decide)) s1 h1 (by rw [h2]; exact ident_u L hp r) h3 (by rw [List.length_append]; have := hp.hu; omega)
    rw [List.append_assoc, show partT 118 0 (Dm.UU L) = [58, 58] ++ Dm.UU L from by unfold partT; rw [if_neg (by decide)]] at this
    exact this
theorem symU_head (C : List Int) (Ls : List (List Int)) : ∃ c t, symU C Ls = c :: t ∧ Dm.isDig c = false := by
  cases Ls with
  | nil => exact ⟨67, _, rfl, by decide⟩
  | cons p ps => exact ⟨78, _, rfl, by decide⟩
theorem pl_wU (L : List Int) (h : UOk L) : Pl (wU L) := by
  unfold wU Dm.counted
  exact Pl.cons (by decide) (((pl_digits _).app (pl_sep _)).app (pl_all h.hp))
theorem pl_symU (C : List Int) (hC : UOk C) : ∀ Ls : List (List Int), (∀ L ∈ Ls, UOk L) → Pl (symU C Ls) := by
  intro Ls
  induction Ls with
  | nil => intro _; exact Pl.cons (by decide) (pl_wU C hC)
  | cons L Ls ih =>
    intro hg
    exact Pl.cons (by decide) (Pl.cons (by decide) ((ih fun x hx => hg x (by simp [hx])).app (pl_wU L (hg L (by simp)))))
theorem symU_len (C : List Int) : ∀ Ls : List (List Int), Ls.length ≤ (symU C Ls).length := by
  intro Ls
  induction Ls with
  | nil => simp
  | cons L Ls ih => simp only [symU, List.length_cons, List.length_append]; omega
/-- What a written path is told as. -/
theorem told_readU (C : List Int) (hC : UOk C) (ng lv : Bool) (mx : Int) (Ls : List (List Int)) (hg : ∀ L ∈ Ls, UOk L) (hl : (textU C Ls).length + 20000 ≤ 140737488355000) :
    ∃ s, toldM (symU C Ls) ng lv mx = .ok s ∧ cutMx s.mx s.out = cutMx mx (textU C Ls) := by
  have hp := (pl_symU C hC Ls hg).dots
  have e1 := noDot_app hp (.inl (rfl : ([] : List UInt8) = []))
  have e2 := dotOn_app hp (.inl (rfl : ([] : List UInt8) = []))
  rw [List.append_nil] at e1 e2
  unfold toldM
  rw [e1, e2]
  obtain ⟨c, t, hs, hd⟩ := symU_head C Ls
  obtain ⟨s1, h1, h2, h3⟩ := path_readU C hC mx [] Ls ((symU C Ls).length + 1) (RS.begin (symU C Ls) ng mx) [] (by have := symU_len C Ls; omega) hg (by rw [List.append_nil]; rfl) (shown_begin _ _ _) (by simp; omega)
  rw [symM_of (s := RS.begin (symU C Ls) ng mx) hs hd h1 h2]
  simp only [endM]
  rw [if_neg (by simp [h2]), if_pos (by unfold RS.room; have := h3.len; rw [List.nil_append] at this; simp only [List.length_nil]; omega)]
  refine ⟨_, rfl, ?_⟩
  unfold suffixed
  rw [if_neg (by rintro ⟨_, e⟩; exact e rfl)]
  have := h3.cuts
  rw [List.nil_append] at this
  exact this
end Go.Proofs.YtkhbmkccbhkolaaGreatDoor
