/- UTF-8, in plain Lean: characters that are written are read. -/
import Derived.Lib.MapLaws
import Derived.Lib.ValidLaws
import Derived.Test.YtkhbmkccbhkolaaDoorDm
namespace Go.Proofs.YtkhbmkccbhkolaaDoor.Dm
set_option linter.unusedVariables false
set_option linter.unusedSimpArgs false
open Go.RowKit Go.Lib

/-- The bytes of a character. -/
def U (c : Int) : List UInt8 := (Utf8.encode c).data.toList
theorem get0 (a : UInt8) (r : List UInt8) : (a :: r).getD 0 0 = a := rfl
theorem nat8 {n : Nat} (h : n < 256) : (UInt8.ofNat n).toNat = n := UInt8.toNat_ofNat_of_lt' (by have : UInt8.size = 256 := rfl; omega)
theorem u_read (c : Int) (hv : Utf8.valid c = true) (rest : List UInt8) : decodeL (U c ++ rest) = (c.toNat, (U c).length) := by
  have hr : (0 ≤ c ∧ c < 55296) ∨ (57344 ≤ c ∧ c ≤ 1114111) := by simpa [Utf8.valid] using hv
  rw [decodeL_N]
  unfold U Utf8.encode
  simp only [hv, if_true]
  obtain ⟨n, hn⟩ : ∃ n : Nat, c = (n : Int) := ⟨c.toNat, by omega⟩
  subst hn
  rw [Int.toNat_natCast]
  by_cases h1 : n < 128
  · rw [if_pos h1]
    simp only [List.cons_append, List.nil_append, List.getD_cons_zero, List.length_cons, List.length_nil]
    unfold decodeN
    rw [nat8 (by omega), if_pos h1]
  · rw [if_neg h1]
    by_cases h2 : n < 2048
    · rw [if_pos h2]
      simp only [List.cons_append, List.nil_append, List.getD_cons_zero, List.getD_cons_succ, List.length_cons, List.length_nil]
      rw [nat8 (by omega), nat8 (by omega)]
      unfold decodeN
      rw [if_neg (by omega), if_pos (by omega), if_pos (by omega)]
      exact Prod.ext (by show _ = n; omega) rfl
    · rw [if_neg h2]
      by_cases h3 : n < 65536
      · rw [if_pos h3]
        simp only [List.cons_append, List.nil_append, List.getD_cons_zero, List.getD_cons_succ, List.length_cons, List.length_nil]
        rw [nat8 (by omega), nat8 (by omega), nat8 (by omega)]
        unfold decodeN
        rw [if_neg (by omega), if_neg (by omega), if_pos (by omega), if_pos (by omega)]
        exact Prod.ext (by show _ = n; omega) rfl
      · rw [if_neg h3]
        simp only [List.cons_append, List.nil_append, List.getD_cons_zero, List.getD_cons_succ, List.length_cons, List.length_nil]
        rw [nat8 (by omega), nat8 (by omega), nat8 (by omega), nat8 (by omega)]
        unfold decodeN
        rw [if_neg (by omega), if_neg (by omega), if_neg (by omega), if_pos (by omega), if_pos (by omega)]
        exact Prod.ext (by show _ = n; omega) rfl
theorem u_len (c : Int) : 1 ≤ (U c).length ∧ (U c).length ≤ 4 := by
  unfold U Utf8.encode
  simp only
  repeat' split
  all_goals simp
theorem u_one (c : Int) (rest : List UInt8) (hv : Utf8.valid c = true) : ¬ ((decodeL (U c ++ rest)).1 = 65533 ∧ (decodeL (U c ++ rest)).2 = 1) := by
  rw [u_read c hv]
  rintro ⟨h1, h2⟩
  simp only at h1 h2
  have hc : c = 65533 := by omega
  subst hc
  exact absurd h2 (by decide)
/-- A text of characters. -/
def UU (L : List Int) : List UInt8 := L.flatMap U
theorem uu_valid : ∀ L : List Int, (∀ c ∈ L, Utf8.valid c = true) → validD (UU L) = true := by
  intro L
  induction L with
  | nil => intro _; rfl
  | cons c L ih =>
    intro h
    have hc := h c (List.mem_cons_self ..)
    have hl := u_len c
    show validD (U c ++ UU L) = true
    rw [validD_step _ (by intro e; have := (List.append_eq_nil_iff.1 e).1; rw [this] at hl; simp at hl), if_neg (u_one c _ hc), u_read c hc]
    rw [List.drop_left]
    exact ih fun x hx => h x (List.mem_cons_of_mem _ hx)
/-- What is read of a text, character by character. -/
def rune : Nat → List UInt8 → List Int
  | 0, _ => []
  | n + 1, l => if l = [] then [] else ((decodeL l).1 : Int) :: rune n (l.drop (decodeL l).2)
theorem rune_uu : ∀ (L : List Int) (n : Nat), (∀ c ∈ L, Utf8.valid c = true) → (UU L).length ≤ n → rune n (UU L) = L := by
  intro L
  induction L with
  | nil => intro n _ _; cases n <;> rfl
  | cons c L ih =>
    intro n h hn
    have hc := h c (List.mem_cons_self ..)
    have hl := u_len c
    have hne : U c ++ UU L ≠ [] := by intro e; have := (List.append_eq_nil_iff.1 e).1; rw [this] at hl; simp at hl
    have hn2 : (U c ++ UU L).length ≤ n := hn
    rw [List.length_append] at hn2
    obtain ⟨n, rfl⟩ : ∃ m, n = m + 1 := ⟨n - 1, by omega⟩
    show rune (n + 1) (U c ++ UU L) = _
    simp only [rune]
    rw [if_neg hne, u_read c hc]
    simp only
    rw [List.drop_left, ih n (fun x hx => h x (List.mem_cons_of_mem _ hx)) (by omega)]
    have hr : (0 ≤ c ∧ c < 55296) ∨ (57344 ≤ c ∧ c ≤ 1114111) := by simpa [Utf8.valid] using hc
    congr 1; omega
theorem rune_len : ∀ (n : Nat) (l : List UInt8), l.length ≤ n → (rune n l).length ≤ l.length := by
  intro n
  induction n with
  | zero => intro l h; simp [rune]
  | succ n ih =>
    intro l h
    simp only [rune]
    split
    · simp
    · rename_i hne
      have hd := decodeL_width l
      have hl : 0 < l.length := List.length_pos_iff.2 hne
      have := ih (l.drop (decodeL l).2) (by rw [List.length_drop]; omega)
      rw [List.length_drop] at this
      simp only [List.length_cons]
      omega
end Go.Proofs.YtkhbmkccbhkolaaDoor.Dm
