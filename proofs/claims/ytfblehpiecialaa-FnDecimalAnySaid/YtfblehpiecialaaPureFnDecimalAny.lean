/- FnDecimalAny, of numbers and lists alone: what the grammar says of a decimal number in front of any bytes is what the reader comes to. -/
import Derived.Test.YtfblehpiecialaaPFnDecimalAnyx1
import Derived.Test.YtfblehpiecialaaPl
namespace Go.Proofs.Ytfblehpiecialaa.Pure
set_option linter.unusedVariables false
set_option linter.unusedSimpArgs false
open Go.RowKit Go.Proofs.Ytfblehpiecialaa.PFnDecimalAny Go.Proofs.YtfblehpiecialaaW.PrintWords Go.Proofs.YtfblehpiecialaaW.PrintLast

theorem isDigit_f (c : UInt8) : spec_idIsDigit.f (c.toNat : Int) = some (Dm.isDig c) := by
  unfold spec_idIsDigit.f Dm.isDig
  by_cases h : (c.toNat : Int) ≥ 48
  · rw [if_pos h]; simp; omega
  · rw [if_neg h]; simp; omega

def DecSays (l : List UInt8) (n : Int) (i : Nat) (r : Int × ByteArray × Int) : Prop :=
  r = (0, bs [], 2) ∨ ∃ x t, r = (x, bs t, 0) ∧ Dm.dec n (l.drop i) = some (x, t)

theorem stop_tells (l : List UInt8) (n : Int) (i k : Nat) (hi : i ≤ l.length) (hd : Dm.dec n (l.drop i) = some (n, l.drop i)) :
    ∃ r, spec_DoorDecimal.j2 (k + 1) (bs l) n (i : Int) false = some r ∧ DecSays l n i r := by
  refine ⟨(n, bs (l.drop i), 0), ?_, .inr ⟨n, _, rfl, hd⟩⟩
  simp only [spec_DoorDecimal.j2]
  rw [if_neg (by simp), if_pos (by omega), if_pos (by rw [bs_size]; omega)]
  simp only [Int.toNat_natCast]
  rw [bs_ex]

theorem loop_tells (l : List UInt8) (hl : l.length ≤ 2147483647) : ∀ (d i : Nat) (n : Int) (k : Nat), i + d = l.length → 2 * d + 1 < k → 0 ≤ n → n < ((10 ^ i : Nat) : Int) → i ≤ 9 →
    ∃ r, spec_DoorDecimal.l0 k (bs l) n (i : Int) = some r ∧ DecSays l n i r := by
  intro d
  induction d with
  | zero =>
    intro i n k hi hk hn hb h9
    obtain ⟨k, rfl⟩ : ∃ m, k = m + 1 + 1 := ⟨k - 2, by omega⟩
    simp only [spec_DoorDecimal.l0]
    rw [if_neg (by rw [bs_size]; omega)]
    refine stop_tells l n i k (by omega) ?_
    rw [List.drop_eq_nil_of_le (by omega)]; rfl
  | succ d ih =>
    intro i n k hi hk hn hb h9
    obtain ⟨k, rfl⟩ : ∃ m, k = m + 1 + 1 := ⟨k - 2, by omega⟩
    have hlt : i < l.length := by omega
    have hdr : l.drop i = l[i] :: l.drop (i + 1) := List.drop_eq_getElem_cons hlt
    simp only [spec_DoorDecimal.l0]
    rw [if_pos (by rw [bs_size]; omega), if_pos (by omega), bt_bs l i hlt, isDigit_f, Option.bind_some]
    by_cases hd : Dm.isDig l[i] = true
    · rw [hd]
      have hd2 := hd
      simp only [Dm.isDig, Bool.and_eq_true, decide_eq_true_eq] at hd2
      simp only [spec_DoorDecimal.j2]
      rw [if_pos trivial]
      by_cases e9 : (i : Int) = 9
      · rw [if_pos e9]
        exact ⟨_, rfl, .inl rfl⟩
      · rw [if_neg e9, if_pos (by omega), if_pos (by rw [bs_size]; omega), bt_bs l i hlt]
        have hp := Nat.pow_le_pow_right (n := 10) (by omega) (show i ≤ 8 by omega)
        have hp2 : 10 ^ (i + 1) = 10 ^ i * 10 := Nat.pow_succ 10 i
        rw [wrap_id (x := 10 * n) (by omega) (by omega), show ((l[i].toNat : Int) - 48) % 256 = (l[i].toNat : Int) - 48 from by omega,
          wrap_id (x := 10 * n + ((l[i].toNat : Int) - 48)) (by omega) (by omega), wrap_id (x := (i : Int) + 1) (by omega) (by omega)]
        obtain ⟨r, hr, hs⟩ := ih (i + 1) (10 * n + ((l[i].toNat : Int) - 48)) k (by omega) (by omega) (by omega) (by rw [hp2]; omega) (by omega)
        refine ⟨r, by simpa using hr, ?_⟩
        rcases hs with rfl | ⟨x, t, rfl, hx⟩
        · exact .inl rfl
        · refine .inr ⟨x, t, rfl, ?_⟩
          rw [hdr, dec_step _ _ _ hd (by omega), show n * 10 = 10 * n from by omega]
          exact hx
    · have hf : Dm.isDig l[i] = false := by simpa using hd
      rw [hf]
      refine stop_tells l n i k (by omega) ?_
      rw [hdr, Dm.dec, if_neg hd]

theorem door_ok (l : List UInt8) (x : Int) (t : List UInt8) (hl : l.length ≤ 2147483647) (h : Dm.decimal l = some (x, t)) : laws_doorDecimal.f (bs l) x (bs t) = some true := by
  unfold laws_doorDecimal.f impl_Decimal.f
  rw [if_pos (by rw [bs_size]; omega), bs_dl, h]
  simp

theorem door_zero : laws_doorDecimal.f (⟨#[48]⟩ : ByteArray) 0 (⟨#[]⟩ : ByteArray) = some true := door_ok [48] 0 [] (by simp) rfl

theorem says (s : List UInt8) (hl : s.length ≤ 2147483647) : ∃ k r, spec_DoorDecimal.f k (bs s) = some r ∧
    ((r = (0, bs [], 2)) ∨ (s = [] ∧ r = (0, bs [], 1)) ∨ ∃ x t, r = (x, bs t, 0) ∧ Dm.decimal s = some (x, t)) := by
  refine ⟨2 * s.length + 3, ?_⟩
  unfold spec_DoorDecimal.f
  rw [bs_tl]
  cases s with
  | nil => rw [if_pos rfl]; exact ⟨_, rfl, .inr (.inl ⟨rfl, rfl⟩)⟩
  | cons c r =>
    rw [if_neg (by simp), if_pos (by rw [bs_size]; simp), bt_zero, isDigit_f, Option.bind_some]
    have hloop : ∃ q, spec_DoorDecimal.j0 (2 * (c :: r).length + 3) (bs (c :: r)) = some q ∧
        ((q = (0, bs [], 2)) ∨ (c :: r = [] ∧ q = (0, bs [], 1)) ∨ ∃ x t, q = (x, bs t, 0) ∧ Dm.decimal (c :: r) = some (x, t)) := by
      obtain ⟨q, hq, hs⟩ := loop_tells (c :: r) hl (c :: r).length 0 0 (2 * (c :: r).length + 2) (by omega) (by omega) (by omega) (by simp) (by omega)
      refine ⟨q, ?_, ?_⟩
      · simp only [spec_DoorDecimal.j0]; exact hq
      · rcases hs with rfl | ⟨x, t, rfl, hx⟩
        · exact .inl rfl
        · exact .inr (.inr ⟨x, t, rfl, hx⟩)
    cases hd : Dm.isDig c with
    | false => rw [if_neg (by simp)]; exact ⟨_, rfl, .inl rfl⟩
    | true =>
      rw [if_pos rfl]
      by_cases h48 : (c.toNat : Int) = 48
      · rw [if_pos h48]
        cases r with
        | nil => rw [if_neg (by rw [bs_size]; simp)]; exact hloop
        | cons e r =>
          rw [if_pos (by rw [bs_size]; simp; omega), if_pos (by rw [bs_size]; simp; omega), bt_one, isDigit_f, Option.bind_some]
          cases Dm.isDig e with
          | false => rw [if_neg (by simp)]; exact hloop
          | true => rw [if_pos rfl]; exact ⟨_, rfl, .inl rfl⟩
      · rw [if_neg h48]; exact hloop

theorem FnDecimalAny : laws_FnDecimalAny.Pure := by
  intro l0 hm _ hw
  obtain ⟨s, hs, hz⟩ := bs_of (strOfNums l0)
  by_cases hbig : (l0.length : Int) > 2147483647
  · exact ⟨0, by unfold laws_FnDecimalAny.f; rw [if_pos hbig]⟩
  · have hl : s.length ≤ 2147483647 := by
      rw [hz, strOfNums_size]; omega
    obtain ⟨k, r, hr, hc⟩ := says s hl
    refine ⟨k, ?_⟩
    unfold laws_FnDecimalAny.f
    rw [if_neg hbig, hs, hr, Option.bind_some]
    rcases hc with rfl | ⟨rfl, rfl⟩ | ⟨x, t, rfl, hx⟩
    · rw [if_neg (by simp), if_neg (by simp), door_zero]; rfl
    · rw [if_neg (by simp), if_pos rfl]
      have e : impl_Decimal.f (bs []) = some (0, bs [], false) := rfl
      rw [e, Option.bind_some, if_neg (by simp), door_zero]; rfl
    · rw [if_pos rfl, door_ok s x t hl hx]; rfl

end Go.Proofs.Ytfblehpiecialaa.Pure
