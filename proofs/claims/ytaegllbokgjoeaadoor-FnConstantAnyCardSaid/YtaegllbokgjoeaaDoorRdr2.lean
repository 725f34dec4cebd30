/- What the plain functions of the grammar's constants tell, of numbers alone. -/
import Derived.Test.YtaegllbokgjoeaaDoorRdr
import Derived.Test.YtaegllbokgjoeaaDoorPconstantHerex2
import Derived.Test.YtaegllbokgjoeaaDoorRead
import Derived.Test.YtaegllbokgjoeaaDoorDmC
namespace Go.Proofs.YtaegllbokgjoeaaDoor.Rt
set_option linter.unusedVariables false
set_option linter.unusedSimpArgs false
open Go.RowKit Go.Proofs.YtaegllbokgjoeaaDoor.PconstantHere Go.Proofs.YtaegllbokgjoeaaDoorW.PrintWords Go.Proofs.YtaegllbokgjoeaaDoorW.PrintLast Go.Proofs.YtaegllbokgjoeaaDoorW.PrintMore
theorem app (l m : List UInt8) : bs l ++ bs m = bs (l ++ m) := by
  apply ByteArray.ext
  simp [bs, ByteArray.data_append]
theorem bind_of {α β : Type} {x : Option α} {a : α} {f : α → Option β} {r : Option β} (h : x = some a) (h2 : f a = r) : x.bind f = r := by subst h; exact h2
theorem str_one (c : UInt8) : strOfNums [(c.toNat : Int)] = bs [c] := by unfold strOfNums bs; simp
theorem tmod_nat (m d : Nat) : Int.tmod (m : Int) (d : Int) = ((m % d : Nat) : Int) := rfl
theorem tdiv_nat (m d : Nat) : Int.tdiv (m : Int) (d : Int) = ((m / d : Nat) : Int) := rfl
theorem uwrap {x : Int} (h0 : 0 ≤ x) (h1 : x < 18446744073709551616) : IntKind.u64.wrap x = x := by rw [IntKind.wrap_u64]; omega
/-- The value of a digit in base 16, -1 for other bytes. -/
def hexv (c : Int) : Int := if 48 ≤ c ∧ c ≤ 57 then c - 48 else if 97 ≤ c ∧ c ≤ 102 then c - 97 + 10 else -1
theorem hexv_f (c : Int) (h0 : 0 ≤ c) (h1 : c < 256) : spec_rustHexDigit.f 1 c = some (hexv c) := by
  unfold spec_rustHexDigit.f hexv
  by_cases a1 : c ≥ 48
  · rw [if_pos a1]
    simp only [spec_rustHexDigit.j0]
    by_cases a2 : c ≤ 57
    · rw [if_pos (decide_eq_true a2), if_pos ⟨a1, a2⟩]; congr 1; omega
    · rw [if_neg (by rw [decide_eq_true_eq]; exact a2), if_neg (show ¬ (48 ≤ c ∧ c ≤ 57) by omega)]
      by_cases a3 : c ≥ 97
      · rw [if_pos a3]
        by_cases a4 : c ≤ 102
        · rw [if_pos a4, if_pos ⟨a3, a4⟩]; congr 1; omega
        · rw [if_neg a4, if_neg (by omega)]
      · rw [if_neg a3, if_neg (by omega)]
  · rw [if_neg a1]
    simp only [spec_rustHexDigit.j0]
    rw [if_neg (by decide), if_neg (show ¬ c ≥ 97 by omega), if_neg (show ¬ (48 ≤ c ∧ c ≤ 57) by omega), if_neg (show ¬ (97 ≤ c ∧ c ≤ 102) by omega)]
theorem hexv_digit {c : UInt8} {d : Int} (h : Dm.hexd c = some d) : hexv (c.toNat : Int) = d := by
  unfold Dm.hexd at h
  unfold hexv
  split at h
  · rename_i a; injection h with h; rw [if_pos a]; exact h
  · rename_i a
    split at h
    · rename_i b; injection h with h; rw [if_neg a, if_pos b]; exact h
    · cases h
theorem hexv_none {c : UInt8} (h : Dm.hexd c = none) : hexv (c.toNat : Int) = -1 := by
  unfold Dm.hexd at h
  unfold hexv
  split at h
  · cases h
  · rename_i a
    split at h
    · cases h
    · rename_i b; rw [if_neg a, if_neg b]
theorem hexv_zero : hexv 0 = -1 := by decide

/-- The bits of a letter: those of a type of integers with a sign, without one, or none. -/
def bitsB (c : UInt8) (r : Option (Int × Bool)) : Bool := match r with
  | none => false
  | some (n, s) => if Dm.ckind c = 1 then n != 0 && s else if Dm.ckind c = 2 then n != 0 && !s else n == 0
theorem bits_fin : ∀ k : Fin 256, bitsB (UInt8.ofNat k.val) (spec_rustBits.f 1 ((k.val : Nat) : Int)) = true := by decide +kernel
theorem bits_f (c : UInt8) : ∃ n s, spec_rustBits.f 1 (c.toNat : Int) = some (n, s) ∧ ((Dm.ckind c = 1 ∧ n ≠ 0 ∧ s = true) ∨ (Dm.ckind c = 2 ∧ n ≠ 0 ∧ s = false) ∨ (Dm.ckind c ≠ 1 ∧ Dm.ckind c ≠ 2 ∧ n = 0)) := by
  have h := bits_fin ⟨c.toNat, UInt8.toNat_lt c⟩
  simp only [UInt8.ofNat_toNat] at h
  cases hr : spec_rustBits.f 1 (c.toNat : Int) with
  | none => rw [hr] at h; cases h
  | some p =>
    obtain ⟨n, s⟩ := p
    rw [hr] at h
    refine ⟨n, s, rfl, ?_⟩
    simp only [bitsB] at h
    split at h
    · rename_i h1; simp at h; exact .inl ⟨h1, h.1, h.2⟩
    · rename_i h1
      split at h
      · rename_i h2; simp at h; exact .inr (.inl ⟨h2, h.1, h.2⟩)
      · rename_i h2; simp at h; exact .inr (.inr ⟨h1, h2, h⟩)
theorem noc_f (c : Int) : ∃ r, spec_rustNoConstant.f c = some r ∧ (r = 1 ∨ r = 2) := by
  unfold spec_rustNoConstant.f
  repeat' split
  all_goals exact ⟨_, rfl, by omega⟩
theorem u64_nn (x : Int) : 0 ≤ IntKind.u64.wrap x := by rw [IntKind.wrap_u64]; omega
theorem number_f (c : UInt8) (v : Int) (flag : Bool) (name : ByteArray) : ∃ b, spec_isRustNumber.f 1 20 (c.toNat : Int) name v flag [] = some b ∧ (b = true → Dm.GoodNum c flag v) := by
  unfold spec_isRustNumber.f
  by_cases h98 : (c.toNat : Int) = 98
  · have hc : c = 98 := UInt8.toNat_inj.1 (by rw [show (98 : UInt8).toNat = 98 from rfl]; omega)
    have hk : Dm.ckind c = 3 := by rw [hc]; decide
    rw [if_pos h98]
    by_cases h1 : v ≤ 1
    · rw [if_pos h1]; exact ⟨_, rfl, fun e => .inr (.inr (.inl ⟨hk, by simpa using e, h1⟩))⟩
    · rw [if_neg h1]; exact ⟨_, rfl, fun e => by cases e⟩
  · rw [if_neg h98]
    by_cases h99 : (c.toNat : Int) = 99
    · have hc : c = 99 := UInt8.toNat_inj.1 (by rw [show (99 : UInt8).toNat = 99 from rfl]; omega)
      have hk : Dm.ckind c = 4 := by rw [hc]; decide
      rw [if_pos h99]
      by_cases h1 : v ≥ 32
      · rw [if_pos h1]
        by_cases h2 : v ≤ 126
        · rw [if_pos h2]
          by_cases h3 : v = 39
          · rw [if_pos h3]; exact ⟨_, rfl, fun e => by cases e⟩
          · rw [if_neg h3]
            by_cases h4 : v = 34
            · rw [if_pos h4]; exact ⟨_, rfl, fun e => by cases e⟩
            · rw [if_neg h4]
              by_cases h5 : v = 92
              · rw [if_pos h5]; exact ⟨_, rfl, fun e => by cases e⟩
              · rw [if_neg h5]; exact ⟨_, rfl, fun e => .inr (.inr (.inr ⟨hk, by simpa using e, h1, h2, h3, h5⟩))⟩
        · rw [if_neg h2]; exact ⟨_, rfl, fun e => by cases e⟩
      · rw [if_neg h1]; exact ⟨_, rfl, fun e => by cases e⟩
    · rw [if_neg h99]
      obtain ⟨n, s, hb, hn⟩ := bits_f c
      rw [hb]
      simp only [Option.bind_some]
      rcases hn with ⟨hk, h0, rfl⟩ | ⟨hk, h0, rfl⟩ | ⟨_, _, h0⟩
      · rw [if_neg h0, if_pos rfl]
        cases flag with
        | true =>
          rw [if_pos rfl]
          by_cases hv : v > 0
          · rw [if_pos hv, if_pos (u64_nn _)]; exact ⟨_, rfl, fun _ => .inl hk⟩
          · rw [if_neg hv]; exact ⟨_, rfl, fun e => by cases e⟩
        | false => rw [if_neg (by decide), if_pos (u64_nn _)]; exact ⟨_, rfl, fun _ => .inl hk⟩
      · rw [if_neg h0, if_neg (by decide)]
        cases flag with
        | true => rw [if_pos rfl]; exact ⟨_, rfl, fun e => by cases e⟩
        | false =>
          rw [if_neg (by decide)]
          by_cases h64 : n = 64
          · rw [if_pos h64]; exact ⟨_, rfl, fun _ => .inr (.inl ⟨hk, rfl⟩)⟩
          · rw [if_neg h64]
            by_cases hnn : 0 ≤ n
            · rw [if_pos hnn]; exact ⟨_, rfl, fun _ => .inr (.inl ⟨hk, rfl⟩)⟩
            · exfalso
              have : ∀ k : Fin 256, (match spec_rustBits.f 1 ((k.val : Nat) : Int) with | some (n, _) => decide (0 ≤ n) | none => true) = true := by decide +kernel
              have := this ⟨c.toNat, UInt8.toNat_lt c⟩
              simp only [hb] at this
              exact hnn (of_decide_eq_true this)
      · rw [if_pos h0]; exact ⟨_, rfl, fun e => by cases e⟩
theorem dec_loop (m : Nat) : ∀ k, m < k → 1 < k → m < 18446744073709551616 → spec_RustDecimal.f k (m : Int) = some (bs (Lib.decDigits m)) := by
  have small : ∀ (d k : Nat), d < 10 → spec_RustDecimal.f (k + 1) (d : Int) = some (bs [UInt8.ofNat (48 + d)]) := by
    intro d k hd
    simp only [spec_RustDecimal.f]
    rw [if_pos (by omega), uwrap (by omega) (by omega)]
    have e : (48 + (d : Int)) % 256 = ((UInt8.ofNat (48 + d)).toNat : Int) := by simp
    rw [e, str_one]
  induction m using Nat.strongRecOn with
  | _ m ih =>
    intro k hk hk1 hm
    obtain ⟨k, rfl⟩ : ∃ j, k = j + 1 := ⟨k - 1, by omega⟩
    rw [Lib.decDigits]
    by_cases h10 : m < 10
    · rw [dif_pos h10]; exact small m k h10
    · rw [dif_neg h10]
      simp only [spec_RustDecimal.f]
      have e1 : Int.tmod (m : Int) 10 = ((m % 10 : Nat) : Int) := tmod_nat m 10
      have e2 : Int.tdiv (m : Int) 10 = ((m / 10 : Nat) : Int) := tdiv_nat m 10
      have hl := Dm.dec_len20 (m / 10) (by omega)
      rw [if_neg (by omega), e1, e2, uwrap (x := ((m / 10 : Nat) : Int)) (by omega) (by omega)]
      obtain ⟨k, rfl⟩ : ∃ j, k = j + 1 := ⟨k - 1, by omega⟩
      refine bind_of (ih (m / 10) (by omega) (k + 1) (by omega) (by omega) (by omega)) ?_
      refine bind_of (small (m % 10) k (by omega)) ?_
      rw [if_pos (by rw [bs_size, bs_size, List.length_singleton]; omega), app]
/-- The text of a number. -/
theorem text_f (c : UInt8) (v : Nat) (flag : Bool) (name : ByteArray) (hv : v < 18446744073709551616) (hg : Dm.GoodNum c flag (v : Int)) (k : Nat) (hk : v < k) (hk1 : 1 < k) :
    spec_RustConstantText.f (k + 1) 20 (c.toNat : Int) name (v : Int) flag [] = some (bs (Dm.numT c flag (v : Int))) := by
  have hd := Dm.dec_len20 v hv
  unfold spec_RustConstantText.f
  refine bind_of ?_ rfl
  unfold spec_rustNumberText.f Dm.numT
  rw [if_neg (by decide)]
  by_cases h98 : c = 98
  · subst h98
    rw [if_pos (by rfl), if_pos rfl]
    simp only [spec_rustNumberText.j0]
    by_cases h1 : (v : Int) = 1
    · rw [if_pos (by rw [h1]; rfl), if_pos h1]; rfl
    · rw [if_neg (by rw [beq_iff_eq]; exact h1), if_pos (by rfl), if_neg h1]; rfl
  · have n98 : ¬ ((c.toNat : Int) = 98) := fun e => h98 (UInt8.toNat_inj.1 (by rw [show (98 : UInt8).toNat = 98 from rfl]; omega))
    rw [if_neg n98, if_neg h98]
    simp only [spec_rustNumberText.j0]
    rw [if_neg (by decide), if_neg n98]
    by_cases h99 : c = 99
    · subst h99
      rw [if_pos (by rfl), if_pos rfl]
      have hv2 : (v : Int) % 256 = ((UInt8.ofNat v).toNat : Int) := by simp
      refine bind_of rfl ?_
      rw [hv2, str_one, if_pos (by rw [bs_size]; simp), show (⟨#[39]⟩ : ByteArray) = bs [39] from rfl, app, if_pos (by rw [bs_size]; simp), app]
      simp
    · have n99 : ¬ ((c.toNat : Int) = 99) := fun e => h99 (UInt8.toNat_inj.1 (by rw [show (99 : UInt8).toNat = 99 from rfl]; omega))
      rw [if_neg n99, if_neg h99]
      cases flag with
      | true =>
        rw [if_pos rfl, if_pos rfl]
        refine bind_of (dec_loop v k hk hk1 hv) ?_
        rw [if_pos (by rw [bs_size]; omega), show (⟨#[45]⟩ : ByteArray) = bs [45] from rfl, app, Int.toNat_natCast]; rfl
      | false =>
        rw [if_neg (by decide), if_neg (by decide)]
        refine bind_of (dec_loop v k hk hk1 hv) ?_
        rw [Int.toNat_natCast]
theorem hole_f (letter num : Int) (name : ByteArray) (flag : Bool) (k : Nat) : spec_RustConstantText.f k 21 letter name num flag [] = some (bs [95]) := by
  unfold spec_RustConstantText.f
  refine bind_of ?_ rfl
  unfold spec_rustNumberText.f
  rw [if_pos rfl]; rfl
end Go.Proofs.YtaegllbokgjoeaaDoor.Rt
