/- The reader's Punycode in plain Lean: lists of bytes and of runes, no Go. strings.LastIndex of an underscore, utf8.ValidRune, and the reader's Punycode. Identifiers in plain Lean. Written identifiers, in plain Lean. Decimal digits, in plain Lean: what strconv writes the reader reads. What is written is read: identifiers, in plain Lean. -/
import Derived.Test.YtkhbmkccbhkolaaGreatDoorM1
import Derived.Laws.IdiomStrings
import Derived.Laws.Cover4
import Derived.OwnWalk
import Derived.Lib.ItoaNum
namespace Go.Proofs.YtkhbmkccbhkolaaGreatDoor.Dm
set_option linter.unusedVariables false
set_option linter.unusedSimpArgs false
open Go.RowKit

/-- A digit of Punycode, as the reader takes it. -/
def pdig (c : UInt8) : Option Int :=
  if 48 ≤ (c.toNat : Int) ∧ (c.toNat : Int) ≤ 57 then some ((c.toNat : Int) - 48 + 26)
  else if 65 ≤ (c.toNat : Int) ∧ (c.toNat : Int) ≤ 90 then some ((c.toNat : Int) - 65)
  else if 97 ≤ (c.toNat : Int) ∧ (c.toNat : Int) ≤ 122 then some ((c.toNat : Int) - 97)
  else none

theorem pdig_range {c : UInt8} {g : Int} (h : pdig c = some g) : 0 ≤ g ∧ g ≤ 35 := by
  unfold pdig at h
  split at h
  · injection h with h; omega
  · split at h
    · injection h with h; omega
    · split at h
      · injection h with h; omega
      · cases h

/-- The threshold of a digit. -/
def thr (k bias : Int) : Int := if k ≤ bias then 1 else if k > bias + 26 then 26 else k - bias
theorem thr_range (k bias : Int) : 1 ≤ thr k bias ∧ thr k bias ≤ 26 := by unfold thr; split <;> (try split) <;> omega

/-- A delta: what i comes to, and what follows. -/
def delta (bias : Int) : Int → Int → Int → List UInt8 → Option (Int × List UInt8)
  | _, _, _, [] => none
  | k, i, w, c :: r =>
    match pdig c with
    | none => none
    | some g =>
      if g < thr k bias then some (i + g * w, r)
      else if w ≥ 59652323 then none
      else delta bias (k + 36) (i + g * w) (w * (36 - thr k bias)) r

/-- The loop that makes a delta small. -/
def small (d k : Int) : Int × Int := if 455 < d then small (d / 35) (k + 36) else (d, k)
termination_by d.toNat
decreasing_by omega

/-- The bias behind a delta. -/
def adapted (d many : Int) (first : Bool) : Int :=
  let d := if first then d / 700 else d / 2
  let s := small (d + d / many) 0
  s.2 + 36 * s.1 / (s.1 + 38)

def validRune (n : Int) : Bool := (decide (0 ≤ n) && decide (n < 55296)) || (decide (57343 < n) && decide (n ≤ 1114111))

/-- The reader's loop over the deltas: the runes, or none where it fails. -/
def deltas : Nat → List Int → Int → Int → Int → List UInt8 → Option (List Int)
  | 0, _, _, _, _, _ => none
  | fuel + 1, out, i, n, bias, enc =>
    if enc = [] then some out else
    match delta bias 36 i 1 enc with
    | none => none
    | some (j, r) =>
      let many : Int := out.length + 1
      let m := n + j / many
      if m > 1114111 then none
      else if validRune m = false then none
      else deltas fuel (out.take (j % many).toNat ++ m :: out.drop (j % many).toNat) (j % many + 1) m (adapted (j - i) many (i == 0)) r

/-- Where the last underscore stands; -1 if there is none. -/
def lastU : List UInt8 → Int
  | [] => -1
  | c :: r => if lastU r ≥ 0 then lastU r + 1 else if c = 95 then 0 else -1

/-- The reader's Punycode: the runes. -/
def expand (s : List UInt8) : Option (List Int) :=
  if lastU s ≥ 0 then deltas ((s.length : Nat) + 1) ((s.take (lastU s).toNat).map fun c => (c.toNat : Int)) 0 128 72 (s.drop ((lastU s).toNat + 1))
  else deltas (s.length + 1) [] 0 128 72 s

end Go.Proofs.YtkhbmkccbhkolaaGreatDoor.Dm
namespace Go.Proofs.YtkhbmkccbhkolaaGreatDoor
set_option linter.unusedVariables false
set_option linter.unusedSimpArgs false
open Go.RowKit

theorem lastU_snoc (c : UInt8) : ∀ p : List UInt8, Dm.lastU (p ++ [c]) = if c = 95 then (p.length : Int) else Dm.lastU p
  | [] => by
    by_cases h : c = 95 <;> simp [Dm.lastU, h]
  | a :: p => by
    simp only [List.cons_append, Dm.lastU, lastU_snoc c p, List.length_cons]
    by_cases h : c = 95
    · rw [if_pos h, if_pos h, if_pos (by omega)]; omega
    · rw [if_neg h, if_neg h]
theorem lastU_take {l : List UInt8} {k : Nat} (hk : k < l.length) : Dm.lastU (l.take (k + 1)) = if l[k] = 95 then (k : Int) else Dm.lastU (l.take k) := by
  rw [List.take_succ_eq_append_getElem hk, lastU_snoc, List.length_take, Nat.min_eq_left (by omega)]
theorem lastU_lt : ∀ l : List UInt8, Dm.lastU l < l.length ∧ -1 ≤ Dm.lastU l
  | [] => by simp [Dm.lastU]
  | c :: r => by
    have := lastU_lt r
    simp only [Dm.lastU, List.length_cons]
    split
    · omega
    · split <;> omega

theorem bs_getE (l : List UInt8) (k : Nat) (h : k < (bs l).size) (h2 : k < l.length) : (bs l)[k]'h = l[k] := rfl

theorem lastByte_calls (l : List UInt8) (w : World) (hl : l.length ≤ 4611686018427387904) :
    Calls Tryz.prog 97 #[.string (bs l), .int .u8 95] w fun e w' => e = .returned (.int .i64 (Dm.lastU l)) ∧ w = w' := by
  have hz := bs_size l
  go_enter Tryz.func97, Tryz.ntmps97
  go_wp2_with fail
  go_loop [5] (fun v => ∃ k : Nat, v = .int .i64 ((k : Int) - 1) ∧ k ≤ l.length ∧ Hid (Dm.lastU l = Dm.lastU (l.take k))) (fun v => (intOf v + 1).toNat)
  case atStart => exact ⟨l.length, rfl, Nat.le_refl _, Lib.hid (by rw [List.take_length])⟩
  case round =>
    obtain ⟨k, rfl, hk, HU⟩ := hrel
    cases k with
    | zero =>
      go_wp2_with fail
      go_ret
      refine ⟨?_, rfl⟩
      rw [HU.out]; rfl
    | succ k =>
      have hlt : k < l.length := hk
      have HT := Lib.hid (lastU_take hlt)
      have e1 : (((k : Nat) + 1 : Nat) : Int) - 1 = (k : Int) := by omega
      by_cases h95 : l[k] = 95
      · have hb : (((bs l)[k]'(by rw [hz]; exact hlt)).toNat : Int) = 95 := by rw [bs_getE l k _ hlt, h95]; rfl
        rw [e1]
        clear e1
        go_wp2_with fail
        go_ret
        refine ⟨?_, rfl⟩
        rw [HU.out, HT.out, if_pos h95]
        rfl
      · have hb : ((((bs l)[k]'(by rw [hz]; exact hlt)).toNat : Int) == 95) = false := by
          rw [beq_eq_false_iff_ne, bs_getE l k _ hlt]
          intro e
          exact h95 ((toNat_eq (n := 95) (by omega)).1 (by rw [e]; rfl))
        have HN : Hid (Dm.lastU l = Dm.lastU (l.take k)) := Lib.hid (by rw [HU.out, HT.out, if_neg h95])
        rw [e1]
        clear e1 h95
        go_wp2_with fail
        go_round
        case rel => exact ⟨k, rfl, by omega, HN⟩
        case measure => simp [intOf]

theorem lastIndex_calls (l : List UInt8) (w : World) (hl : l.length ≤ 4611686018427387904) :
    Calls Tryz.prog 94 #[.string (bs l), .string ⟨#[95]⟩] w fun e w' => e = .returned (.int .i64 (Dm.lastU l)) ∧ w = w' := by
  have hc := lastByte_calls l w hl
  go_enter Tryz.func94, Tryz.ntmps94
  go_wp2_with fail
  refine hc.mono ?_
  rintro e w1 ⟨rfl, rfl⟩
  go_wp2_with fail
  go_ret
  exact ⟨rfl, rfl⟩

theorem validRune_calls (n : Int) (w : World) :
    Calls Tryz.prog 95 #[.int .i32 n] w fun e w' => e = .returned (.bool (Dm.validRune n)) ∧ w = w' := by
  unfold Dm.validRune
  by_cases a : 0 ≤ n <;> by_cases b : n < 55296 <;> by_cases c : 57343 < n <;> by_cases d : n ≤ 1114111
  all_goals
    first
    | omega
    | (go_enter Tryz.func95, Tryz.ntmps95
       go_wp2
       go_ret
       exact ⟨by simp [a, b, c, d], rfl⟩)

end Go.Proofs.YtkhbmkccbhkolaaGreatDoor
namespace Go.Proofs.YtkhbmkccbhkolaaGreatDoor.Dm
set_option linter.unusedVariables false
set_option linter.unusedSimpArgs false
open Go.RowKit

/-- A letter, a digit or an underscore. -/
def isPlain (c : UInt8) : Bool :=
  (decide (48 ≤ (c.toNat : Int)) && decide ((c.toNat : Int) ≤ 57)) || (decide (65 ≤ (c.toNat : Int)) && decide ((c.toNat : Int) ≤ 90)) ||
  (decide (97 ≤ (c.toNat : Int)) && decide ((c.toNat : Int) ≤ 122)) || decide ((c.toNat : Int) = 95)
theorem isPlain_low {c : UInt8} (h : isPlain c = true) : c.toNat < 128 := by
  unfold isPlain at h
  simp only [Bool.or_eq_true, Bool.and_eq_true, decide_eq_true_eq] at h
  omega

/-- Whether there is a u, and what follows. -/
def pu : List UInt8 → Bool × List UInt8
  | [] => (false, [])
  | c :: r => if c = 117 then (true, r) else (false, c :: r)
/-- What follows an underscore, if there is one. -/
def us : List UInt8 → List UInt8
  | [] => []
  | c :: r => if c = 95 then r else c :: r
/-- A disambiguator. -/
def disamb : List UInt8 → Option (Int × List UInt8)
  | [] => some (0, [])
  | c :: r => if c = 115 then (match base62 r with | some (n, t) => some (wrap64 (n + 1), t) | none => none) else some (0, c :: r)

/-- The bytes of a name, of a whole number of bytes in front of a text. -/
def named (puny : Bool) (n : Int) (l : List UInt8) : Option (List UInt8 × List UInt8) :=
  if (l.length : Int) < n then none
  else if (l.take n.toNat).all isPlain = false then none
  else if puny then (match expand (l.take n.toNat) with | some out => some ((runesBytes out).data.toList, l.drop n.toNat) | none => none)
  else some (l.take n.toNat, l.drop n.toNat)
def undis (l : List UInt8) : Option (List UInt8 × List UInt8) :=
  match decimal (pu l).2 with
  | none => none
  | some (n, r) => named (pu l).1 n (us r)
def ident (l : List UInt8) : Option (Int × List UInt8 × List UInt8) :=
  match disamb l with
  | none => none
  | some (d, r) => match undis r with
    | none => none
    | some (t, q) => some (d, t, q)
end Go.Proofs.YtkhbmkccbhkolaaGreatDoor.Dm
namespace Go.Proofs.YtkhbmkccbhkolaaGreatDoor.Dm
set_option linter.unusedVariables false
set_option linter.unusedSimpArgs false

def isLet (c : UInt8) : Bool :=
  (decide (65 ≤ (c.toNat : Int)) && decide ((c.toNat : Int) ≤ 90)) || (decide (97 ≤ (c.toNat : Int)) && decide ((c.toNat : Int) ≤ 122))
theorem isPlain_parts (c : UInt8) : isPlain c = (isDig c || isLet c || decide ((c.toNat : Int) = 95)) := by
  unfold isPlain isDig isLet
  simp only [Bool.or_assoc]
/-- An underscore, where the bytes begin with a digit or an underscore. -/
def sep : List UInt8 → List UInt8
  | [] => []
  | c :: _ => if isDig c = true ∨ c = 95 then [95] else []
def counted (l : List UInt8) : List UInt8 := Lib.decDigits l.length ++ sep l ++ l
def written (l : List UInt8) : List UInt8 := if l = [] then [48, 95] else counted l
end Go.Proofs.YtkhbmkccbhkolaaGreatDoor.Dm
namespace Go.Proofs.YtkhbmkccbhkolaaGreatDoor.Dm
set_option linter.unusedVariables false
set_option linter.unusedSimpArgs false

theorem digits_ne (u : Nat) : Lib.decDigits u ≠ [] := by
  unfold Lib.decDigits
  split <;> simp

theorem dec_one (v : Int) (d : Nat) (hd : d < 10) (r : List UInt8) (h0 : 0 ≤ v) (h1 : v < 214748364 - d) : dec v (UInt8.ofNat (48 + d) :: r) = dec (v * 10 + d) r := by
  have e : ((UInt8.ofNat (48 + d)).toNat : Int) = 48 + d := by simp; omega
  rw [dec, if_pos (by unfold isDig; simp; omega), if_neg (by rw [e]; omega), e]
  congr 1; omega

theorem dec_digits (u : Nat) : ∀ r, u < 2147483550 → dec 0 (Lib.decDigits u ++ r) = dec (u : Int) r := by
  induction u using Nat.strongRecOn with
  | _ u ih =>
    intro r hu
    rw [Lib.decDigits]
    by_cases h : u < 10
    · rw [dif_pos h, List.singleton_append, dec_one 0 u h r (by omega) (by omega)]
      congr 1; omega
    · rw [dif_neg h, List.append_assoc, ih (u / 10) (by omega) _ (by omega), List.singleton_append, dec_one _ _ (by omega) r (by omega) (by omega)]
      congr 1; omega

theorem dec_stop (v : Int) (r : List UInt8) (h : ∀ c t, r = c :: t → isDig c = false) : dec v r = some (v, r) := by
  cases r with
  | nil => rfl
  | cons c t => rw [dec, if_neg (by rw [h c t rfl]; simp)]

theorem decimal_digits (u : Nat) (hu : u < 2147483550) (r : List UInt8) (h : ∀ c t, r = c :: t → isDig c = false) : decimal (Lib.decDigits u ++ r) = some ((u : Int), r) := by
  unfold decimal
  have hn := digits_ne u
  cases hd : Lib.decDigits u with
  | nil => exact absurd hd hn
  | cons c t =>
    have := dec_digits u r hu
    rw [hd, dec_stop _ _ h] at this
    simpa using this

theorem itoa_nat (u : Nat) : Lib.itoa (u : Int) = Lib.decDigits u := by
  unfold Lib.itoa
  rw [if_neg (by omega)]
  simp

theorem digits_len (u : Nat) : (Lib.decDigits u).length ≤ u + 1 := by
  induction u using Nat.strongRecOn with
  | _ u ih =>
    rw [Lib.decDigits]
    split
    · simp
    · rw [List.length_append, List.length_singleton]; have := ih (u / 10) (by omega); omega

theorem digits_len10 (u : Nat) (h : u < 10000000000) : (Lib.decDigits u).length ≤ 10 := by
  have step : ∀ k u, u < 10 ^ (k + 1) → (Lib.decDigits u).length ≤ k + 1 := by
    intro k
    induction k with
    | zero => intro u hu; rw [Lib.decDigits, dif_pos (by simpa using hu)]; simp
    | succ k ih =>
      intro u hu
      rw [Lib.decDigits]
      split
      · simp
      · rw [List.length_append, List.length_singleton]
        have := ih (u / 10) (by rw [Nat.div_lt_iff_lt_mul (by omega)]; rw [Nat.pow_succ] at hu; exact hu)
        omega
  exact step 9 u (by simpa using h)

/-- All are digits. -/
theorem digits_dig (u : Nat) : ∀ c ∈ Lib.decDigits u, isDig c = true := by
  induction u using Nat.strongRecOn with
  | _ u ih =>
    have one : ∀ d, d < 10 → isDig (UInt8.ofNat (48 + d)) = true := by
      intro d hd; unfold isDig; simp; omega
    rw [Lib.decDigits]
    split
    · intro c hc; rw [List.mem_singleton] at hc; subst hc; exact one u (by omega)
    · intro c hc
      rcases List.mem_append.1 hc with hc | hc
      · exact ih _ (by omega) c hc
      · rw [List.mem_singleton] at hc; subst hc; exact one _ (by omega)
end Go.Proofs.YtkhbmkccbhkolaaGreatDoor.Dm
namespace Go.Proofs.YtkhbmkccbhkolaaGreatDoor.Dm
set_option linter.unusedVariables false
set_option linter.unusedSimpArgs false
open Go.RowKit

/-! ### numbers in base 62 -/
def D62 : List UInt8 := [48, 49, 50, 51, 52, 53, 54, 55, 56, 57, 97, 98, 99, 100, 101, 102, 103, 104, 105, 106, 107, 108, 109, 110, 111, 112, 113, 114, 115, 116, 117, 118, 119, 120, 121, 122, 65, 66, 67, 68, 69, 70, 71, 72, 73, 74, 75, 76, 77, 78, 79, 80, 81, 82, 83, 84, 85, 86, 87, 88, 89, 90]
theorem d62_dig : ∀ k : Fin 62, dig62 (D62.getD k.val 0) = some (k.val : Int) ∧ D62.getD k.val 0 ≠ 95 := by decide
def dig1 (m : Nat) : UInt8 := D62.getD m 0
theorem dig1_dig {m : Nat} (h : m < 62) : dig62 (dig1 m) = some (m : Int) ∧ dig1 m ≠ 95 := d62_dig ⟨m, h⟩
def digs62 (m : Nat) : List UInt8 := if h : m < 62 then [dig1 m] else digs62 (m / 62) ++ [dig1 (m % 62)]
termination_by m
decreasing_by omega
/-- The number, and an underscore. -/
def b62W (n : Nat) : List UInt8 := if n = 0 then [95] else digs62 (n - 1) ++ [95]
theorem b62_one (v : Int) (m : Nat) (hm : m < 62) (r : List UInt8) (h0 : 0 ≤ v) (h1 : v * 62 + m ≤ 9223372036854775807) : b62 v (dig1 m :: r) = b62 (v * 62 + m) r := by
  obtain ⟨hd, hn⟩ := dig1_dig hm
  rw [b62, if_neg hn, hd]
  simp only
  have e1 : wrap64 (v * 62) = v * 62 := by unfold wrap64; omega
  rw [e1, show wrap64 (v * 62 + (m : Int)) = v * 62 + m by unfold wrap64; omega]
theorem b62_digs (m : Nat) : ∀ r, m < 4611686018427387904 → b62 0 (digs62 m ++ r) = b62 (m : Int) r := by
  induction m using Nat.strongRecOn with
  | _ m ih =>
    intro r hm
    rw [digs62]
    by_cases h : m < 62
    · rw [dif_pos h, List.singleton_append, b62_one 0 m h r (by omega) (by omega)]
      congr 1; omega
    · rw [dif_neg h, List.append_assoc, ih (m / 62) (by omega) _ (by omega), List.singleton_append, b62_one _ _ (by omega) r (by omega) (by omega)]
      congr 1; omega
theorem digs62_ne (m : Nat) : digs62 m ≠ [] := by
  unfold digs62
  split <;> simp
theorem digs62_no (m : Nat) : ∀ c ∈ digs62 m, c ≠ 95 := by
  induction m using Nat.strongRecOn with
  | _ m ih =>
    rw [digs62]
    split
    · intro c hc; rw [List.mem_singleton] at hc; subst hc; exact (dig1_dig (by assumption)).2
    · intro c hc
      rcases List.mem_append.1 hc with hc | hc
      · exact ih _ (by omega) c hc
      · rw [List.mem_singleton] at hc; subst hc; exact (dig1_dig (by omega)).2
theorem digs62_len (m : Nat) : (digs62 m).length ≤ m + 1 := by
  induction m using Nat.strongRecOn with
  | _ m ih =>
    rw [digs62]
    split
    · simp
    · rw [List.length_append, List.length_singleton]; have := ih (m / 62) (by omega); omega
theorem base62_read (n : Nat) (hn : n ≤ 4611686018427387904) (r : List UInt8) : base62 (b62W n ++ r) = some ((n : Int), r) := by
  unfold b62W
  by_cases h : n = 0
  · subst h; simp [base62]
  · rw [if_neg h]
    have hne := digs62_ne (n - 1)
    have hno := digs62_no (n - 1)
    have hb := b62_digs (n - 1) ([95] ++ r) (by omega)
    rw [List.append_assoc]
    cases hd : digs62 (n - 1) with
    | nil => exact absurd hd hne
    | cons c t =>
      rw [hd] at hno hb
      rw [List.cons_append, base62, if_neg (hno c (by simp)), ← List.cons_append, hb, List.singleton_append, b62, if_pos rfl]
      rw [show wrap64 (((n - 1 : Nat) : Int) + 1) = (n : Int) by unfold wrap64; omega]
/-- A disambiguator. -/
def disW (n : Nat) : List UInt8 := if n = 0 then [] else 115 :: b62W (n - 1)
theorem disamb_read (n : Nat) (hn : n ≤ 4611686018427387904) (c : UInt8) (r : List UInt8) (hc : c ≠ 115) : disamb (disW n ++ c :: r) = some ((n : Int), c :: r) := by
  unfold disW
  by_cases h : n = 0
  · subst h; simp only [if_pos, List.nil_append, disamb, if_neg hc]; rfl
  · rw [if_neg h, List.cons_append, disamb, if_pos rfl, base62_read (n - 1) (by omega)]
    simp only
    rw [show wrap64 (((n - 1 : Nat) : Int) + 1) = (n : Int) by unfold wrap64; omega]

/-! ### names -/
theorem us_sep (t r : List UInt8) (h : t ≠ []) : us (sep t ++ t ++ r) = t ++ r := by
  cases t with
  | nil => exact absurd rfl h
  | cons c t =>
    simp only [sep]
    by_cases hc : isDig c = true ∨ c = 95
    · rw [if_pos hc]; rfl
    · rw [if_neg hc]
      have : c ≠ 95 := fun e => hc (.inr e)
      show us (c :: (t ++ r)) = _
      simp only [us, if_neg this]; rfl
theorem sep_stop (t r : List UInt8) (h : t ≠ []) : ∀ c u, sep t ++ t ++ r = c :: u → isDig c = false := by
  intro c u e
  cases t with
  | nil => exact absurd rfl h
  | cons d t =>
    simp only [sep] at e
    by_cases hc : isDig d = true ∨ d = 95
    · rw [if_pos hc] at e; injection e with e _; subst e; decide
    · rw [if_neg hc] at e; injection e with e _; subst e
      cases hd : isDig d with
      | true => exact absurd (.inl hd) hc
      | false => rfl
theorem named_plain (t r : List UInt8) (hp : t.all isPlain = true) : named false (t.length : Int) (t ++ r) = some (t, r) := by
  unfold named
  rw [if_neg (by rw [List.length_append]; omega), Int.toNat_natCast, List.take_left', List.drop_left'] <;> try rfl
  rw [if_neg (by rw [hp]; simp), if_neg (by simp)]
theorem digits_head (u : Nat) : ∃ c t, Lib.decDigits u = c :: t ∧ isDig c = true := by
  have hn := digits_ne u
  have hd := digits_dig u
  cases h : Lib.decDigits u with
  | nil => exact absurd h hn
  | cons c t => exact ⟨c, t, rfl, hd c (by rw [h]; simp)⟩
theorem pu_dig {c : UInt8} {t : List UInt8} (h : isDig c = true) : pu (c :: t) = (false, c :: t) := by
  have : c ≠ 117 := by rintro rfl; revert h; decide
  simp only [pu, if_neg this]
/-- The number of a name's bytes, something that is no digit, and what follows. -/
theorem undis_num (u : Nat) (hu : u < 2147483550) (r : List UInt8) (h : ∀ c t, r = c :: t → isDig c = false) : undis (Lib.decDigits u ++ r) = named false (u : Int) (us r) := by
  obtain ⟨c, t, hc, hd⟩ := digits_head u
  unfold undis
  have e : pu (Lib.decDigits u ++ r) = (false, Lib.decDigits u ++ r) := by rw [hc, List.cons_append]; exact pu_dig hd
  rw [e]
  simp only
  rw [decimal_digits u hu r h]
theorem undis_counted (t r : List UInt8) (h0 : t ≠ []) (hp : t.all isPlain = true) (hl : t.length < 2147483550) : undis (counted t ++ r) = some (t, r) := by
  unfold counted
  rw [List.append_assoc, List.append_assoc, undis_num _ hl _ (by rw [← List.append_assoc]; exact sep_stop t r h0), ← List.append_assoc, us_sep t r h0]
  exact named_plain t r hp
theorem undis_written (t r : List UInt8) (h0 : t ≠ []) (hp : t.all isPlain = true) (hl : t.length < 2147483550) : undis (written t ++ r) = some (t, r) := by
  unfold written
  rw [if_neg h0]
  exact undis_counted t r h0 hp hl
/-- With an underscore, always. -/
theorem undis_between (t r : List UInt8) (hp : t.all isPlain = true) (hl : t.length < 2147483550) : undis (Lib.decDigits t.length ++ 95 :: (t ++ r)) = some (t, r) := by
  rw [undis_num _ hl _ (by intro c u e; injection e with e _; subst e; decide)]
  exact named_plain t r hp
theorem head_not_s (t r : List UInt8) : ∃ c u, written t ++ r = c :: u ∧ c ≠ 115 ∧ isDig c = true := by
  unfold written counted
  by_cases h : t = []
  · rw [if_pos h]; exact ⟨48, 95 :: r, rfl, by decide, by decide⟩
  · rw [if_neg h]
    obtain ⟨c, u, hc, hd⟩ := digits_head t.length
    rw [hc]
    refine ⟨c, _, rfl, ?_, hd⟩
    rintro rfl; revert hd; decide
theorem ident_written (n : Nat) (hn : n ≤ 4611686018427387904) (t r : List UInt8) (h0 : t ≠ []) (hp : t.all isPlain = true) (hl : t.length < 2147483550) : ident (disW n ++ (written t ++ r)) = some ((n : Int), t, r) := by
  obtain ⟨c, u, e, hc, _⟩ := head_not_s t r
  unfold ident
  have := undis_written t r h0 hp hl
  rw [e] at this ⊢
  rw [disamb_read n hn c u hc]
  simp only [this]
end Go.Proofs.YtkhbmkccbhkolaaGreatDoor.Dm
