/- Constants of the reader, in plain Lean. -/
import Derived.Test.YtaegllbokgjoeaaDoorDm
import Derived.Lib.ItoaNum
import Derived.Laws.Bits64
namespace Go.Proofs.YtaegllbokgjoeaaDoor.Dm
set_option linter.unusedVariables false
set_option linter.unusedSimpArgs false
open Go.RowKit

/-- What kind of constant a letter begins: 1 an integer with a sign, 2 one without, 3 a bool, 4 a character, 0 none. -/
def ckind (c : UInt8) : Nat :=
  if c = 97 ∨ c = 115 ∨ c = 108 ∨ c = 120 ∨ c = 110 ∨ c = 105 then 1
  else if c = 104 ∨ c = 116 ∨ c = 109 ∨ c = 121 ∨ c = 111 ∨ c = 106 then 2
  else if c = 98 then 3 else if c = 99 then 4 else 0

/-- A digit in base 16. -/
def hexd (c : UInt8) : Option Int :=
  if 48 ≤ (c.toNat : Int) ∧ (c.toNat : Int) ≤ 57 then some ((c.toNat : Int) - 48)
  else if 97 ≤ (c.toNat : Int) ∧ (c.toNat : Int) ≤ 102 then some ((c.toNat : Int) - 97 + 10)
  else none

/-- The loop over the digits: the value, how many, and what follows. -/
def hexl : Int → Nat → List UInt8 → Option (Int × Nat × List UInt8)
  | v, k, [] => some (v, k, [])
  | v, k, c :: r => match hexd c with
    | some d => if v = 0 ∧ d = 0 ∧ r.head? ≠ some 95 then none else hexl (IntKind.u64.wrap (IntKind.u64.wrap (v * 16) + d)) (k + 1) r
    | none => if c = 95 then some (v, k, r) else none

/-- A sign: whether there is one, and what follows. -/
def sgn (kind : Nat) : List UInt8 → Bool × List UInt8
  | [] => (false, [])
  | c :: r => if kind = 1 ∧ c = 110 then (true, r) else (false, c :: r)

/-- What is told of a constant: its text and what follows, that it is none, or nothing is said here. -/
inductive CR
  | told (t r : List UInt8)
  | bad
  | unsaid

/-- The text of a value. -/
def ctext (kind : Nat) (start : List UInt8) (v : Int) (k : Nat) : CR :=
  if kind = 1 ∨ kind = 2 then (if 16 < k then .told ([48, 120] ++ start.take k) [] else .told (Lib.decDigits v.toNat) [])
  else if kind = 3 then (if 1 < k then .bad else if v = 0 then .told [102, 97, 108, 115, 101] [] else if v = 1 then .told [116, 114, 117, 101] [] else .bad)
  else if 6 < k then .bad else if 32 ≤ v ∧ v ≤ 126 ∧ v ≠ 39 ∧ v ≠ 92 then .told [39, UInt8.ofNat v.toNat, 39] [] else .unsaid

def digits (kind : Nat) (l : List UInt8) : CR :=
  match hexl 0 0 l with
  | none => .bad
  | some (v, k, q) => if k = 0 then .bad else match ctext kind l v k with
    | .told t _ => .told t q
    | .bad => .bad
    | .unsaid => .unsaid

def const : List UInt8 → CR
  | [] => .bad
  | c :: r => if c = 66 then .bad else if c = 112 then .told [95] r else if ckind c = 0 then .bad else
    match digits (ckind c) (sgn (ckind c) r).2 with
    | .told t q => .told ((if (sgn (ckind c) r).1 then [45] else []) ++ t) q
    | .bad => .bad
    | .unsaid => .unsaid

theorem dec_len20 (u : Nat) (h : u < 18446744073709551616) : (Lib.decDigits u).length ≤ 20 := by
  have step : ∀ k u, u < 10 ^ (k + 1) → (Lib.decDigits u).length ≤ k + 1 := by
    intro k
    induction k with
    | zero => intro u hu; rw [Lib.decDigits, dif_pos (by simpa using hu)]; simp
    | succ k ih =>
      intro u hu
      rw [Lib.decDigits]
      split
      · simp
      · rw [List.length_append, List.length_singleton]
        have := ih (u / 10) (by rw [Nat.div_lt_iff_lt_mul (by omega)]; rw [Nat.pow_succ] at hu; exact hu)
        omega
  exact step 19 u (Nat.lt_of_lt_of_le h (by decide))
theorem hexd_le {c : UInt8} {d : Int} (h : hexd c = some d) : 0 ≤ d ∧ d ≤ 15 := by
  unfold hexd at h
  have hc := UInt8.toNat_lt c
  split at h
  · injection h; omega
  · split at h
    · injection h; omega
    · cases h
theorem hexl_len (l : List UInt8) : ∀ (v : Int) (k : Nat) {v' : Int} {k' : Nat} {r : List UInt8}, 0 ≤ v → v < 18446744073709551616 → hexl v k l = some (v', k', r) → k' + r.length ≤ k + l.length ∧ 0 ≤ v' ∧ v' < 18446744073709551616 := by
  induction l with
  | nil => intro v k v' k' r h0 h1 h; unfold hexl at h; injection h with h; injection h with h2 h3; injection h3 with h3 h4; subst h2 h3 h4; exact ⟨Nat.le_refl _, h0, h1⟩
  | cons c l ih =>
    intro v k v' k' r h0 h1 h
    unfold hexl at h
    split at h
    · split at h
      · cases h
      · have := ih _ _ (by rw [IntKind.wrap_u64]; omega) (by rw [IntKind.wrap_u64]; omega) h
        rw [List.length_cons]; exact ⟨by omega, this.2⟩
    · split at h
      · injection h with h; injection h with h2 h3; injection h3 with h3 h4; subst h2 h3 h4
        rw [List.length_cons]; exact ⟨by omega, h0, h1⟩
      · cases h
end Go.Proofs.YtaegllbokgjoeaaDoor.Dm
