/- The reader's Punycode in plain Lean: lists of bytes and of runes, no Go. -/
import Derived.Test.YtkhbmkccbhkolaaDoorDm
namespace Go.Proofs.YtkhbmkccbhkolaaDoor.Dm
set_option linter.unusedVariables false
set_option linter.unusedSimpArgs false
open Go.RowKit

/-- A digit of Punycode, as the reader takes it. -/
def pdig (c : UInt8) : Option Int :=
  if 48 ≤ (c.toNat : Int) ∧ (c.toNat : Int) ≤ 57 then some ((c.toNat : Int) - 48 + 26)
  else if 65 ≤ (c.toNat : Int) ∧ (c.toNat : Int) ≤ 90 then some ((c.toNat : Int) - 65)
  else if 97 ≤ (c.toNat : Int) ∧ (c.toNat : Int) ≤ 122 then some ((c.toNat : Int) - 97)
  else none

theorem pdig_range {c : UInt8} {g : Int} (h : pdig c = some g) : 0 ≤ g ∧ g ≤ 35 := by
  unfold pdig at h
  split at h
  · injection h with h; omega
  · split at h
    · injection h with h; omega
    · split at h
      · injection h with h; omega
      · cases h

/-- The threshold of a digit. -/
def thr (k bias : Int) : Int := if k ≤ bias then 1 else if k > bias + 26 then 26 else k - bias
theorem thr_range (k bias : Int) : 1 ≤ thr k bias ∧ thr k bias ≤ 26 := by unfold thr; split <;> (try split) <;> omega

/-- A delta: what i comes to, and what follows. -/
def delta (bias : Int) : Int → Int → Int → List UInt8 → Option (Int × List UInt8)
  | _, _, _, [] => none
  | k, i, w, c :: r =>
    match pdig c with
    | none => none
    | some g =>
      if g < thr k bias then some (i + g * w, r)
      else if w ≥ 59652323 then none
      else delta bias (k + 36) (i + g * w) (w * (36 - thr k bias)) r

/-- The loop that makes a delta small. -/
def small (d k : Int) : Int × Int := if 455 < d then small (d / 35) (k + 36) else (d, k)
termination_by d.toNat
decreasing_by omega

/-- The bias behind a delta. -/
def adapted (d many : Int) (first : Bool) : Int :=
  let d := if first then d / 700 else d / 2
  let s := small (d + d / many) 0
  s.2 + 36 * s.1 / (s.1 + 38)

def validRune (n : Int) : Bool := (decide (0 ≤ n) && decide (n < 55296)) || (decide (57343 < n) && decide (n ≤ 1114111))

/-- The reader's loop over the deltas: the runes, or none where it fails. -/
def deltas : Nat → List Int → Int → Int → Int → List UInt8 → Option (List Int)
  | 0, _, _, _, _, _ => none
  | fuel + 1, out, i, n, bias, enc =>
    if enc = [] then some out else
    match delta bias 36 i 1 enc with
    | none => none
    | some (j, r) =>
      let many : Int := out.length + 1
      let m := n + j / many
      if m > 1114111 then none
      else if validRune m = false then none
      else deltas fuel (out.take (j % many).toNat ++ m :: out.drop (j % many).toNat) (j % many + 1) m (adapted (j - i) many (i == 0)) r

/-- Where the last underscore stands; -1 if there is none. -/
def lastU : List UInt8 → Int
  | [] => -1
  | c :: r => if lastU r ≥ 0 then lastU r + 1 else if c = 95 then 0 else -1

/-- The reader's Punycode: the runes. -/
def expand (s : List UInt8) : Option (List Int) :=
  if lastU s ≥ 0 then deltas ((s.length : Nat) + 1) ((s.take (lastU s).toNat).map fun c => (c.toNat : Int)) 0 128 72 (s.drop ((lastU s).toNat + 1))
  else deltas (s.length + 1) [] 0 128 72 s

end Go.Proofs.YtkhbmkccbhkolaaDoor.Dm
