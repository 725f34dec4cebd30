/- Identifiers in plain Lean. -/
import Derived.Test.YtfblehpiecialaaDoorPuny
import Derived.Test.YtfblehpiecialaaDoorExp
namespace Go.Proofs.YtfblehpiecialaaDoor.Dm
set_option linter.unusedVariables false
set_option linter.unusedSimpArgs false
open Go.RowKit

/-- A letter, a digit or an underscore. -/
def isPlain (c : UInt8) : Bool :=
  (decide (48 ≤ (c.toNat : Int)) && decide ((c.toNat : Int) ≤ 57)) || (decide (65 ≤ (c.toNat : Int)) && decide ((c.toNat : Int) ≤ 90)) ||
  (decide (97 ≤ (c.toNat : Int)) && decide ((c.toNat : Int) ≤ 122)) || decide ((c.toNat : Int) = 95)
theorem isPlain_low {c : UInt8} (h : isPlain c = true) : c.toNat < 128 := by
  unfold isPlain at h
  simp only [Bool.or_eq_true, Bool.and_eq_true, decide_eq_true_eq] at h
  omega

/-- Whether there is a u, and what follows. -/
def pu : List UInt8 → Bool × List UInt8
  | [] => (false, [])
  | c :: r => if c = 117 then (true, r) else (false, c :: r)
/-- What follows an underscore, if there is one. -/
def us : List UInt8 → List UInt8
  | [] => []
  | c :: r => if c = 95 then r else c :: r
/-- A disambiguator. -/
def disamb : List UInt8 → Option (Int × List UInt8)
  | [] => some (0, [])
  | c :: r => if c = 115 then (match base62 r with | some (n, t) => some (wrap64 (n + 1), t) | none => none) else some (0, c :: r)

/-- The bytes of a name, of a whole number of bytes in front of a text. -/
def named (puny : Bool) (n : Int) (l : List UInt8) : Option (List UInt8 × List UInt8) :=
  if (l.length : Int) < n then none
  else if (l.take n.toNat).all isPlain = false then none
  else if puny then (match expand (l.take n.toNat) with | some out => some ((runesBytes out).data.toList, l.drop n.toNat) | none => none)
  else some (l.take n.toNat, l.drop n.toNat)
def undis (l : List UInt8) : Option (List UInt8 × List UInt8) :=
  match decimal (pu l).2 with
  | none => none
  | some (n, r) => named (pu l).1 n (us r)
def ident (l : List UInt8) : Option (Int × List UInt8 × List UInt8) :=
  match disamb l with
  | none => none
  | some (d, r) => match undis r with
    | none => none
    | some (t, q) => some (d, t, q)
end Go.Proofs.YtfblehpiecialaaDoor.Dm
