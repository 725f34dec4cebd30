/- Written identifiers, in plain Lean. -/
import Derived.Test.YtfblehpiecialaaDoorDmI
import Derived.Lib.ItoaNum
namespace Go.Proofs.YtfblehpiecialaaDoor.Dm
set_option linter.unusedVariables false
set_option linter.unusedSimpArgs false

def isLet (c : UInt8) : Bool :=
  (decide (65 ≤ (c.toNat : Int)) && decide ((c.toNat : Int) ≤ 90)) || (decide (97 ≤ (c.toNat : Int)) && decide ((c.toNat : Int) ≤ 122))
theorem isPlain_parts (c : UInt8) : isPlain c = (isDig c || isLet c || decide ((c.toNat : Int) = 95)) := by
  unfold isPlain isDig isLet
  simp only [Bool.or_assoc]
/-- An underscore, where the bytes begin with a digit or an underscore. -/
def sep : List UInt8 → List UInt8
  | [] => []
  | c :: _ => if isDig c = true ∨ c = 95 then [95] else []
def counted (l : List UInt8) : List UInt8 := Lib.decDigits l.length ++ sep l ++ l
def written (l : List UInt8) : List UInt8 := if l = [] then [48, 95] else counted l
end Go.Proofs.YtfblehpiecialaaDoor.Dm
