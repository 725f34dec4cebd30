/- The reader of Rust names in plain Lean: lists of bytes, no Go. -/
import Derived.RowKit
namespace Go.Proofs.YtaegllbokgjoeaaDoor.Dm
set_option linter.unusedVariables false
set_option linter.unusedSimpArgs false
open Go.RowKit

def isDig (c : UInt8) : Bool := decide (48 ≤ (c.toNat : Int)) && decide ((c.toNat : Int) ≤ 57)

/-- decimalNumber's loop. -/
def dec : Int → List UInt8 → Option (Int × List UInt8)
  | v, [] => some (v, [])
  | v, c :: r => if isDig c then (if v ≥ 214748364 - ((c.toNat : Int) - 48) then none else dec (v * 10 + ((c.toNat : Int) - 48)) r) else some (v, c :: r)

def decimal (l : List UInt8) : Option (Int × List UInt8) := if l = [] then none else dec 0 l

/-- A digit in base 62. -/
def dig62 (c : UInt8) : Option Int :=
  if 48 ≤ (c.toNat : Int) ∧ (c.toNat : Int) ≤ 57 then some ((c.toNat : Int) - 48)
  else if 97 ≤ (c.toNat : Int) ∧ (c.toNat : Int) ≤ 122 then some ((c.toNat : Int) - 87)
  else if 65 ≤ (c.toNat : Int) ∧ (c.toNat : Int) ≤ 90 then some ((c.toNat : Int) - 29)
  else none

def b62 : Int → List UInt8 → Option (Int × List UInt8)
  | _, [] => none
  | v, c :: r => if c = 95 then some (wrap64 (v + 1), r) else match dig62 c with
    | some d => b62 (wrap64 (wrap64 (v * 62) + d)) r
    | none => none

def base62 : List UInt8 → Option (Int × List UInt8)
  | [] => none
  | c :: r => if c = 95 then some (0, r) else b62 0 (c :: r)

end Go.Proofs.YtaegllbokgjoeaaDoor.Dm
