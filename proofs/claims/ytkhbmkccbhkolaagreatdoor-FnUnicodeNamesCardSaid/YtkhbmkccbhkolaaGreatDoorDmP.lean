/- Paths of names, in plain Lean: what the reader's state becomes. -/
import Derived.Test.YtkhbmkccbhkolaaGreatDoorM1
import Derived.Test.YtkhbmkccbhkolaaGreatDoorM2
import Derived.Test.YtkhbmkccbhkolaaGreatDoorM0
import Derived.Lib.ItoaNum
namespace Go.Proofs.YtkhbmkccbhkolaaGreatDoor
set_option linter.unusedVariables false
set_option linter.unusedSimpArgs false
open Go.RowKit

/-- What a reading comes to: a state, a refusal, or nothing is said of it here. -/
inductive PR
  | ok (s : RS)
  | bad
  | unsaid

def isUp (c : UInt8) : Bool := decide (65 ≤ (c.toNat : Int)) && decide ((c.toNat : Int) ≤ 90)
def isLow (c : UInt8) : Bool := decide (97 ≤ (c.toNat : Int)) && decide ((c.toNat : Int) ≤ 122)
/-- Room for so many bytes more. -/
def RS.room (s : RS) (n : Nat) : Prop := s.out.length + n ≤ 140737488355000
instance (s : RS) (n : Nat) : Decidable (s.room n) := by unfold RS.room; exact inferInstance

/-- The builder's own write, where nothing is skipped. -/
def RS.putRaw (s : RS) (t : List UInt8) : RS := if s.skip then s else { s with last := 125, out := s.out ++ t }
/-- The kind of a special part. -/
def RS.putKind (s : RS) (n : UInt8) : RS :=
  if n = 67 then s.putStr [99, 108, 111, 115, 117, 114, 101] else if n = 83 then s.putStr [115, 104, 105, 109] else s.putByte n
/-- The name of a special part, if there is one. -/
def RS.putName (s : RS) (id : List UInt8) : RS := if id = [] then s else (s.putByte 58).putStr id
/-- What is written of a part. -/
def RS.part (s : RS) (n : UInt8) (d : Int) (id : List UInt8) : RS :=
  if isUp n then (((s.putStr [58, 58, 123]).putKind n).putName id).putRaw (35 :: (Lib.itoa d ++ [125]))
  else (s.putStr [58, 58]).putStr id

/-- path, of crates and of names within them. -/
def pathM : Nat → RS → PR
  | 0, _ => .unsaid
  | k + 1, s => match s.str with
    | [] => .bad
    | c :: r =>
      if c = 67 then
        (match Dm.ident r with
        | none => .bad
        | some (d, id, q) => if s.room id.length then .ok ((s.adv q).putStr id) else .unsaid)
      else if c = 78 then
        (match r with
        | [] => .bad
        | n :: r2 => if isLow n = true ∨ isUp n = true then
            (match pathM k (s.adv r2) with
            | .ok s1 => (match Dm.ident s1.str with
              | none => .bad
              | some (d, id, q) => if s1.room (id.length + 100) then .ok ((s1.adv q).part n d id) else .unsaid)
            | x => x)
          else .bad)
      else if c = 77 ∨ c = 88 ∨ c = 89 ∨ c = 73 ∨ c = 66 then .unsaid
      else .bad
end Go.Proofs.YtkhbmkccbhkolaaGreatDoor
