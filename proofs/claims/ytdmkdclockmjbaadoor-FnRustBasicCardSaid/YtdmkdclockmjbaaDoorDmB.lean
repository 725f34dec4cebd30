/- The basic types' letters, in plain Lean. -/
import Derived.Test.YtdmkdclockmjbaaDoorM1
namespace Go.Proofs.YtdmkdclockmjbaaDoor.Dm
set_option linter.unusedVariables false
set_option linter.unusedSimpArgs false

def basicTab : List (UInt8 × List UInt8) :=
  [(97, [105, 56]), (98, [98, 111, 111, 108]), (99, [99, 104, 97, 114]), (100, [102, 54, 52]), (101, [115, 116, 114]), (102, [102, 51, 50]), (104, [117, 56]), (105, [105, 115, 105, 122, 101]),
   (106, [117, 115, 105, 122, 101]), (108, [105, 51, 50]), (109, [117, 51, 50]), (110, [105, 49, 50, 56]), (111, [117, 49, 50, 56]), (112, [95]), (115, [105, 49, 54]), (116, [117, 49, 54]), (117, [40, 41]),
   (118, [46, 46, 46]), (120, [105, 54, 52]), (121, [117, 54, 52]), (122, [33])]
/-- What a letter of a basic type stands for. -/
def btext (c : UInt8) : Option (List UInt8) := (basicTab.find? fun x => x.1 == c).map (·.2)
def basic : List UInt8 → Option (List UInt8 × List UInt8)
  | [] => none
  | c :: r => match btext c with
    | some t => some (t, r)
    | none => none
theorem btext_short : ∀ c t, btext c = some t → t.length ≤ 5 := by
  have h : ∀ x ∈ basicTab, x.2.length ≤ 5 := by decide
  intro c t ht
  unfold btext at ht
  rw [Option.map_eq_some_iff] at ht
  obtain ⟨x, hx, rfl⟩ := ht
  exact h x (List.mem_of_find?_eq_some hx)
end Go.Proofs.YtdmkdclockmjbaaDoor.Dm
