/-
  No cell of these rows narrows 'for every input' (looked for: loops, veiled, ifaces, maps, wideKeys, modest, calm, conditions, laid).
  DERIVED. THE GIVEN ROWS OF THIS SEAT. 4 by the template 'for every input the law returns true; each argument reads behind the call as it read before'; 0 by the template 'total and deterministic' (their statements: YtfblehpiecialaaTotals.lean).
  GIVEN WITH THE SEED: the statements are not yours to turn. If you find one false, say at which input.
  Laid BY PROGRAM, IN A SANDBOX (cutbox-rows.mjs): the forced cells as the released guide's own fill.sh prints them over the translation c4509569e28c221e… (all of the seat's roots in one cut). By AI agents, Wed Nov 11 2026. No macro, syntax, notation, axiom, sorry.
-/
import Derived.Test.YtfblehpiecialaaChecked
import GoSem.Claim
import GoSem.ClaimJoined
import GoSem.ClaimMapViews
import Derived.JoinedTies
import Derived.KernelRfl
namespace Go.Proofs.Ytfblehpiecialaa
/- THE CELL 'sum', in the pinned program and in every row, IS THE sha256 OF THE DUMP (.gsa) THAT YtfblehpiecialaaProg.lean LOADS. Nothing in Lean hashes anything: it is a label: what it is worth is what the hold of that sum in a sandbox is worth. -/
noncomputable def Try.pinned : Pinned := { name := "ytfblehpiecialaa", sum := "c4509569e28c221e65cea49571c05a530d2e43d5c72359890d351e3fc431058b", checked := Try.checked }
namespace Rows
def none {H : Type} : Left H := { results := [], args := [] }

/-- 'laws.FnDecimalAny': WHATEVER THE INPUT: true; the input reads as it did. -/
def fnDecimalAnySpec : ChangeSpec := { name := "fnDecimalAny", fn := fun _ => fun
  | [d] => { results := [.lit (.bool true)], args := [d] }
  | _ => none }
def fnDecimalAnyRow : OpenClaim := { program := "ytfblehpiecialaa", sum := "c4509569e28c221e65cea49571c05a530d2e43d5c72359890d351e3fc431058b", func := "loop.example/pub-g01453/laws.FnDecimalAny", spec := "fnDecimalAny", unfollowed := true, recurses := true, apart := false }
def FnDecimalAnySaid : Prop := fnDecimalAnyRow.holds Try.pinned (OpenSpec.ofChange fnDecimalAnySpec)

/-- ITS FALSE NEIGHBOUR: 'it returns false'. Refute it at one input. -/
def fnDecimalAnyWrong : ChangeSpec := { name := "fnDecimalAny", fn := fun _ => fun
  | [d] => { results := [.lit (.bool false)], args := [d] }
  | _ => none }
def FnDecimalAnyWrongFalsely : Prop := fnDecimalAnyRow.holds Try.pinned (OpenSpec.ofChange fnDecimalAnyWrong)

/-- 'laws.FnBase62Digits': WHATEVER THE INPUT: true; the input reads as it did. -/
def fnBase62DigitsSpec : ChangeSpec := { name := "fnBase62Digits", fn := fun _ => fun
  | [d1, d2] => { results := [.lit (.bool true)], args := [d1, d2] }
  | _ => none }
def fnBase62DigitsRow : OpenClaim := { program := "ytfblehpiecialaa", sum := "c4509569e28c221e65cea49571c05a530d2e43d5c72359890d351e3fc431058b", func := "loop.example/pub-g01453/laws.FnBase62Digits", spec := "fnBase62Digits", unfollowed := true, recurses := true, apart := false }
def FnBase62DigitsSaid : Prop := fnBase62DigitsRow.holds Try.pinned (OpenSpec.ofChange fnBase62DigitsSpec)

/-- ITS FALSE NEIGHBOUR: 'it returns false'. Refute it at one input. -/
def fnBase62DigitsWrong : ChangeSpec := { name := "fnBase62Digits", fn := fun _ => fun
  | [d1, d2] => { results := [.lit (.bool false)], args := [d1, d2] }
  | _ => none }
def FnBase62DigitsWrongFalsely : Prop := fnBase62DigitsRow.holds Try.pinned (OpenSpec.ofChange fnBase62DigitsWrong)

/-- 'laws.FnBase62Other': WHATEVER THE INPUT: true; the input reads as it did. -/
def fnBase62OtherSpec : ChangeSpec := { name := "fnBase62Other", fn := fun _ => fun
  | [d1, d2, d3] => { results := [.lit (.bool true)], args := [d1, d2, d3] }
  | _ => none }
def fnBase62OtherRow : OpenClaim := { program := "ytfblehpiecialaa", sum := "c4509569e28c221e65cea49571c05a530d2e43d5c72359890d351e3fc431058b", func := "loop.example/pub-g01453/laws.FnBase62Other", spec := "fnBase62Other", unfollowed := true, recurses := true, apart := false }
def FnBase62OtherSaid : Prop := fnBase62OtherRow.holds Try.pinned (OpenSpec.ofChange fnBase62OtherSpec)

/-- ITS FALSE NEIGHBOUR: 'it returns false'. Refute it at one input. -/
def fnBase62OtherWrong : ChangeSpec := { name := "fnBase62Other", fn := fun _ => fun
  | [d1, d2, d3] => { results := [.lit (.bool false)], args := [d1, d2, d3] }
  | _ => none }
def FnBase62OtherWrongFalsely : Prop := fnBase62OtherRow.holds Try.pinned (OpenSpec.ofChange fnBase62OtherWrong)

/-- 'laws.FnPunycodeKeeps': WHATEVER THE INPUT: true; the input reads as it did. -/
def fnPunycodeKeepsSpec : ChangeSpec := { name := "fnPunycodeKeeps", fn := fun _ => fun
  | [d1, d2] => { results := [.lit (.bool true)], args := [d1, d2] }
  | _ => none }
def fnPunycodeKeepsRow : OpenClaim := { program := "ytfblehpiecialaa", sum := "c4509569e28c221e65cea49571c05a530d2e43d5c72359890d351e3fc431058b", func := "loop.example/pub-g01453/laws.FnPunycodeKeeps", spec := "fnPunycodeKeeps", unfollowed := true, recurses := true, apart := false }
def FnPunycodeKeepsSaid : Prop := fnPunycodeKeepsRow.holds Try.pinned (OpenSpec.ofChange fnPunycodeKeepsSpec)

/-- ITS FALSE NEIGHBOUR: 'it returns false'. Refute it at one input. -/
def fnPunycodeKeepsWrong : ChangeSpec := { name := "fnPunycodeKeeps", fn := fun _ => fun
  | [d1, d2] => { results := [.lit (.bool false)], args := [d1, d2] }
  | _ => none }
def FnPunycodeKeepsWrongFalsely : Prop := fnPunycodeKeepsRow.holds Try.pinned (OpenSpec.ofChange fnPunycodeKeepsWrong)

/- THE SECOND FORM. 'bulk': how many values and letters a reading holds, each counted each time it is reached (what is shared counts as often as it is met; a slice's spare places count too). A statement '..UptoSaid' is the law's where the arguments, and the package variables that the reading takes, are together of bulk at most 1048576: NARROWER than '..Said'. Prove '..Said' where nothing that the law and all that it calls make is longer than what came in: it says more and counts as full. Else prove '..UptoSaid'. A law counts once. -/
mutual
def uptoBulk {H : Type} : DataW H → Nat
  | .lit (.string bytes) => bytes.length + 1
  | .lit _ => 1
  | .nil => 1
  | .ptr d => uptoBulk d + 1
  | .slice elems spare => uptoBulkAll elems + uptoBulkAll spare + 1
  | .agg parts => uptoBulkAll parts + 1
  | .iface _ d => uptoBulk d + 1
  | .map entries => uptoBulkEntries entries + 1
  | .held _ => 1
def uptoBulkAll {H : Type} : List (DataW H) → Nat
  | [] => 0
  | d :: r => uptoBulk d + uptoBulkAll r
def uptoBulkEntries {H : Type} : List (Lit × DataW H) → Nat
  | [] => 0
  | x :: r => uptoBulkEntry x + uptoBulkEntries r
def uptoBulkEntry {H : Type} : Lit × DataW H → Nat
  | (.string bytes, d) => bytes.length + uptoBulk d + 1
  | (_, d) => uptoBulk d + 1
 end
def uptoSmall : (H : Type) → List (DataW H) → Bool := fun _ ds => decide (uptoBulkAll ds ≤ 1048576)
def OpenSpec.upto (s : _root_.Go.ChangeSpec) : _root_.Go.OpenSpec := { _root_.Go.OpenSpec.ofChange s with cond := some uptoSmall }

/-- 'laws.FnDecimalAny', WHERE WHAT IT READS IS OF BULK AT MOST 1048576: true; the input reads as it did. -/
def fnDecimalAnyUptoRow : OpenClaim := { program := "ytfblehpiecialaa", sum := "c4509569e28c221e65cea49571c05a530d2e43d5c72359890d351e3fc431058b", func := "loop.example/pub-g01453/laws.FnDecimalAny", spec := "fnDecimalAny", unfollowed := true, recurses := true, apart := false, narrowed := true }
def FnDecimalAnyUptoSaid : Prop := fnDecimalAnyUptoRow.holds Try.pinned (OpenSpec.upto fnDecimalAnySpec)

/-- 'laws.FnBase62Digits', WHERE WHAT IT READS IS OF BULK AT MOST 1048576: true; the input reads as it did. -/
def fnBase62DigitsUptoRow : OpenClaim := { program := "ytfblehpiecialaa", sum := "c4509569e28c221e65cea49571c05a530d2e43d5c72359890d351e3fc431058b", func := "loop.example/pub-g01453/laws.FnBase62Digits", spec := "fnBase62Digits", unfollowed := true, recurses := true, apart := false, narrowed := true }
def FnBase62DigitsUptoSaid : Prop := fnBase62DigitsUptoRow.holds Try.pinned (OpenSpec.upto fnBase62DigitsSpec)

/-- 'laws.FnBase62Other', WHERE WHAT IT READS IS OF BULK AT MOST 1048576: true; the input reads as it did. -/
def fnBase62OtherUptoRow : OpenClaim := { program := "ytfblehpiecialaa", sum := "c4509569e28c221e65cea49571c05a530d2e43d5c72359890d351e3fc431058b", func := "loop.example/pub-g01453/laws.FnBase62Other", spec := "fnBase62Other", unfollowed := true, recurses := true, apart := false, narrowed := true }
def FnBase62OtherUptoSaid : Prop := fnBase62OtherUptoRow.holds Try.pinned (OpenSpec.upto fnBase62OtherSpec)

/-- 'laws.FnPunycodeKeeps', WHERE WHAT IT READS IS OF BULK AT MOST 1048576: true; the input reads as it did. -/
def fnPunycodeKeepsUptoRow : OpenClaim := { program := "ytfblehpiecialaa", sum := "c4509569e28c221e65cea49571c05a530d2e43d5c72359890d351e3fc431058b", func := "loop.example/pub-g01453/laws.FnPunycodeKeeps", spec := "fnPunycodeKeeps", unfollowed := true, recurses := true, apart := false, narrowed := true }
def FnPunycodeKeepsUptoSaid : Prop := fnPunycodeKeepsUptoRow.holds Try.pinned (OpenSpec.upto fnPunycodeKeepsSpec)

end Rows
end Go.Proofs.Ytfblehpiecialaa
