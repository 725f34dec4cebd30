/-
  DERIVED. GIVEN WITH THE SEED: THE CARDS: each row of YtkhbmkccbhkolaaGreatDoorRows.lean that lists a variable, with what it lists TIED to the program's text (the seventh form; the later family's looks); each row that meets fmt, with fmt's text TOLD by the authors' own Lean function (tested against real Go, not proved from fmt's source: count such statements apart). THE CARD IS WHAT COUNTS. Prove the row's statement (the work); the ties are given (YtkhbmkccbhkolaaGreatDoorTie.lean); close each card by the builder's one call (the guide's Derived/Test/ToyasCard.lean, 'card_holds'). Laid BY PROGRAM, IN A SANDBOX (cutbox-door.mjs). By AI agents, Wed Nov 11 2026. No macro, syntax, notation, axiom, sorry.
-/
import Derived.Test.YtkhbmkccbhkolaaGreatDoorRows
import GoSem.ClaimSeven
namespace Go.Proofs.YtkhbmkccbhkolaaGreatDoor
namespace Rows

/-- THE TIED CARD OF 'laws.FnUnicodeNames'. -/
def fnUnicodeNamesCard : Claim7 := { stood := { row := fnUnicodeNamesRow, standIns := [], harness := (true, "7d18c1b87000b34caa479ceac9426adcd3b4e5111afecb971fae3a9677235de5"), looks := true }, kinds := [], alts := [], laidByText := true, laidKinds := [.data, .data, .data, .data, .sentinel, .mapped, .pinned], laidTests := true, laidLooks := .later }
def FnUnicodeNamesCardSaid : Prop := Claim7.holds Tryz.pinned (.plain (OpenSpec.ofChange fnUnicodeNamesSpec)) fnUnicodeNamesCard

/-- THE SECOND FORM's CARD OF 'laws.FnUnicodeNames'. -/
def fnUnicodeNamesUptoCard : Claim7 := { stood := { row := fnUnicodeNamesUptoRow, standIns := [], harness := (true, "7d18c1b87000b34caa479ceac9426adcd3b4e5111afecb971fae3a9677235de5"), looks := true }, kinds := [], alts := [], laidByText := true, laidKinds := [.data, .data, .data, .data, .sentinel, .mapped, .pinned], laidTests := true, laidLooks := .later }
def FnUnicodeNamesUptoCardSaid : Prop := Claim7.holds Tryz.pinned (.plain (OpenSpec.upto fnUnicodeNamesSpec)) fnUnicodeNamesUptoCard
end Rows
end Go.Proofs.YtkhbmkccbhkolaaGreatDoor
