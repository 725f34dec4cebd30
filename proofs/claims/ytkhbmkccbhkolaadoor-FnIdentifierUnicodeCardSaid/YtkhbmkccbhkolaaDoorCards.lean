/-
  DERIVED. GIVEN WITH THE SEED: THE CARDS: each row of YtkhbmkccbhkolaaDoorRows.lean that lists a variable, with what it lists TIED to the program's text (the seventh form; the later family's looks); each row that meets fmt, with fmt's text TOLD by the authors' own Lean function (tested against real Go, not proved from fmt's source: count such statements apart). THE CARD IS WHAT COUNTS. Prove the row's statement (the work); the ties are given (YtkhbmkccbhkolaaDoorTie.lean); close each card by the builder's one call (the guide's Derived/Test/ToyasCard.lean, 'card_holds'). Laid BY PROGRAM, IN A SANDBOX (cutbox-door.mjs). By AI agents, Wed Nov 11 2026. No macro, syntax, notation, axiom, sorry.
-/
import Derived.Test.YtkhbmkccbhkolaaDoorRows
import GoSem.ClaimSeven
namespace Go.Proofs.YtkhbmkccbhkolaaDoor
namespace Rows

/-- THE TIED CARD OF 'laws.FnPunycodeOne'. -/
def fnPunycodeOneCard : Claim7 := { stood := { row := fnPunycodeOneRow, standIns := [], harness := (true, "01a05d51573c412638c09b455cf6c39006814c753c6912826e876b6c6b6c1e89"), looks := true }, kinds := [], alts := [], laidByText := true, laidKinds := [.data, .pinned], laidTests := true, laidLooks := .later }
def FnPunycodeOneCardSaid : Prop := Claim7.holds Tryd.pinned (.plain (OpenSpec.ofChange fnPunycodeOneSpec)) fnPunycodeOneCard

/-- THE TIED CARD OF 'laws.FnIdentifierUnicode'. -/
def fnIdentifierUnicodeCard : Claim7 := { stood := { row := fnIdentifierUnicodeRow, standIns := [], harness := (true, "01a05d51573c412638c09b455cf6c39006814c753c6912826e876b6c6b6c1e89"), looks := true }, kinds := [], alts := [], laidByText := true, laidKinds := [.data, .data, .data, .data, .pinned], laidTests := true, laidLooks := .later }
def FnIdentifierUnicodeCardSaid : Prop := Claim7.holds Tryd.pinned (.plain (OpenSpec.ofChange fnIdentifierUnicodeSpec)) fnIdentifierUnicodeCard

/-- THE SECOND FORM's CARD OF 'laws.FnPunycodeOne'. -/
def fnPunycodeOneUptoCard : Claim7 := { stood := { row := fnPunycodeOneUptoRow, standIns := [], harness := (true, "01a05d51573c412638c09b455cf6c39006814c753c6912826e876b6c6b6c1e89"), looks := true }, kinds := [], alts := [], laidByText := true, laidKinds := [.data, .pinned], laidTests := true, laidLooks := .later }
def FnPunycodeOneUptoCardSaid : Prop := Claim7.holds Tryd.pinned (.plain (OpenSpec.upto fnPunycodeOneSpec)) fnPunycodeOneUptoCard

/-- THE SECOND FORM's CARD OF 'laws.FnIdentifierUnicode'. -/
def fnIdentifierUnicodeUptoCard : Claim7 := { stood := { row := fnIdentifierUnicodeUptoRow, standIns := [], harness := (true, "01a05d51573c412638c09b455cf6c39006814c753c6912826e876b6c6b6c1e89"), looks := true }, kinds := [], alts := [], laidByText := true, laidKinds := [.data, .data, .data, .data, .pinned], laidTests := true, laidLooks := .later }
def FnIdentifierUnicodeUptoCardSaid : Prop := Claim7.holds Tryd.pinned (.plain (OpenSpec.upto fnIdentifierUnicodeSpec)) fnIdentifierUnicodeUptoCard
end Rows
end Go.Proofs.YtkhbmkccbhkolaaDoor
