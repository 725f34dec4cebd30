/-
  DERIVED. GIVEN WITH THE SEED: THE CARDS: each row of YtfblehpiecialaaDoorRows.lean that lists a variable, with what it lists TIED to the program's text (the seventh form; the later family's looks); each row that meets fmt, with fmt's text TOLD by the authors' own Lean function (tested against real Go, not proved from fmt's source: count such statements apart). THE CARD IS WHAT COUNTS. Prove the row's statement (the work); the ties are given (YtfblehpiecialaaDoorTie.lean); close each card by the builder's one call (the guide's Derived/Test/ToyasCard.lean, 'card_holds'). Laid BY PROGRAM, IN A SANDBOX (cutbox-door.mjs). By AI agents, Wed Nov 11 2026. No macro, syntax, notation, axiom, sorry.
-/
import Derived.Test.YtfblehpiecialaaDoorRows
import GoSem.ClaimSeven
namespace Go.Proofs.YtfblehpiecialaaDoor
namespace Rows

/-- THE TIED CARD OF 'laws.FnBasicOne'. -/
def fnBasicOneCard : Claim7 := { stood := { row := fnBasicOneRow, standIns := [], harness := (true, "4698af9494751b04f39a858c00cc4c75e0907cfa17fa51e292412a4043bc8e85"), looks := true }, kinds := [], alts := [], laidByText := true, laidKinds := [.mapped], laidTests := true, laidLooks := .later }
def FnBasicOneCardSaid : Prop := Claim7.holds Tryd.pinned (.plain (OpenSpec.ofChange fnBasicOneSpec)) fnBasicOneCard

/-- THE TIED CARD OF 'laws.FnBasicRefused'. -/
def fnBasicRefusedCard : Claim7 := { stood := { row := fnBasicRefusedRow, standIns := [], harness := (true, "4698af9494751b04f39a858c00cc4c75e0907cfa17fa51e292412a4043bc8e85"), looks := true }, kinds := [], alts := [], laidByText := true, laidKinds := [.mapped], laidTests := true, laidLooks := .later }
def FnBasicRefusedCardSaid : Prop := Claim7.holds Tryd.pinned (.plain (OpenSpec.ofChange fnBasicRefusedSpec)) fnBasicRefusedCard

/-- THE TIED CARD OF 'laws.FnDecimalRead'. -/
def fnDecimalReadCard : Claim7 := { stood := { row := fnDecimalReadRow, standIns := [], harness := (true, "4698af9494751b04f39a858c00cc4c75e0907cfa17fa51e292412a4043bc8e85"), looks := true }, kinds := [], alts := [], laidByText := true, laidKinds := [.data, .data, .data], laidTests := true, laidLooks := .later }
def FnDecimalReadCardSaid : Prop := Claim7.holds Tryd.pinned (.plain (OpenSpec.ofChange fnDecimalReadSpec)) fnDecimalReadCard

/-- THE TIED CARD OF 'laws.FnPunycodeOne'. -/
def fnPunycodeOneCard : Claim7 := { stood := { row := fnPunycodeOneRow, standIns := [], harness := (true, "4698af9494751b04f39a858c00cc4c75e0907cfa17fa51e292412a4043bc8e85"), looks := true }, kinds := [], alts := [], laidByText := true, laidKinds := [.data, .pinned], laidTests := true, laidLooks := .later }
def FnPunycodeOneCardSaid : Prop := Claim7.holds Tryd.pinned (.plain (OpenSpec.ofChange fnPunycodeOneSpec)) fnPunycodeOneCard

/-- THE TIED CARD OF 'laws.FnIdentifierShort'. -/
def fnIdentifierShortCard : Claim7 := { stood := { row := fnIdentifierShortRow, standIns := [], harness := (true, "4698af9494751b04f39a858c00cc4c75e0907cfa17fa51e292412a4043bc8e85"), looks := true }, kinds := [], alts := [], laidByText := true, laidKinds := [.data, .data, .data], laidTests := true, laidLooks := .later }
def FnIdentifierShortCardSaid : Prop := Claim7.holds Tryd.pinned (.plain (OpenSpec.ofChange fnIdentifierShortSpec)) fnIdentifierShortCard

/-- THE TIED CARD OF 'laws.FnIdentifierRead'. -/
def fnIdentifierReadCard : Claim7 := { stood := { row := fnIdentifierReadRow, standIns := [], harness := (true, "4698af9494751b04f39a858c00cc4c75e0907cfa17fa51e292412a4043bc8e85"), looks := true }, kinds := [], alts := [], laidByText := true, laidKinds := [.data, .data, .data, .data, .pinned], laidTests := true, laidLooks := .later }
def FnIdentifierReadCardSaid : Prop := Claim7.holds Tryd.pinned (.plain (OpenSpec.ofChange fnIdentifierReadSpec)) fnIdentifierReadCard

/-- THE TIED CARD OF 'laws.FnIdentifierUnicode'. -/
def fnIdentifierUnicodeCard : Claim7 := { stood := { row := fnIdentifierUnicodeRow, standIns := [], harness := (true, "4698af9494751b04f39a858c00cc4c75e0907cfa17fa51e292412a4043bc8e85"), looks := true }, kinds := [], alts := [], laidByText := true, laidKinds := [.data, .data, .data, .data, .pinned], laidTests := true, laidLooks := .later }
def FnIdentifierUnicodeCardSaid : Prop := Claim7.holds Tryd.pinned (.plain (OpenSpec.ofChange fnIdentifierUnicodeSpec)) fnIdentifierUnicodeCard

/-- THE TIED CARD OF 'laws.FnConstantHole'. -/
def fnConstantHoleCard : Claim7 := { stood := { row := fnConstantHoleRow, standIns := [], harness := (true, "4698af9494751b04f39a858c00cc4c75e0907cfa17fa51e292412a4043bc8e85"), looks := true }, kinds := [], alts := [], laidByText := true, laidKinds := [.data, .data, .data], laidTests := true, laidLooks := .later }
def FnConstantHoleCardSaid : Prop := Claim7.holds Tryd.pinned (.plain (OpenSpec.ofChange fnConstantHoleSpec)) fnConstantHoleCard

/-- THE SECOND FORM's CARD OF 'laws.FnBasicOne'. -/
def fnBasicOneUptoCard : Claim7 := { stood := { row := fnBasicOneUptoRow, standIns := [], harness := (true, "4698af9494751b04f39a858c00cc4c75e0907cfa17fa51e292412a4043bc8e85"), looks := true }, kinds := [], alts := [], laidByText := true, laidKinds := [.mapped], laidTests := true, laidLooks := .later }
def FnBasicOneUptoCardSaid : Prop := Claim7.holds Tryd.pinned (.plain (OpenSpec.upto fnBasicOneSpec)) fnBasicOneUptoCard

/-- THE SECOND FORM's CARD OF 'laws.FnBasicRefused'. -/
def fnBasicRefusedUptoCard : Claim7 := { stood := { row := fnBasicRefusedUptoRow, standIns := [], harness := (true, "4698af9494751b04f39a858c00cc4c75e0907cfa17fa51e292412a4043bc8e85"), looks := true }, kinds := [], alts := [], laidByText := true, laidKinds := [.mapped], laidTests := true, laidLooks := .later }
def FnBasicRefusedUptoCardSaid : Prop := Claim7.holds Tryd.pinned (.plain (OpenSpec.upto fnBasicRefusedSpec)) fnBasicRefusedUptoCard

/-- THE SECOND FORM's CARD OF 'laws.FnDecimalRead'. -/
def fnDecimalReadUptoCard : Claim7 := { stood := { row := fnDecimalReadUptoRow, standIns := [], harness := (true, "4698af9494751b04f39a858c00cc4c75e0907cfa17fa51e292412a4043bc8e85"), looks := true }, kinds := [], alts := [], laidByText := true, laidKinds := [.data, .data, .data], laidTests := true, laidLooks := .later }
def FnDecimalReadUptoCardSaid : Prop := Claim7.holds Tryd.pinned (.plain (OpenSpec.upto fnDecimalReadSpec)) fnDecimalReadUptoCard

/-- THE SECOND FORM's CARD OF 'laws.FnPunycodeOne'. -/
def fnPunycodeOneUptoCard : Claim7 := { stood := { row := fnPunycodeOneUptoRow, standIns := [], harness := (true, "4698af9494751b04f39a858c00cc4c75e0907cfa17fa51e292412a4043bc8e85"), looks := true }, kinds := [], alts := [], laidByText := true, laidKinds := [.data, .pinned], laidTests := true, laidLooks := .later }
def FnPunycodeOneUptoCardSaid : Prop := Claim7.holds Tryd.pinned (.plain (OpenSpec.upto fnPunycodeOneSpec)) fnPunycodeOneUptoCard

/-- THE SECOND FORM's CARD OF 'laws.FnIdentifierShort'. -/
def fnIdentifierShortUptoCard : Claim7 := { stood := { row := fnIdentifierShortUptoRow, standIns := [], harness := (true, "4698af9494751b04f39a858c00cc4c75e0907cfa17fa51e292412a4043bc8e85"), looks := true }, kinds := [], alts := [], laidByText := true, laidKinds := [.data, .data, .data], laidTests := true, laidLooks := .later }
def FnIdentifierShortUptoCardSaid : Prop := Claim7.holds Tryd.pinned (.plain (OpenSpec.upto fnIdentifierShortSpec)) fnIdentifierShortUptoCard

/-- THE SECOND FORM's CARD OF 'laws.FnIdentifierRead'. -/
def fnIdentifierReadUptoCard : Claim7 := { stood := { row := fnIdentifierReadUptoRow, standIns := [], harness := (true, "4698af9494751b04f39a858c00cc4c75e0907cfa17fa51e292412a4043bc8e85"), looks := true }, kinds := [], alts := [], laidByText := true, laidKinds := [.data, .data, .data, .data, .pinned], laidTests := true, laidLooks := .later }
def FnIdentifierReadUptoCardSaid : Prop := Claim7.holds Tryd.pinned (.plain (OpenSpec.upto fnIdentifierReadSpec)) fnIdentifierReadUptoCard

/-- THE SECOND FORM's CARD OF 'laws.FnIdentifierUnicode'. -/
def fnIdentifierUnicodeUptoCard : Claim7 := { stood := { row := fnIdentifierUnicodeUptoRow, standIns := [], harness := (true, "4698af9494751b04f39a858c00cc4c75e0907cfa17fa51e292412a4043bc8e85"), looks := true }, kinds := [], alts := [], laidByText := true, laidKinds := [.data, .data, .data, .data, .pinned], laidTests := true, laidLooks := .later }
def FnIdentifierUnicodeUptoCardSaid : Prop := Claim7.holds Tryd.pinned (.plain (OpenSpec.upto fnIdentifierUnicodeSpec)) fnIdentifierUnicodeUptoCard

/-- THE SECOND FORM's CARD OF 'laws.FnConstantHole'. -/
def fnConstantHoleUptoCard : Claim7 := { stood := { row := fnConstantHoleUptoRow, standIns := [], harness := (true, "4698af9494751b04f39a858c00cc4c75e0907cfa17fa51e292412a4043bc8e85"), looks := true }, kinds := [], alts := [], laidByText := true, laidKinds := [.data, .data, .data], laidTests := true, laidLooks := .later }
def FnConstantHoleUptoCardSaid : Prop := Claim7.holds Tryd.pinned (.plain (OpenSpec.upto fnConstantHoleSpec)) fnConstantHoleUptoCard
end Rows
end Go.Proofs.YtfblehpiecialaaDoor
