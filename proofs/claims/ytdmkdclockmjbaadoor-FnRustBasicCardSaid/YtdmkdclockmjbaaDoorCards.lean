/-
  DERIVED. GIVEN WITH THE SEED: THE CARDS: each row of YtdmkdclockmjbaaDoorRows.lean that lists a variable, with what it lists TIED to the program's text (the seventh form; the later family's looks); each row that meets fmt, with fmt's text TOLD by the authors' own Lean function (tested against real Go, not proved from fmt's source: count such statements apart). THE CARD IS WHAT COUNTS. Prove the row's statement (the work); the ties are given (YtdmkdclockmjbaaDoorTie.lean); close each card by the builder's one call (the guide's Derived/Test/ToyasCard.lean, 'card_holds'). Laid BY PROGRAM, IN A SANDBOX (cutbox-door.mjs). By AI agents, Wed Nov 11 2026. No macro, syntax, notation, axiom, sorry.
-/
import Derived.Test.YtdmkdclockmjbaaDoorRows
import GoSem.ClaimSeven
namespace Go.Proofs.YtdmkdclockmjbaaDoor
namespace Rows

/-- THE TIED CARD OF 'laws.FnRustBasic'. -/
def fnRustBasicCard : Claim7 := { stood := { row := fnRustBasicRow, standIns := [], harness := (true, "6e82ea6cbfbd13a9dd59403764f9aef0578fff2f2a68c1ff01fd6210983aa100"), looks := true }, kinds := [], alts := [], laidByText := true, laidKinds := [.data, .data, .data, .sentinel, .mapped], laidTests := true, laidLooks := .later }
def FnRustBasicCardSaid : Prop := Claim7.holds Tryd.pinned (.plain (OpenSpec.ofChange fnRustBasicSpec)) fnRustBasicCard

/-- THE TIED CARD OF 'laws.FnLongerRefused'. -/
def fnLongerRefusedCard : Claim7 := { stood := { row := fnLongerRefusedRow, standIns := [], harness := (true, "6e82ea6cbfbd13a9dd59403764f9aef0578fff2f2a68c1ff01fd6210983aa100"), looks := true }, kinds := [], alts := [], laidByText := true, laidKinds := [.data, .data, .data, .sentinel, .mapped], laidTests := true, laidLooks := .later }
def FnLongerRefusedCardSaid : Prop := Claim7.holds Tryd.pinned (.plain (OpenSpec.ofChange fnLongerRefusedSpec)) fnLongerRefusedCard

/-- THE TIED CARD OF 'laws.FnNoSpaceRefused'. -/
def fnNoSpaceRefusedCard : Claim7 := { stood := { row := fnNoSpaceRefusedRow, standIns := [], harness := (true, "6e82ea6cbfbd13a9dd59403764f9aef0578fff2f2a68c1ff01fd6210983aa100"), looks := true }, kinds := [], alts := [], laidByText := true, laidKinds := [.data, .data, .data, .sentinel, .mapped], laidTests := true, laidLooks := .later }
def FnNoSpaceRefusedCardSaid : Prop := Claim7.holds Tryd.pinned (.plain (OpenSpec.ofChange fnNoSpaceRefusedSpec)) fnNoSpaceRefusedCard

/-- THE TIED CARD OF 'laws.FnSeparatorTaken'. -/
def fnSeparatorTakenCard : Claim7 := { stood := { row := fnSeparatorTakenRow, standIns := [], harness := (true, "6e82ea6cbfbd13a9dd59403764f9aef0578fff2f2a68c1ff01fd6210983aa100"), looks := true }, kinds := [], alts := [], laidByText := true, laidKinds := [.data, .data, .data, .sentinel, .mapped], laidTests := true, laidLooks := .later }
def FnSeparatorTakenCardSaid : Prop := Claim7.holds Tryd.pinned (.plain (OpenSpec.ofChange fnSeparatorTakenSpec)) fnSeparatorTakenCard

/-- THE SECOND FORM's CARD OF 'laws.FnRustBasic'. -/
def fnRustBasicUptoCard : Claim7 := { stood := { row := fnRustBasicUptoRow, standIns := [], harness := (true, "6e82ea6cbfbd13a9dd59403764f9aef0578fff2f2a68c1ff01fd6210983aa100"), looks := true }, kinds := [], alts := [], laidByText := true, laidKinds := [.data, .data, .data, .sentinel, .mapped], laidTests := true, laidLooks := .later }
def FnRustBasicUptoCardSaid : Prop := Claim7.holds Tryd.pinned (.plain (OpenSpec.upto fnRustBasicSpec)) fnRustBasicUptoCard

/-- THE SECOND FORM's CARD OF 'laws.FnLongerRefused'. -/
def fnLongerRefusedUptoCard : Claim7 := { stood := { row := fnLongerRefusedUptoRow, standIns := [], harness := (true, "6e82ea6cbfbd13a9dd59403764f9aef0578fff2f2a68c1ff01fd6210983aa100"), looks := true }, kinds := [], alts := [], laidByText := true, laidKinds := [.data, .data, .data, .sentinel, .mapped], laidTests := true, laidLooks := .later }
def FnLongerRefusedUptoCardSaid : Prop := Claim7.holds Tryd.pinned (.plain (OpenSpec.upto fnLongerRefusedSpec)) fnLongerRefusedUptoCard

/-- THE SECOND FORM's CARD OF 'laws.FnNoSpaceRefused'. -/
def fnNoSpaceRefusedUptoCard : Claim7 := { stood := { row := fnNoSpaceRefusedUptoRow, standIns := [], harness := (true, "6e82ea6cbfbd13a9dd59403764f9aef0578fff2f2a68c1ff01fd6210983aa100"), looks := true }, kinds := [], alts := [], laidByText := true, laidKinds := [.data, .data, .data, .sentinel, .mapped], laidTests := true, laidLooks := .later }
def FnNoSpaceRefusedUptoCardSaid : Prop := Claim7.holds Tryd.pinned (.plain (OpenSpec.upto fnNoSpaceRefusedSpec)) fnNoSpaceRefusedUptoCard

/-- THE SECOND FORM's CARD OF 'laws.FnSeparatorTaken'. -/
def fnSeparatorTakenUptoCard : Claim7 := { stood := { row := fnSeparatorTakenUptoRow, standIns := [], harness := (true, "6e82ea6cbfbd13a9dd59403764f9aef0578fff2f2a68c1ff01fd6210983aa100"), looks := true }, kinds := [], alts := [], laidByText := true, laidKinds := [.data, .data, .data, .sentinel, .mapped], laidTests := true, laidLooks := .later }
def FnSeparatorTakenUptoCardSaid : Prop := Claim7.holds Tryd.pinned (.plain (OpenSpec.upto fnSeparatorTakenSpec)) fnSeparatorTakenUptoCard
end Rows
end Go.Proofs.YtdmkdclockmjbaaDoor
