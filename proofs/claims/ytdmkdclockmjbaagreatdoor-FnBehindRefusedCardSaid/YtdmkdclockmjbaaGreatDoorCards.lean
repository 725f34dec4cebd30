/-
  DERIVED. GIVEN WITH THE SEED: THE CARDS: each row of YtdmkdclockmjbaaGreatDoorRows.lean that lists a variable, with what it lists TIED to the program's text (the seventh form; the later family's looks); each row that meets fmt, with fmt's text TOLD by the authors' own Lean function (tested against real Go, not proved from fmt's source: count such statements apart). THE CARD IS WHAT COUNTS. Prove the row's statement (the work); the ties are given (YtdmkdclockmjbaaGreatDoorTie.lean); close each card by the builder's one call (the guide's Derived/Test/ToyasCard.lean, 'card_holds'). Laid BY PROGRAM, IN A SANDBOX (cutbox-door.mjs). By AI agents, Wed Nov 11 2026. No macro, syntax, notation, axiom, sorry.
-/
import Derived.Test.YtdmkdclockmjbaaGreatDoorRows
import GoSem.ClaimSeven
namespace Go.Proofs.YtdmkdclockmjbaaGreatDoor
namespace Rows

/-- THE TIED CARD OF 'laws.FnSuffixLLVM'. -/
def fnSuffixLLVMCard : Claim7 := { stood := { row := fnSuffixLLVMRow, standIns := [], harness := (true, "6355be043c9687eeca09f80f94fde737c97f817e94e79a37c75098d4a20642a7"), looks := true }, kinds := [], alts := [], laidByText := true, laidKinds := [.data, .data, .data, .data, .sentinel, .mapped, .pinned], laidTests := true, laidLooks := .later }
def FnSuffixLLVMCardSaid : Prop := Claim7.holds Tryz.pinned (.plain (OpenSpec.ofChange fnSuffixLLVMSpec)) fnSuffixLLVMCard

/-- THE TIED CARD OF 'laws.FnUnicodeNames'. -/
def fnUnicodeNamesCard : Claim7 := { stood := { row := fnUnicodeNamesRow, standIns := [], harness := (true, "6355be043c9687eeca09f80f94fde737c97f817e94e79a37c75098d4a20642a7"), looks := true }, kinds := [], alts := [], laidByText := true, laidKinds := [.data, .data, .data, .data, .sentinel, .mapped, .pinned], laidTests := true, laidLooks := .later }
def FnUnicodeNamesCardSaid : Prop := Claim7.holds Tryz.pinned (.plain (OpenSpec.ofChange fnUnicodeNamesSpec)) fnUnicodeNamesCard

/-- THE TIED CARD OF 'laws.FnBehindRefused'. -/
def fnBehindRefusedCard : Claim7 := { stood := { row := fnBehindRefusedRow, standIns := [], harness := (true, "6355be043c9687eeca09f80f94fde737c97f817e94e79a37c75098d4a20642a7"), looks := true }, kinds := [], alts := [], laidByText := true, laidKinds := [.data, .data, .data, .data, .sentinel, .mapped, .pinned], laidTests := true, laidLooks := .later }
def FnBehindRefusedCardSaid : Prop := Claim7.holds Tryz.pinned (.plain (OpenSpec.ofChange fnBehindRefusedSpec)) fnBehindRefusedCard

/-- THE TIED CARD OF 'laws.FnClosures'. -/
def fnClosuresCard : Claim7 := { stood := { row := fnClosuresRow, standIns := [], harness := (true, "6355be043c9687eeca09f80f94fde737c97f817e94e79a37c75098d4a20642a7"), looks := true }, kinds := [], alts := [], laidByText := true, laidKinds := [.data, .data, .data, .data, .sentinel, .mapped, .pinned], laidTests := true, laidLooks := .later }
def FnClosuresCardSaid : Prop := Claim7.holds Tryz.pinned (.plain (OpenSpec.ofChange fnClosuresSpec)) fnClosuresCard

/-- THE TIED CARD OF 'laws.FnCutRefused'. -/
def fnCutRefusedCard : Claim7 := { stood := { row := fnCutRefusedRow, standIns := [], harness := (true, "6355be043c9687eeca09f80f94fde737c97f817e94e79a37c75098d4a20642a7"), looks := true }, kinds := [], alts := [], laidByText := true, laidKinds := [.data, .data, .data, .data, .sentinel, .mapped, .pinned], laidTests := true, laidLooks := .later }
def FnCutRefusedCardSaid : Prop := Claim7.holds Tryz.pinned (.plain (OpenSpec.ofChange fnCutRefusedSpec)) fnCutRefusedCard

/-- THE TIED CARD OF 'laws.FnMaxLengthBegins'. -/
def fnMaxLengthBeginsCard : Claim7 := { stood := { row := fnMaxLengthBeginsRow, standIns := [], harness := (true, "6355be043c9687eeca09f80f94fde737c97f817e94e79a37c75098d4a20642a7"), looks := true }, kinds := [], alts := [], laidByText := true, laidKinds := [.data, .data, .data, .data, .sentinel, .mapped, .pinned], laidTests := true, laidLooks := .later }
def FnMaxLengthBeginsCardSaid : Prop := Claim7.holds Tryz.pinned (.plain (OpenSpec.ofChange fnMaxLengthBeginsSpec)) fnMaxLengthBeginsCard

/-- THE TIED CARD OF 'laws.FnMaxLengthSpecial'. -/
def fnMaxLengthSpecialCard : Claim7 := { stood := { row := fnMaxLengthSpecialRow, standIns := [], harness := (true, "6355be043c9687eeca09f80f94fde737c97f817e94e79a37c75098d4a20642a7"), looks := true }, kinds := [], alts := [], laidByText := true, laidKinds := [.data, .data, .data, .data, .sentinel, .mapped, .pinned], laidTests := true, laidLooks := .later }
def FnMaxLengthSpecialCardSaid : Prop := Claim7.holds Tryz.pinned (.plain (OpenSpec.ofChange fnMaxLengthSpecialSpec)) fnMaxLengthSpecialCard

/-- THE TIED CARD OF 'laws.FnNestedNames'. -/
def fnNestedNamesCard : Claim7 := { stood := { row := fnNestedNamesRow, standIns := [], harness := (true, "6355be043c9687eeca09f80f94fde737c97f817e94e79a37c75098d4a20642a7"), looks := true }, kinds := [], alts := [], laidByText := true, laidKinds := [.data, .data, .data, .data, .sentinel, .mapped, .pinned], laidTests := true, laidLooks := .later }
def FnNestedNamesCardSaid : Prop := Claim7.holds Tryz.pinned (.plain (OpenSpec.ofChange fnNestedNamesSpec)) fnNestedNamesCard

/-- THE TIED CARD OF 'laws.FnOptionsUnseen'. -/
def fnOptionsUnseenCard : Claim7 := { stood := { row := fnOptionsUnseenRow, standIns := [], harness := (true, "6355be043c9687eeca09f80f94fde737c97f817e94e79a37c75098d4a20642a7"), looks := true }, kinds := [], alts := [], laidByText := true, laidKinds := [.data, .data, .data, .data, .sentinel, .mapped, .pinned], laidTests := true, laidLooks := .later }
def FnOptionsUnseenCardSaid : Prop := Claim7.holds Tryz.pinned (.plain (OpenSpec.ofChange fnOptionsUnseenSpec)) fnOptionsUnseenCard

/-- THE TIED CARD OF 'laws.FnSpecialParts'. -/
def fnSpecialPartsCard : Claim7 := { stood := { row := fnSpecialPartsRow, standIns := [], harness := (true, "6355be043c9687eeca09f80f94fde737c97f817e94e79a37c75098d4a20642a7"), looks := true }, kinds := [], alts := [], laidByText := true, laidKinds := [.data, .data, .data, .data, .sentinel, .mapped, .pinned], laidTests := true, laidLooks := .later }
def FnSpecialPartsCardSaid : Prop := Claim7.holds Tryz.pinned (.plain (OpenSpec.ofChange fnSpecialPartsSpec)) fnSpecialPartsCard

/-- THE SECOND FORM's CARD OF 'laws.FnSuffixLLVM'. -/
def fnSuffixLLVMUptoCard : Claim7 := { stood := { row := fnSuffixLLVMUptoRow, standIns := [], harness := (true, "6355be043c9687eeca09f80f94fde737c97f817e94e79a37c75098d4a20642a7"), looks := true }, kinds := [], alts := [], laidByText := true, laidKinds := [.data, .data, .data, .data, .sentinel, .mapped, .pinned], laidTests := true, laidLooks := .later }
def FnSuffixLLVMUptoCardSaid : Prop := Claim7.holds Tryz.pinned (.plain (OpenSpec.upto fnSuffixLLVMSpec)) fnSuffixLLVMUptoCard

/-- THE SECOND FORM's CARD OF 'laws.FnUnicodeNames'. -/
def fnUnicodeNamesUptoCard : Claim7 := { stood := { row := fnUnicodeNamesUptoRow, standIns := [], harness := (true, "6355be043c9687eeca09f80f94fde737c97f817e94e79a37c75098d4a20642a7"), looks := true }, kinds := [], alts := [], laidByText := true, laidKinds := [.data, .data, .data, .data, .sentinel, .mapped, .pinned], laidTests := true, laidLooks := .later }
def FnUnicodeNamesUptoCardSaid : Prop := Claim7.holds Tryz.pinned (.plain (OpenSpec.upto fnUnicodeNamesSpec)) fnUnicodeNamesUptoCard

/-- THE SECOND FORM's CARD OF 'laws.FnBehindRefused'. -/
def fnBehindRefusedUptoCard : Claim7 := { stood := { row := fnBehindRefusedUptoRow, standIns := [], harness := (true, "6355be043c9687eeca09f80f94fde737c97f817e94e79a37c75098d4a20642a7"), looks := true }, kinds := [], alts := [], laidByText := true, laidKinds := [.data, .data, .data, .data, .sentinel, .mapped, .pinned], laidTests := true, laidLooks := .later }
def FnBehindRefusedUptoCardSaid : Prop := Claim7.holds Tryz.pinned (.plain (OpenSpec.upto fnBehindRefusedSpec)) fnBehindRefusedUptoCard

/-- THE SECOND FORM's CARD OF 'laws.FnClosures'. -/
def fnClosuresUptoCard : Claim7 := { stood := { row := fnClosuresUptoRow, standIns := [], harness := (true, "6355be043c9687eeca09f80f94fde737c97f817e94e79a37c75098d4a20642a7"), looks := true }, kinds := [], alts := [], laidByText := true, laidKinds := [.data, .data, .data, .data, .sentinel, .mapped, .pinned], laidTests := true, laidLooks := .later }
def FnClosuresUptoCardSaid : Prop := Claim7.holds Tryz.pinned (.plain (OpenSpec.upto fnClosuresSpec)) fnClosuresUptoCard

/-- THE SECOND FORM's CARD OF 'laws.FnCutRefused'. -/
def fnCutRefusedUptoCard : Claim7 := { stood := { row := fnCutRefusedUptoRow, standIns := [], harness := (true, "6355be043c9687eeca09f80f94fde737c97f817e94e79a37c75098d4a20642a7"), looks := true }, kinds := [], alts := [], laidByText := true, laidKinds := [.data, .data, .data, .data, .sentinel, .mapped, .pinned], laidTests := true, laidLooks := .later }
def FnCutRefusedUptoCardSaid : Prop := Claim7.holds Tryz.pinned (.plain (OpenSpec.upto fnCutRefusedSpec)) fnCutRefusedUptoCard

/-- THE SECOND FORM's CARD OF 'laws.FnMaxLengthBegins'. -/
def fnMaxLengthBeginsUptoCard : Claim7 := { stood := { row := fnMaxLengthBeginsUptoRow, standIns := [], harness := (true, "6355be043c9687eeca09f80f94fde737c97f817e94e79a37c75098d4a20642a7"), looks := true }, kinds := [], alts := [], laidByText := true, laidKinds := [.data, .data, .data, .data, .sentinel, .mapped, .pinned], laidTests := true, laidLooks := .later }
def FnMaxLengthBeginsUptoCardSaid : Prop := Claim7.holds Tryz.pinned (.plain (OpenSpec.upto fnMaxLengthBeginsSpec)) fnMaxLengthBeginsUptoCard

/-- THE SECOND FORM's CARD OF 'laws.FnMaxLengthSpecial'. -/
def fnMaxLengthSpecialUptoCard : Claim7 := { stood := { row := fnMaxLengthSpecialUptoRow, standIns := [], harness := (true, "6355be043c9687eeca09f80f94fde737c97f817e94e79a37c75098d4a20642a7"), looks := true }, kinds := [], alts := [], laidByText := true, laidKinds := [.data, .data, .data, .data, .sentinel, .mapped, .pinned], laidTests := true, laidLooks := .later }
def FnMaxLengthSpecialUptoCardSaid : Prop := Claim7.holds Tryz.pinned (.plain (OpenSpec.upto fnMaxLengthSpecialSpec)) fnMaxLengthSpecialUptoCard

/-- THE SECOND FORM's CARD OF 'laws.FnNestedNames'. -/
def fnNestedNamesUptoCard : Claim7 := { stood := { row := fnNestedNamesUptoRow, standIns := [], harness := (true, "6355be043c9687eeca09f80f94fde737c97f817e94e79a37c75098d4a20642a7"), looks := true }, kinds := [], alts := [], laidByText := true, laidKinds := [.data, .data, .data, .data, .sentinel, .mapped, .pinned], laidTests := true, laidLooks := .later }
def FnNestedNamesUptoCardSaid : Prop := Claim7.holds Tryz.pinned (.plain (OpenSpec.upto fnNestedNamesSpec)) fnNestedNamesUptoCard

/-- THE SECOND FORM's CARD OF 'laws.FnOptionsUnseen'. -/
def fnOptionsUnseenUptoCard : Claim7 := { stood := { row := fnOptionsUnseenUptoRow, standIns := [], harness := (true, "6355be043c9687eeca09f80f94fde737c97f817e94e79a37c75098d4a20642a7"), looks := true }, kinds := [], alts := [], laidByText := true, laidKinds := [.data, .data, .data, .data, .sentinel, .mapped, .pinned], laidTests := true, laidLooks := .later }
def FnOptionsUnseenUptoCardSaid : Prop := Claim7.holds Tryz.pinned (.plain (OpenSpec.upto fnOptionsUnseenSpec)) fnOptionsUnseenUptoCard

/-- THE SECOND FORM's CARD OF 'laws.FnSpecialParts'. -/
def fnSpecialPartsUptoCard : Claim7 := { stood := { row := fnSpecialPartsUptoRow, standIns := [], harness := (true, "6355be043c9687eeca09f80f94fde737c97f817e94e79a37c75098d4a20642a7"), looks := true }, kinds := [], alts := [], laidByText := true, laidKinds := [.data, .data, .data, .data, .sentinel, .mapped, .pinned], laidTests := true, laidLooks := .later }
def FnSpecialPartsUptoCardSaid : Prop := Claim7.holds Tryz.pinned (.plain (OpenSpec.upto fnSpecialPartsSpec)) fnSpecialPartsUptoCard
end Rows
end Go.Proofs.YtdmkdclockmjbaaGreatDoor
