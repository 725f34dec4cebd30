/-
  DERIVED. GIVEN WITH THE SEED: THE CARDS: each row of YtpmlnhddkbgefaaDoorRows.lean that lists a variable, with what it lists TIED to the program's text (the seventh form; the later family's looks); each row that meets fmt, with fmt's text TOLD by the authors' own Lean function (tested against real Go, not proved from fmt's source: count such statements apart). THE CARD IS WHAT COUNTS. Prove the row's statement (the work); the ties are given (YtpmlnhddkbgefaaDoorTie.lean); close each card by the builder's one call (the guide's Derived/Test/ToyasCard.lean, 'card_holds'). Laid BY PROGRAM, IN A SANDBOX (cutbox-door.mjs). By AI agents, Wed Nov 11 2026. No macro, syntax, notation, axiom, sorry.
-/
import Derived.Test.YtpmlnhddkbgefaaDoorRows
import GoSem.ClaimSeven
namespace Go.Proofs.YtpmlnhddkbgefaaDoor
namespace Rows

/-- THE TIED CARD OF 'laws.FnConstantAlike'. -/
def fnConstantAlikeCard : Claim7 := { stood := { row := fnConstantAlikeRow, standIns := [], harness := (true, "bab6f52e3e4f9a20f52924b24291d2156f398228c4650392dcc17422bb05cd62"), looks := true }, kinds := [], alts := [], laidByText := true, laidKinds := [.data, .data, .data], laidTests := true, laidLooks := .later }
def FnConstantAlikeCardSaid : Prop := Claim7.holds Tryd.pinned (.plain (OpenSpec.ofChange fnConstantAlikeSpec)) fnConstantAlikeCard

/-- THE TIED CARD OF 'laws.FnConstantAny'. -/
def fnConstantAnyCard : Claim7 := { stood := { row := fnConstantAnyRow, standIns := [], harness := (true, "bab6f52e3e4f9a20f52924b24291d2156f398228c4650392dcc17422bb05cd62"), looks := true }, kinds := [], alts := [], laidByText := true, laidKinds := [.data, .data, .data], laidTests := true, laidLooks := .later }
def FnConstantAnyCardSaid : Prop := Claim7.holds Tryd.pinned (.plain (OpenSpec.ofChange fnConstantAnySpec)) fnConstantAnyCard

/-- THE TIED CARD OF 'laws.FnConstantBool'. -/
def fnConstantBoolCard : Claim7 := { stood := { row := fnConstantBoolRow, standIns := [], harness := (true, "bab6f52e3e4f9a20f52924b24291d2156f398228c4650392dcc17422bb05cd62"), looks := true }, kinds := [], alts := [], laidByText := true, laidKinds := [.data, .data, .data], laidTests := true, laidLooks := .later }
def FnConstantBoolCardSaid : Prop := Claim7.holds Tryd.pinned (.plain (OpenSpec.ofChange fnConstantBoolSpec)) fnConstantBoolCard

/-- THE TIED CARD OF 'laws.FnConstantLeast'. -/
def fnConstantLeastCard : Claim7 := { stood := { row := fnConstantLeastRow, standIns := [], harness := (true, "bab6f52e3e4f9a20f52924b24291d2156f398228c4650392dcc17422bb05cd62"), looks := true }, kinds := [], alts := [], laidByText := true, laidKinds := [.data, .data, .data], laidTests := true, laidLooks := .later }
def FnConstantLeastCardSaid : Prop := Claim7.holds Tryd.pinned (.plain (OpenSpec.ofChange fnConstantLeastSpec)) fnConstantLeastCard

/-- THE TIED CARD OF 'laws.FnConstantSigned'. -/
def fnConstantSignedCard : Claim7 := { stood := { row := fnConstantSignedRow, standIns := [], harness := (true, "bab6f52e3e4f9a20f52924b24291d2156f398228c4650392dcc17422bb05cd62"), looks := true }, kinds := [], alts := [], laidByText := true, laidKinds := [.data, .data, .data, .data, .pinned], laidTests := true, laidLooks := .later }
def FnConstantSignedCardSaid : Prop := Claim7.holds Tryd.pinned (.plain (OpenSpec.ofChange fnConstantSignedSpec)) fnConstantSignedCard

/-- THE TIED CARD OF 'laws.FnLegacyEscapes'. -/
def fnLegacyEscapesCard : Claim7 := { stood := { row := fnLegacyEscapesRow, standIns := [], harness := (true, "bab6f52e3e4f9a20f52924b24291d2156f398228c4650392dcc17422bb05cd62"), looks := true }, kinds := [], alts := [], laidByText := true, laidKinds := [.data, .data, .data], laidTests := true, laidLooks := .later }
def FnLegacyEscapesCardSaid : Prop := Claim7.holds Tryd.pinned (.plain (OpenSpec.ofChange fnLegacyEscapesSpec)) fnLegacyEscapesCard

/-- THE TIED CARD OF 'laws.FnLegacyFirst'. -/
def fnLegacyFirstCard : Claim7 := { stood := { row := fnLegacyFirstRow, standIns := [], harness := (true, "bab6f52e3e4f9a20f52924b24291d2156f398228c4650392dcc17422bb05cd62"), looks := true }, kinds := [], alts := [], laidByText := true, laidKinds := [.data, .data, .data], laidTests := true, laidLooks := .later }
def FnLegacyFirstCardSaid : Prop := Claim7.holds Tryd.pinned (.plain (OpenSpec.ofChange fnLegacyFirstSpec)) fnLegacyFirstCard

/-- THE TIED CARD OF 'laws.FnLegacyNoHash'. -/
def fnLegacyNoHashCard : Claim7 := { stood := { row := fnLegacyNoHashRow, standIns := [], harness := (true, "bab6f52e3e4f9a20f52924b24291d2156f398228c4650392dcc17422bb05cd62"), looks := true }, kinds := [], alts := [], laidByText := true, laidKinds := [.data, .data, .data], laidTests := true, laidLooks := .later }
def FnLegacyNoHashCardSaid : Prop := Claim7.holds Tryd.pinned (.plain (OpenSpec.ofChange fnLegacyNoHashSpec)) fnLegacyNoHashCard

/-- THE TIED CARD OF 'laws.FnLegacyNoNumber'. -/
def fnLegacyNoNumberCard : Claim7 := { stood := { row := fnLegacyNoNumberRow, standIns := [], harness := (true, "bab6f52e3e4f9a20f52924b24291d2156f398228c4650392dcc17422bb05cd62"), looks := true }, kinds := [], alts := [], laidByText := true, laidKinds := [.data, .data, .data], laidTests := true, laidLooks := .later }
def FnLegacyNoNumberCardSaid : Prop := Claim7.holds Tryd.pinned (.plain (OpenSpec.ofChange fnLegacyNoNumberSpec)) fnLegacyNoNumberCard

/-- THE TIED CARD OF 'laws.FnLegacyOne'. -/
def fnLegacyOneCard : Claim7 := { stood := { row := fnLegacyOneRow, standIns := [], harness := (true, "bab6f52e3e4f9a20f52924b24291d2156f398228c4650392dcc17422bb05cd62"), looks := true }, kinds := [], alts := [], laidByText := true, laidKinds := [.data, .data, .data], laidTests := true, laidLooks := .later }
def FnLegacyOneCardSaid : Prop := Claim7.holds Tryd.pinned (.plain (OpenSpec.ofChange fnLegacyOneSpec)) fnLegacyOneCard

/-- THE TIED CARD OF 'laws.FnLegacyOptions'. -/
def fnLegacyOptionsCard : Claim7 := { stood := { row := fnLegacyOptionsRow, standIns := [], harness := (true, "bab6f52e3e4f9a20f52924b24291d2156f398228c4650392dcc17422bb05cd62"), looks := true }, kinds := [], alts := [], laidByText := true, laidKinds := [.data, .data, .data], laidTests := true, laidLooks := .later }
def FnLegacyOptionsCardSaid : Prop := Claim7.holds Tryd.pinned (.plain (OpenSpec.ofChange fnLegacyOptionsSpec)) fnLegacyOptionsCard

/-- THE TIED CARD OF 'laws.FnMaxLengthLegacy'. -/
def fnMaxLengthLegacyCard : Claim7 := { stood := { row := fnMaxLengthLegacyRow, standIns := [], harness := (true, "bab6f52e3e4f9a20f52924b24291d2156f398228c4650392dcc17422bb05cd62"), looks := true }, kinds := [], alts := [], laidByText := true, laidKinds := [.data, .data, .data], laidTests := true, laidLooks := .later }
def FnMaxLengthLegacyCardSaid : Prop := Claim7.holds Tryd.pinned (.plain (OpenSpec.ofChange fnMaxLengthLegacySpec)) fnMaxLengthLegacyCard

/-- THE SECOND FORM's CARD OF 'laws.FnConstantAlike'. -/
def fnConstantAlikeUptoCard : Claim7 := { stood := { row := fnConstantAlikeUptoRow, standIns := [], harness := (true, "bab6f52e3e4f9a20f52924b24291d2156f398228c4650392dcc17422bb05cd62"), looks := true }, kinds := [], alts := [], laidByText := true, laidKinds := [.data, .data, .data], laidTests := true, laidLooks := .later }
def FnConstantAlikeUptoCardSaid : Prop := Claim7.holds Tryd.pinned (.plain (OpenSpec.upto fnConstantAlikeSpec)) fnConstantAlikeUptoCard

/-- THE SECOND FORM's CARD OF 'laws.FnConstantAny'. -/
def fnConstantAnyUptoCard : Claim7 := { stood := { row := fnConstantAnyUptoRow, standIns := [], harness := (true, "bab6f52e3e4f9a20f52924b24291d2156f398228c4650392dcc17422bb05cd62"), looks := true }, kinds := [], alts := [], laidByText := true, laidKinds := [.data, .data, .data], laidTests := true, laidLooks := .later }
def FnConstantAnyUptoCardSaid : Prop := Claim7.holds Tryd.pinned (.plain (OpenSpec.upto fnConstantAnySpec)) fnConstantAnyUptoCard

/-- THE SECOND FORM's CARD OF 'laws.FnConstantBool'. -/
def fnConstantBoolUptoCard : Claim7 := { stood := { row := fnConstantBoolUptoRow, standIns := [], harness := (true, "bab6f52e3e4f9a20f52924b24291d2156f398228c4650392dcc17422bb05cd62"), looks := true }, kinds := [], alts := [], laidByText := true, laidKinds := [.data, .data, .data], laidTests := true, laidLooks := .later }
def FnConstantBoolUptoCardSaid : Prop := Claim7.holds Tryd.pinned (.plain (OpenSpec.upto fnConstantBoolSpec)) fnConstantBoolUptoCard

/-- THE SECOND FORM's CARD OF 'laws.FnConstantLeast'. -/
def fnConstantLeastUptoCard : Claim7 := { stood := { row := fnConstantLeastUptoRow, standIns := [], harness := (true, "bab6f52e3e4f9a20f52924b24291d2156f398228c4650392dcc17422bb05cd62"), looks := true }, kinds := [], alts := [], laidByText := true, laidKinds := [.data, .data, .data], laidTests := true, laidLooks := .later }
def FnConstantLeastUptoCardSaid : Prop := Claim7.holds Tryd.pinned (.plain (OpenSpec.upto fnConstantLeastSpec)) fnConstantLeastUptoCard

/-- THE SECOND FORM's CARD OF 'laws.FnConstantSigned'. -/
def fnConstantSignedUptoCard : Claim7 := { stood := { row := fnConstantSignedUptoRow, standIns := [], harness := (true, "bab6f52e3e4f9a20f52924b24291d2156f398228c4650392dcc17422bb05cd62"), looks := true }, kinds := [], alts := [], laidByText := true, laidKinds := [.data, .data, .data, .data, .pinned], laidTests := true, laidLooks := .later }
def FnConstantSignedUptoCardSaid : Prop := Claim7.holds Tryd.pinned (.plain (OpenSpec.upto fnConstantSignedSpec)) fnConstantSignedUptoCard

/-- THE SECOND FORM's CARD OF 'laws.FnLegacyEscapes'. -/
def fnLegacyEscapesUptoCard : Claim7 := { stood := { row := fnLegacyEscapesUptoRow, standIns := [], harness := (true, "bab6f52e3e4f9a20f52924b24291d2156f398228c4650392dcc17422bb05cd62"), looks := true }, kinds := [], alts := [], laidByText := true, laidKinds := [.data, .data, .data], laidTests := true, laidLooks := .later }
def FnLegacyEscapesUptoCardSaid : Prop := Claim7.holds Tryd.pinned (.plain (OpenSpec.upto fnLegacyEscapesSpec)) fnLegacyEscapesUptoCard

/-- THE SECOND FORM's CARD OF 'laws.FnLegacyFirst'. -/
def fnLegacyFirstUptoCard : Claim7 := { stood := { row := fnLegacyFirstUptoRow, standIns := [], harness := (true, "bab6f52e3e4f9a20f52924b24291d2156f398228c4650392dcc17422bb05cd62"), looks := true }, kinds := [], alts := [], laidByText := true, laidKinds := [.data, .data, .data], laidTests := true, laidLooks := .later }
def FnLegacyFirstUptoCardSaid : Prop := Claim7.holds Tryd.pinned (.plain (OpenSpec.upto fnLegacyFirstSpec)) fnLegacyFirstUptoCard

/-- THE SECOND FORM's CARD OF 'laws.FnLegacyNoHash'. -/
def fnLegacyNoHashUptoCard : Claim7 := { stood := { row := fnLegacyNoHashUptoRow, standIns := [], harness := (true, "bab6f52e3e4f9a20f52924b24291d2156f398228c4650392dcc17422bb05cd62"), looks := true }, kinds := [], alts := [], laidByText := true, laidKinds := [.data, .data, .data], laidTests := true, laidLooks := .later }
def FnLegacyNoHashUptoCardSaid : Prop := Claim7.holds Tryd.pinned (.plain (OpenSpec.upto fnLegacyNoHashSpec)) fnLegacyNoHashUptoCard

/-- THE SECOND FORM's CARD OF 'laws.FnLegacyNoNumber'. -/
def fnLegacyNoNumberUptoCard : Claim7 := { stood := { row := fnLegacyNoNumberUptoRow, standIns := [], harness := (true, "bab6f52e3e4f9a20f52924b24291d2156f398228c4650392dcc17422bb05cd62"), looks := true }, kinds := [], alts := [], laidByText := true, laidKinds := [.data, .data, .data], laidTests := true, laidLooks := .later }
def FnLegacyNoNumberUptoCardSaid : Prop := Claim7.holds Tryd.pinned (.plain (OpenSpec.upto fnLegacyNoNumberSpec)) fnLegacyNoNumberUptoCard

/-- THE SECOND FORM's CARD OF 'laws.FnLegacyOne'. -/
def fnLegacyOneUptoCard : Claim7 := { stood := { row := fnLegacyOneUptoRow, standIns := [], harness := (true, "bab6f52e3e4f9a20f52924b24291d2156f398228c4650392dcc17422bb05cd62"), looks := true }, kinds := [], alts := [], laidByText := true, laidKinds := [.data, .data, .data], laidTests := true, laidLooks := .later }
def FnLegacyOneUptoCardSaid : Prop := Claim7.holds Tryd.pinned (.plain (OpenSpec.upto fnLegacyOneSpec)) fnLegacyOneUptoCard

/-- THE SECOND FORM's CARD OF 'laws.FnLegacyOptions'. -/
def fnLegacyOptionsUptoCard : Claim7 := { stood := { row := fnLegacyOptionsUptoRow, standIns := [], harness := (true, "bab6f52e3e4f9a20f52924b24291d2156f398228c4650392dcc17422bb05cd62"), looks := true }, kinds := [], alts := [], laidByText := true, laidKinds := [.data, .data, .data], laidTests := true, laidLooks := .later }
def FnLegacyOptionsUptoCardSaid : Prop := Claim7.holds Tryd.pinned (.plain (OpenSpec.upto fnLegacyOptionsSpec)) fnLegacyOptionsUptoCard

/-- THE SECOND FORM's CARD OF 'laws.FnMaxLengthLegacy'. -/
def fnMaxLengthLegacyUptoCard : Claim7 := { stood := { row := fnMaxLengthLegacyUptoRow, standIns := [], harness := (true, "bab6f52e3e4f9a20f52924b24291d2156f398228c4650392dcc17422bb05cd62"), looks := true }, kinds := [], alts := [], laidByText := true, laidKinds := [.data, .data, .data], laidTests := true, laidLooks := .later }
def FnMaxLengthLegacyUptoCardSaid : Prop := Claim7.holds Tryd.pinned (.plain (OpenSpec.upto fnMaxLengthLegacySpec)) fnMaxLengthLegacyUptoCard
end Rows
end Go.Proofs.YtpmlnhddkbgefaaDoor
