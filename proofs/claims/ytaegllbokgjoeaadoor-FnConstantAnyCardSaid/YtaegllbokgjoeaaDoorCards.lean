/-
  DERIVED. GIVEN WITH THE SEED: THE CARDS: each row of YtaegllbokgjoeaaDoorRows.lean that lists a variable, with what it lists TIED to the program's text (the seventh form; the later family's looks); each row that meets fmt, with fmt's text TOLD by the authors' own Lean function (tested against real Go, not proved from fmt's source: count such statements apart). THE CARD IS WHAT COUNTS. Prove the row's statement (the work); the ties are given (YtaegllbokgjoeaaDoorTie.lean); close each card by the builder's one call (the guide's Derived/Test/ToyasCard.lean, 'card_holds'). Laid BY PROGRAM, IN A SANDBOX (cutbox-door.mjs). By AI agents, Wed Nov 11 2026. No macro, syntax, notation, axiom, sorry.
-/
import Derived.Test.YtaegllbokgjoeaaDoorRows
import GoSem.ClaimSeven
namespace Go.Proofs.YtaegllbokgjoeaaDoor
namespace Rows

/-- THE TIED CARD OF 'laws.FnConstantAny'. -/
def fnConstantAnyCard : Claim7 := { stood := { row := fnConstantAnyRow, standIns := [], harness := (true, "5515a5eaece9493196e40f85a576e0acae7329e7f53166a3c3a503088abe12be"), looks := true }, kinds := [], alts := [], laidByText := true, laidKinds := [.data, .data, .data], laidTests := true, laidLooks := .later }
def FnConstantAnyCardSaid : Prop := Claim7.holds Tryd.pinned (.plain (OpenSpec.ofChange fnConstantAnySpec)) fnConstantAnyCard

/-- THE SECOND FORM's CARD OF 'laws.FnConstantAny'. -/
def fnConstantAnyUptoCard : Claim7 := { stood := { row := fnConstantAnyUptoRow, standIns := [], harness := (true, "5515a5eaece9493196e40f85a576e0acae7329e7f53166a3c3a503088abe12be"), looks := true }, kinds := [], alts := [], laidByText := true, laidKinds := [.data, .data, .data], laidTests := true, laidLooks := .later }
def FnConstantAnyUptoCardSaid : Prop := Claim7.holds Tryd.pinned (.plain (OpenSpec.upto fnConstantAnySpec)) fnConstantAnyUptoCard
end Rows
end Go.Proofs.YtaegllbokgjoeaaDoor
