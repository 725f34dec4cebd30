/- The map of basic types, as the program's text lays it: what the rows' premise gives the walks. -/
import Derived.Test.YtdmkdclockmjbaaDoorMap
import Derived.Test.YtdmkdclockmjbaaDoorRows
import Derived.ProofKit
import Derived.LaidMore
import Derived.OpenShut
import Derived.Stop.Joined
namespace Go.Proofs.YtdmkdclockmjbaaDoor
set_option linter.unusedVariables false
open Go.ChangeShapes Go.WideShapes Go.ChangeAt Go.WideElems Go.RowKit

def laidMap : List (String × DataW Unit) := [("loop.example/pub-g01453/pub/rustdemangle.rustBasicTypes", Rows.laid_loop_example_pub_g01453_pub_rustdemangle_rustBasicTypes)]

theorem gMap : Tryd.prog.globalNamed "loop.example/pub-g01453/pub/rustdemangle.rustBasicTypes" = some 4 := by kernel_rfl
theorem tMap : (Tryd.prog.globals[4]?).map (·.type) = some 98 := by kernel_rfl

/-- The door's own heap meets the condition. -/
theorem laidMap_door (os : Os) (args : Array Value) : laidMetH Tryd.prog laidMap ((World.doorLaid Tryd.prog 400 os).forCall (fun _ _ => 0) ⟨#[], args, []⟩).memory :=
  laidMetH_of_parts3 (fuel := 8) (laidMet_of_run' 8 (by kernel_rfl) (by kernel_rfl)) (by kernel_rfl) (by kernel_rfl)

def strAt : DataW Unit → Option (List UInt8)
  | .lit (.string s) => some s
  | _ => none
set_option maxRecDepth 100000 in
theorem map_at : ∀ c : Fin 256, strAt (DataW.atKey (Rows.laid_loop_example_pub_g01453_pub_rustdemangle_rustBasicTypes (H := Unit)) (.int .u8 (c.val : Int)) .nil) = Dm.btext (UInt8.ofNat c.val) := by decide +kernel
theorem map_at' (c : UInt8) : strAt (DataW.atKey (Rows.laid_loop_example_pub_g01453_pub_rustdemangle_rustBasicTypes (H := Unit)) (.int .u8 (c.toNat : Int)) .nil) = Dm.btext c := by
  have := map_at ⟨c.toNat, c.toNat_lt⟩
  simpa using this

theorem mapIs_laid {W : World} (h : laidMetH Tryd.prog laidMap W) : MapIs W := by
  rw [MakeChecks.laidMetH_plain _ _ _ (by kernel_rfl)] at h
  obtain ⟨ps, ⟨g0, t0, cs0, f0, p0, q0, hg0, ht0, hv0, hd0, _, _⟩, _, _⟩ := h
  obtain rfl := Option.some.inj (gMap.symm.trans hg0)
  obtain rfl := Option.some.inj (tMap.symm.trans ht0)
  rcases open_map Tryd.underlying98 hd0 with ⟨_, hx⟩ | ⟨bm, es, clock, m, rfl, hcs, hb, _, F, hx⟩
  · simp [Rows.laid_loop_example_pub_g01453_pub_rustdemangle_rustBasicTypes] at hx
  simp only [Prod.mk.injEq] at hx
  have hcell : W.cell? ⟨4, 0, none⟩ = some (.map (some bm)) := by
    have := World.var?_cell hg0 hv0 0
    rw [Array.eq_one_of_toList hcs] at this
    simpa using this
  refine ⟨bm, es, clock, hcell, hb, fun V hV c => ?_⟩
  have zero : (zeroValue 9).run Tryd.prog V = .ok (.string ⟨#[]⟩) V := by kernel_rfl
  have hkey : keyOf Tryd.prog 5 (.int .u8 (c.toNat : Int)) = some (.int .u8 (c.toNat : Int)) :=
    Maps.keyOf_int_mk Tryd.underlying5 (by have := c.toNat_lt; simp [Lit.wf, IntKind.min, IntKind.max, IntKind.bits, IntKind.signed]; omega)
  have hm := map_at' c
  rcases Maps.fit_look true (w := V) (Maps.int_keyed Tryd.underlying5) Tryd.underlying98 zero hV F hkey with ⟨hrun, _, hat⟩ | ⟨e0, y, _, _, hrun, hRv, hat, _⟩
  · have h2 := hat .nil
    rw [← hx.1] at h2
    rw [h2] at hm
    unfold lookRes
    rw [← hm]
    exact hrun
  · obtain ⟨s, hs, rfl, _⟩ := elemAt_string Tryd.underlying9 hRv
    have h2 := hat .nil
    rw [← hx.1] at h2
    rw [h2] at hm
    unfold lookRes
    rw [← hm]
    simp only [strAt]
    rw [hs] at hrun
    have e : bs s.data.toList = s := by apply ByteArray.ext; show s.data.toList.toArray = s.data; simp
    rw [e]
    exact hrun
end Go.Proofs.YtdmkdclockmjbaaDoor
