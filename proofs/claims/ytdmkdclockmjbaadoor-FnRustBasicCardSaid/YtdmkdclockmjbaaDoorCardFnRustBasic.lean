/- The law FnRustBasic returns true for every input, and its arguments read behind the call as they read before: the tied card (FnRustBasicCardSaid). Conditions: none beyond what the card ties to the program's text. The row is written by programs of this session (wip/tools/myprint.py, mycard.py) with the kit's print. -/
import Derived.Test.YtdmkdclockmjbaaDoorRows
import Derived.Test.YtdmkdclockmjbaaDoorPFnRustBasicx1
import Derived.Test.YtdmkdclockmjbaaDoorPureFnRustBasic
import Derived.Test.YtdmkdclockmjbaaDoorCards
import Derived.Test.YtdmkdclockmjbaaDoorTie
import Derived.Test.YtdmkdclockmjbaaDoorLaidB
import Derived.SevenTiedAt
import Derived.LaidMore
import Derived.Stop.Joined
import Derived.OpenVars
import Derived.Lay
import Derived.WalkKit
import Derived.ProofKit
import Derived.OpenShut
import Derived.ShutString
import Derived.ChangeOld
import Derived.Below
import Derived.SizedLaws
namespace Go.Proofs.YtdmkdclockmjbaaDoor.fnRustBasic
open Go.ChangeShapes Go.WideShapes Go.ChangeAt Go.RowKit
open Go.ChangeMaps (open_string shut_string)
set_option linter.unusedVariables false
theorem own : ownKnob Tryd.prog.godebug = none := by kernel_rfl
theorem laidOut : laidOutB Tryd.prog = true := by kernel_rfl
set_option maxRecDepth 100000 in
theorem lifted (os : Os) (started : os.Started) (H : Type) (enc : TypeId × Value → H) :
    ReturnsInHanded {} Tryd.checked os 3 .any (fun w args => (Rows.fnRustBasicSpec.pre enc Tryd.prog Tryd.f3 [] false w args ∧ laidMetH Tryd.prog laidNot w) ∧ sizedMet enc Tryd.prog Tryd.f3 (OpenSpec.ofChange Rows.fnRustBasicSpec) false w args)
      (Rows.fnRustBasicSpec.post enc Tryd.prog Tryd.f3 false true false false) := by
  refine returnsInHanded_of_change_and (C := Tryd.checked) (X := fun w _ => laidMetH Tryd.prog laidNot w) (fun _ _ _ hh h => h.of_heap hh) own started (by kernel_rfl) Tryd.func3
    (ChangeSpec.witness_shaped (enc := enc) (C := Tryd.checked) (os := os) (X := fun w _ => laidMetH Tryd.prog laidNot w) false (World.doorLaid Tryd.prog 400 os) #[.int .u8 0] 8 rfl (World.shaped_of_RefB (by kernel_rfl) (by kernel_rfl)) (by kernel_rfl) (by kernel_rfl) (by kernel_rfl) (laidNot_door os _)) ?_
  intro W base args ds gs before hval0 hW hcnd hsz0 hL _
  have hsz : (DataW.weightsEach Tryd.prog (Tryd.f3.params.toList ++ Rows.fnRustBasicSpec.plain.varTypes Tryd.prog) (ds ++ gs)).all (· ≤ reachBytes) = true := hsz0
  have hval : ∀ (j : Nat) t v, Tryd.f3.params[j]? = some t → args[j]? = some v → Value.okWide Tryd.prog W .any base t v := hval0
  have hW' := hW
  obtain ⟨p, q, hA0, hV, rfl, hfz, hnd⟩ := hW
  have hA : DataW.TrodAll enc Tryd.prog W 0 (fun _ => true) true Tryd.f3.params.toList args.toList ds p := hA0
  rw [Tryd.params3] at hA hval hsz
  obtain ⟨v0, vs0, d0, ds0, p0, q0, hargs, rfl, rfl, h0, r0⟩ := trodAll_cons hA
  obtain ⟨rfl, rfl, rfl⟩ := trodAll_nil r0
  obtain rfl : args = #[v0] := by cases args; simp_all
  have hV0 := hV
  obtain ⟨_, _, _, _, gd, gp, _, _, _, _, gd1, gp1, rfl, _, _, _, _, _, _, _, _, _⟩ := trodVars_two hV
  obtain ⟨a0, rfl, rfl, rfl, w0⟩ := open_int Tryd.underlying5 (hval 0 5 v0 rfl rfl) h0
  clear hA0 hval0 hsz0 hsz
  refine (PFnRustBasic.laws_FnRustBasic.walk Pure.FnRustBasic a0 W (doorB_laid hL) w0).mono fun e W' ⟨he, bel⟩ => ?_
  subst he
  exact ⟨_, rfl, _, _, _, _, _, _, hW', trodAll_mk1 (shut_bool Tryd.underlying4 _), (trodAll_cons_mk (shut_int Tryd.underlying5 w0) trodAll_mk0), (Below.trodVars laidOut bel (by kernel_rfl) hV0), bel.frame _, fun h => by cases h⟩
theorem over : Rows.fnRustBasicRow.holds Tryd.pinned (OpenSpec.ofChange Rows.fnRustBasicSpec) :=
  OpenClaim.holds_of_wide 3 Tryd.f3 rfl rfl rfl rfl rfl rfl rfl ⟨rfl, rfl, rfl, rfl, rfl⟩ rfl rfl rfl rfl rfl (by kernel_rfl) Tryd.func3 (by kernel_rfl)
    (of_decide_eq_true (by kernel_rfl)) (by unfold Func.isWrapper; first | (rw [if_pos (by decide +kernel)]; kernel_rfl) | (rw [if_neg (by decide +kernel)]; exact ⟨rfl, rfl⟩))
    (fun os started H enc _ => lifted os started H enc)
theorem proved : Rows.FnRustBasicSaid := over
#print axioms proved
theorem card : Rows.FnRustBasicCardSaid :=
  Claim7.holds_tied_plain_at .later [] [.data, .data, .data, .sentinel, .mapped] true (true, "6e82ea6cbfbd13a9dd59403764f9aef0578fff2f2a68c1ff01fd6210983aa100") true
    over (fun _ h => by cases h) (by kernel_rfl) (fun _ h => by cases h) fnRustBasic_row_tie rfl ⟨rfl, rfl⟩ (by kernel_rfl) rfl
    (fun f fn hf hfn => by
      obtain rfl : f = 3 := Option.some.inj ((show Tryd.prog.funcNamed "loop.example/pub-g01453/laws.FnRustBasic" = some 3 by kernel_rfl).symm.trans hf) |>.symm
      obtain rfl : fn = Tryd.f3 := (Option.some.inj (Tryd.func3.symm.trans hfn)).symm
      exact ⟨by kernel_rfl, fun j t ht => by
        rw [Tryd.params3] at ht
        have hm : t ∈ ([5] : List TypeId) := by simpa using Array.mem_of_getElem? ht
        have hall : (([5] : List TypeId).all fun u => !Tryd.prog.wantsStandIn u) = true := by kernel_rfl
        exact (show Tryd.prog.wantsStandIn t = false by simpa using List.all_eq_true.1 hall t hm)⟩)
    (by kernel_rfl)
#print axioms card
end Go.Proofs.YtdmkdclockmjbaaDoor.fnRustBasic
namespace Go.Proofs.YtdmkdclockmjbaaDoor
/-- The card, under a short name, for the claim. -/
theorem fnRustBasic_card : Rows.FnRustBasicCardSaid := fnRustBasic.card
end Go.Proofs.YtdmkdclockmjbaaDoor
