/- The law FnUnicodeNames returns true for every input, and its arguments read behind the call as they read before: the tied card (FnUnicodeNamesCardSaid). Conditions: none beyond what the card ties to the program's text. The row is written by programs of this session (wip/tools/myprint.py, mycard.py) with the kit's print. -/
import Derived.Test.YtkhbmkccbhkolaaGreatDoorRows
import Derived.Test.YtkhbmkccbhkolaaGreatDoorPFnUnicodeNamesx5
import Derived.Test.YtkhbmkccbhkolaaGreatDoorPureFnUnicodeNames
import Derived.Test.YtkhbmkccbhkolaaGreatDoorM6
import Derived.Test.YtkhbmkccbhkolaaGreatDoorCards
import Derived.Test.YtkhbmkccbhkolaaGreatDoorTie
import Derived.Test.YtkhbmkccbhkolaaGreatDoorM7
import Derived.SevenTiedAt
import Derived.LaidMore
import Derived.Stop.Joined
import Derived.OpenVars
import Derived.Lay
import Derived.WalkKit
import Derived.ProofKit
import Derived.OpenShut
import Derived.ShutString
import Derived.ChangeOld
import Derived.Below
import Derived.SizedLaws
import Derived.Test.YtkhbmkccbhkolaaGreatDoorWSized
namespace Go.Proofs.YtkhbmkccbhkolaaGreatDoor.fnUnicodeNames
open Go.ChangeShapes Go.WideShapes Go.ChangeAt Go.RowKit
open Go.ChangeMaps (open_string shut_string)
set_option linter.unusedVariables false
theorem own : ownKnob Tryz.prog.godebug = none := by kernel_rfl
theorem laidOut : laidOutB Tryz.prog = true := by kernel_rfl
def IsRow (k : IntKind) (w : World) (a : Option Addr) (len cap : Nat) (zs : List Int) : Prop :=
  (a = none ∧ len = 0 ∧ cap = 0 ∧ zs = []) ∨
  ∃ x, a = some x ∧ len ≤ cap ∧ cap ≤ maxLen ∧ zs.length = cap ∧ (∀ i, i < zs.length → w.cell? (x.add i) = some (.int k (zs.getD i 0))) ∧ ∀ n ∈ zs, (Lit.int k n).wf = true
set_option maxRecDepth 100000 in
theorem lifted (os : Os) (started : os.Started) (H : Type) (enc : TypeId × Value → H) :
    ReturnsInHanded {} Tryz.checked os 3 .any (fun w args => (Rows.fnUnicodeNamesSpec.pre enc Tryz.prog Tryz.f3 [] false w args ∧ laidMetH Tryz.prog laidNot w) ∧ sizedMet enc Tryz.prog Tryz.f3 (OpenSpec.ofChange Rows.fnUnicodeNamesSpec) false w args)
      (Rows.fnUnicodeNamesSpec.post enc Tryz.prog Tryz.f3 false true false false) := by
  refine returnsInHanded_of_change_and (C := Tryz.checked) (X := fun w _ => laidMetH Tryz.prog laidNot w) (fun _ _ _ hh h => h.of_heap hh) own started (by kernel_rfl) Tryz.func3
    (ChangeSpec.witness_shaped (enc := enc) (C := Tryz.checked) (os := os) (X := fun w _ => laidMetH Tryz.prog laidNot w) false (witW os) #[.slice none 0 0, .slice none 0 0] 8 (witW_os os) (witW_shaped os _) (by kernel_rfl) (by kernel_rfl) (by kernel_rfl) (laidNot_met os _)) ?_
  intro W base args ds gs before hval0 hW hcnd hsz0 hL _
  have hsz : (DataW.weightsEach Tryz.prog (Tryz.f3.params.toList ++ Rows.fnUnicodeNamesSpec.plain.varTypes Tryz.prog) (ds ++ gs)).all (· ≤ reachBytes) = true := hsz0
  have hval : ∀ (j : Nat) t v, Tryz.f3.params[j]? = some t → args[j]? = some v → Value.okWide Tryz.prog W .any base t v := hval0
  have hW' := hW
  obtain ⟨p, q, hA0, hV, rfl, hfz, hnd⟩ := hW
  have hA : DataW.TrodAll enc Tryz.prog W 0 (fun _ => true) true Tryz.f3.params.toList args.toList ds p := hA0
  rw [Tryz.params3] at hA hval hsz
  obtain ⟨v0, vs0, d0, ds0, p0, q0, hargs, rfl, rfl, h0, r0⟩ := trodAll_cons hA
  obtain ⟨v1, vs1, d1, ds1, p1, q1, rfl, rfl, rfl, h1, r1⟩ := trodAll_cons r0
  obtain ⟨rfl, rfl, rfl⟩ := trodAll_nil r1
  obtain rfl : args = #[v0, v1] := by cases args; simp_all
  have hV0 := hV
  obtain ⟨_, _, _, _, gd, gp, _, _, _, _, gd1, gp1, rfl, _, _, _, _, _, _, _, _, _⟩ := trodVars_two hV
  obtain ⟨a0, len0, cap0, rfl⟩ := okWide_slice Tryz.underlying22 (hval 0 22 v0 rfl rfl)
  have k0 := h0
  have lt0 : ∀ x ∈ p0, x.block < W.heap.size := by obtain ⟨m, hm⟩ := k0; exact DataW.trod_lt m _ _ _ hm
  obtain ⟨z0, w0⟩ : ∃ zs, IsRow .i64 W a0 len0 cap0 zs := by
    obtain ⟨fuel, hf⟩ := h0
    rcases open_ints Tryz.underlying22 Tryz.underlying3 (by kernel_rfl) hf with ⟨hcs, _⟩ | ⟨x, l, c, zs, hcs, _, hl, hm, hz, _, hcell, hwz⟩
    · simp [Value.cells] at hcs
      obtain ⟨rfl, rfl, rfl⟩ := hcs
      exact ⟨[], .inl ⟨rfl, rfl, rfl, rfl⟩⟩
    · simp [Value.cells] at hcs
      obtain ⟨rfl, rfl, rfl⟩ := hcs
      exact ⟨zs, .inr ⟨_, rfl, hl, hm, by simpa using hz, hcell, hwz⟩⟩
  have y0 : len0 * 8 ≤ 140737488351232 := Go.Proofs.YtkhbmkccbhkolaaGreatDoorW.PrintWords.sized_ints hsz (j := 0) (t := 22) rfl rfl Tryz.underlying22 Tryz.underlying3 (by kernel_rfl) (by kernel_rfl) h0
  obtain ⟨a1, len1, cap1, rfl⟩ := okWide_slice Tryz.underlying23 (hval 1 23 v1 rfl rfl)
  have k1 := h1
  have lt1 : ∀ x ∈ p1, x.block < W.heap.size := by obtain ⟨m, hm⟩ := k1; exact DataW.trod_lt m _ _ _ hm
  obtain ⟨l1, rfl, w1, x1, y1, c1⟩ := rowsC Tryz.underlying23 Tryz.underlying22 Tryz.underlying3 (by kernel_rfl) (by kernel_rfl) 3 h1
  clear hA0 hval0 hsz0 hsz
  refine (PFnUnicodeNames.laws_FnUnicodeNames.walk Pure.FnUnicodeNames a0 len0 cap0 z0 a1 cap1 l1 W (doorU_laid hL) w0 y0 w1 x1 y1 c1).mono fun e W' ⟨he, bel⟩ => ?_
  subst he
  exact ⟨_, rfl, _, _, _, _, _, _, hW', trodAll_mk1 (shut_bool Tryz.underlying4 _), (trodAll_cons_mk (Below.trod laidOut (by kernel_rfl) (of_decide_eq_true (by kernel_rfl)) k0 bel lt0) (trodAll_cons_mk (Below.trod laidOut (by kernel_rfl) (of_decide_eq_true (by kernel_rfl)) k1 bel lt1) trodAll_mk0)), (Below.trodVars laidOut bel (by kernel_rfl) hV0), bel.frame _, fun h => by cases h⟩
theorem over : Rows.fnUnicodeNamesRow.holds Tryz.pinned (OpenSpec.ofChange Rows.fnUnicodeNamesSpec) :=
  OpenClaim.holds_of_wide 3 Tryz.f3 rfl rfl rfl rfl rfl rfl rfl ⟨rfl, rfl, rfl, rfl, rfl⟩ rfl rfl rfl rfl rfl (by kernel_rfl) Tryz.func3 (by kernel_rfl)
    (of_decide_eq_true (by kernel_rfl)) (by unfold Func.isWrapper; first | (rw [if_pos (by decide +kernel)]; kernel_rfl) | (rw [if_neg (by decide +kernel)]; exact ⟨rfl, rfl⟩))
    (fun os started H enc _ => lifted os started H enc)
theorem proved : Rows.FnUnicodeNamesSaid := over
#print axioms proved
theorem card : Rows.FnUnicodeNamesCardSaid :=
  Claim7.holds_tied_plain_at .later [] [.data, .data, .data, .data, .sentinel, .mapped, .pinned] true (true, "7d18c1b87000b34caa479ceac9426adcd3b4e5111afecb971fae3a9677235de5") true
    over (fun _ h => by cases h) (by kernel_rfl) (fun _ h => by cases h) fnUnicodeNames_row_tie rfl ⟨rfl, rfl⟩ (by kernel_rfl) rfl
    (fun f fn hf hfn => by
      obtain rfl : f = 3 := Option.some.inj ((show Tryz.prog.funcNamed "loop.example/pub-g01453/laws.FnUnicodeNames" = some 3 by kernel_rfl).symm.trans hf) |>.symm
      obtain rfl : fn = Tryz.f3 := (Option.some.inj (Tryz.func3.symm.trans hfn)).symm
      exact ⟨by kernel_rfl, fun j t ht => by
        rw [Tryz.params3] at ht
        have hm : t ∈ ([22, 23] : List TypeId) := by simpa using Array.mem_of_getElem? ht
        have hall : (([22, 23] : List TypeId).all fun u => !Tryz.prog.wantsStandIn u) = true := by kernel_rfl
        exact (show Tryz.prog.wantsStandIn t = false by simpa using List.all_eq_true.1 hall t hm)⟩)
    (by kernel_rfl)
#print axioms card
end Go.Proofs.YtkhbmkccbhkolaaGreatDoor.fnUnicodeNames
namespace Go.Proofs.YtkhbmkccbhkolaaGreatDoor
/-- The card, under a short name, for the claim. -/
theorem fnUnicodeNames_card : Rows.FnUnicodeNamesCardSaid := fnUnicodeNames.card
end Go.Proofs.YtkhbmkccbhkolaaGreatDoor
