/- The law FnLegacyOptions returns true for every input, and its arguments read behind the call as they read before: the tied card (FnLegacyOptionsCardSaid). Conditions: none beyond what the card ties to the program's text. The row is written by programs of this session (wip/tools/myprint.py, mycard.py) with the kit's print. -/
import Derived.Test.YtpmlnhddkbgefaaDoorRows
import Derived.Test.YtpmlnhddkbgefaaDoorPFnLegacyOptionsx3
import Derived.Test.YtpmlnhddkbgefaaDoorPureFnLegacyOptions
import Derived.Test.YtpmlnhddkbgefaaDoorM6
import Derived.Test.YtpmlnhddkbgefaaDoorOptC
import Derived.Test.YtpmlnhddkbgefaaDoorCards
import Derived.Test.YtpmlnhddkbgefaaDoorTie
import Derived.Test.YtpmlnhddkbgefaaDoorM7
import Derived.SevenTiedAt
import Derived.LaidMore
import Derived.Stop.Joined
import Derived.OpenVars
import Derived.Lay
import Derived.WalkKit
import Derived.ProofKit
import Derived.OpenShut
import Derived.ShutString
import Derived.ChangeOld
import Derived.Below
import Derived.SizedLaws
import Derived.Test.YtpmlnhddkbgefaaDoorWSized
namespace Go.Proofs.YtpmlnhddkbgefaaDoor.fnLegacyOptions
open Go.ChangeShapes Go.WideShapes Go.ChangeAt Go.RowKit
open Go.ChangeMaps (open_string shut_string)
set_option linter.unusedVariables false
theorem own : ownKnob Tryd.prog.godebug = none := by kernel_rfl
theorem laidOut : laidOutB Tryd.prog = true := by kernel_rfl
def IsRow (k : IntKind) (w : World) (a : Option Addr) (len cap : Nat) (zs : List Int) : Prop :=
  (a = none ∧ len = 0 ∧ cap = 0 ∧ zs = []) ∨
  ∃ x, a = some x ∧ len ≤ cap ∧ cap ≤ maxLen ∧ zs.length = cap ∧ (∀ i, i < zs.length → w.cell? (x.add i) = some (.int k (zs.getD i 0))) ∧ ∀ n ∈ zs, (Lit.int k n).wf = true
set_option maxRecDepth 100000 in
theorem lifted (os : Os) (started : os.Started) (H : Type) (enc : TypeId × Value → H) :
    ReturnsInHanded {} Tryd.checked os 13 .any (fun w args => (Rows.fnLegacyOptionsSpec.pre enc Tryd.prog Tryd.f13 [] false w args ∧ laidMetH Tryd.prog laidStr w) ∧ sizedMet enc Tryd.prog Tryd.f13 (OpenSpec.ofChange Rows.fnLegacyOptionsSpec) false w args)
      (Rows.fnLegacyOptionsSpec.post enc Tryd.prog Tryd.f13 false true false false) := by
  refine returnsInHanded_of_change_and (C := Tryd.checked) (X := fun w _ => laidMetH Tryd.prog laidStr w) (fun _ _ _ hh h => h.of_heap hh) own started (by kernel_rfl) Tryd.func13
    (ChangeSpec.witness_shaped (enc := enc) (C := Tryd.checked) (os := os) (X := fun w _ => laidMetH Tryd.prog laidStr w) false (World.doorLaid Tryd.prog 400 os) #[.slice none 0 0, .slice none 0 0, .agg #[.bool false, .bool false, .bool false, .bool false, .bool false, .bool false, .bool false, .int .i64 0]] 8 rfl (World.shaped_of_RefB (by kernel_rfl) (by kernel_rfl)) (by kernel_rfl) (by kernel_rfl) (by kernel_rfl) (laidStr_door os _)) ?_
  intro W base args ds gs before hval0 hW hcnd hsz0 hL _
  have hsz : (DataW.weightsEach Tryd.prog (Tryd.f13.params.toList ++ Rows.fnLegacyOptionsSpec.plain.varTypes Tryd.prog) (ds ++ gs)).all (· ≤ reachBytes) = true := hsz0
  have hval : ∀ (j : Nat) t v, Tryd.f13.params[j]? = some t → args[j]? = some v → Value.okWide Tryd.prog W .any base t v := hval0
  have hW' := hW
  obtain ⟨p, q, hA0, hV, rfl, hfz, hnd⟩ := hW
  have hA : DataW.TrodAll enc Tryd.prog W 0 (fun _ => true) true Tryd.f13.params.toList args.toList ds p := hA0
  rw [Tryd.params13] at hA hval hsz
  obtain ⟨v0, vs0, d0, ds0, p0, q0, hargs, rfl, rfl, h0, r0⟩ := trodAll_cons hA
  obtain ⟨v1, vs1, d1, ds1, p1, q1, rfl, rfl, rfl, h1, r1⟩ := trodAll_cons r0
  obtain ⟨v2, vs2, d2, ds2, p2, q2, rfl, rfl, rfl, h2, r2⟩ := trodAll_cons r1
  obtain ⟨rfl, rfl, rfl⟩ := trodAll_nil r2
  obtain rfl : args = #[v0, v1, v2] := by cases args; simp_all
  obtain ⟨rfl, rfl⟩ := trodVars_none hV
  obtain ⟨a0, len0, cap0, rfl⟩ := okWide_slice Tryd.underlying43 (hval 0 43 v0 rfl rfl)
  have k0 := h0
  have lt0 : ∀ x ∈ p0, x.block < W.heap.size := by obtain ⟨m, hm⟩ := k0; exact DataW.trod_lt m _ _ _ hm
  obtain ⟨l0, rfl, w0, x0, y0, c0⟩ := rowsC Tryd.underlying43 Tryd.underlying77 Tryd.underlying3 (by kernel_rfl) (by kernel_rfl) 3 h0
  obtain ⟨a1, len1, cap1, rfl⟩ := okWide_slice Tryd.underlying27 (hval 1 27 v1 rfl rfl)
  have k1 := h1
  have lt1 : ∀ x ∈ p1, x.block < W.heap.size := by obtain ⟨m, hm⟩ := k1; exact DataW.trod_lt m _ _ _ hm
  obtain ⟨z1, w1⟩ : ∃ zs, IsRow .u8 W a1 len1 cap1 zs := by
    obtain ⟨fuel, hf⟩ := h1
    rcases open_ints Tryd.underlying27 Tryd.underlying5 (by kernel_rfl) hf with ⟨hcs, _⟩ | ⟨x, l, c, zs, hcs, _, hl, hm, hz, _, hcell, hwz⟩
    · simp [Value.cells] at hcs
      obtain ⟨rfl, rfl, rfl⟩ := hcs
      exact ⟨[], .inl ⟨rfl, rfl, rfl, rfl⟩⟩
    · simp [Value.cells] at hcs
      obtain ⟨rfl, rfl, rfl⟩ := hcs
      exact ⟨zs, .inr ⟨_, rfl, hl, hm, by simpa using hz, hcell, hwz⟩⟩
  have y1 : len1 * 1 ≤ 140737488351232 := Go.Proofs.YtpmlnhddkbgefaaDoorW.PrintWords.sized_ints hsz (j := 1) (t := 27) rfl rfl Tryd.underlying27 Tryd.underlying5 (by kernel_rfl) (by kernel_rfl) h1
  have k2 := h2
  have lt2 : ∀ x ∈ p2, x.block < W.heap.size := by obtain ⟨m, hm⟩ := k2; exact DataW.trod_lt m _ _ _ hm
  obtain ⟨a2_0, a2_1, a2_2, a2_3, a2_4, a2_5, a2_6, a2_7, rfl⟩ := optsC (hval 2 67 v2 rfl rfl) h2
  clear hA0 hval0 hsz0 hsz
  refine (PFnLegacyOptions.laws_FnLegacyOptions.walk Pure.FnLegacyOptions a0 cap0 l0 a1 len1 cap1 z1 a2_0 a2_1 a2_2 a2_3 a2_4 a2_5 a2_6 a2_7 W (strIs_laid hL) w0 x0 y0 c0 w1 y1).mono fun e W' ⟨he, bel⟩ => ?_
  subst he
  exact ⟨_, rfl, _, _, _, [], _, [], hW', trodAll_mk1 (shut_bool Tryd.underlying4 _), (trodAll_cons_mk (Below.trod laidOut (by kernel_rfl) (of_decide_eq_true (by kernel_rfl)) k0 bel lt0) (trodAll_cons_mk (Below.trod laidOut (by kernel_rfl) (of_decide_eq_true (by kernel_rfl)) k1 bel lt1) (trodAll_cons_mk (Below.trod laidOut (by kernel_rfl) (of_decide_eq_true (by kernel_rfl)) k2 bel lt2) trodAll_mk0))), rfl, bel.frame _, fun h => by cases h⟩
theorem over : Rows.fnLegacyOptionsRow.holds Tryd.pinned (OpenSpec.ofChange Rows.fnLegacyOptionsSpec) :=
  OpenClaim.holds_of_wide 13 Tryd.f13 rfl rfl rfl rfl rfl rfl rfl ⟨rfl, rfl, rfl, rfl, rfl⟩ rfl rfl rfl rfl rfl (by kernel_rfl) Tryd.func13 (by kernel_rfl)
    (of_decide_eq_true (by kernel_rfl)) (by unfold Func.isWrapper; first | (rw [if_pos (by decide +kernel)]; kernel_rfl) | (rw [if_neg (by decide +kernel)]; exact ⟨rfl, rfl⟩))
    (fun os started H enc _ => lifted os started H enc)
theorem proved : Rows.FnLegacyOptionsSaid := over
#print axioms proved
theorem card : Rows.FnLegacyOptionsCardSaid :=
  Claim7.holds_tied_plain_at .later [] [.data, .data, .data] true (true, "bab6f52e3e4f9a20f52924b24291d2156f398228c4650392dcc17422bb05cd62") true
    over (fun _ h => by cases h) (by kernel_rfl) (fun _ h => by cases h) fnLegacyOptions_row_tie rfl ⟨rfl, rfl⟩ (by kernel_rfl) rfl
    (fun f fn hf hfn => by
      obtain rfl : f = 13 := Option.some.inj ((show Tryd.prog.funcNamed "loop.example/pub-g01453/laws.FnLegacyOptions" = some 13 by kernel_rfl).symm.trans hf) |>.symm
      obtain rfl : fn = Tryd.f13 := (Option.some.inj (Tryd.func13.symm.trans hfn)).symm
      exact ⟨by kernel_rfl, fun j t ht => by
        rw [Tryd.params13] at ht
        have hm : t ∈ ([43, 27, 67] : List TypeId) := by simpa using Array.mem_of_getElem? ht
        have hall : (([43, 27, 67] : List TypeId).all fun u => !Tryd.prog.wantsStandIn u) = true := by kernel_rfl
        exact (show Tryd.prog.wantsStandIn t = false by simpa using List.all_eq_true.1 hall t hm)⟩)
    (by kernel_rfl)
#print axioms card
end Go.Proofs.YtpmlnhddkbgefaaDoor.fnLegacyOptions
namespace Go.Proofs.YtpmlnhddkbgefaaDoor
/-- The card, under a short name, for the claim. -/
theorem fnLegacyOptions_card : Rows.FnLegacyOptionsCardSaid := fnLegacyOptions.card
end Go.Proofs.YtpmlnhddkbgefaaDoor
