/- Written by a program of this session (wip/tools/myprint.py) with the kit's print: contracts of the functions that one statement reaches; functions that are proved by hand are taken as printed. Conditions: none. -/
import Derived.Test.YtdmkdclockmjbaaGreatDoorPFnMaxLengthSpecialx0
import Derived.Test.YtdmkdclockmjbaaGreatDoorPFnMaxLengthSpecialx1
import Derived.Test.YtdmkdclockmjbaaGreatDoorPFnMaxLengthSpecialx2
namespace Go.Proofs.YtdmkdclockmjbaaGreatDoor.PFnMaxLengthSpecial
open Go.RowKit Go.Proofs.YtdmkdclockmjbaaGreatDoorW.PrintWords Go.Proofs.YtdmkdclockmjbaaGreatDoorW.PrintLast Go.Proofs.YtdmkdclockmjbaaGreatDoorW.PrintMore
attribute [local go_sem] max2_int min2_int max_two min_two max_three min_three max_four min_four   -- for this text's walks alone
set_option linter.unusedVariables false
set_option linter.unusedSimpArgs false

/-! ### laws_anLimited: function 28 -/
def laws_anLimited.f (a0 : ByteArray) (a1 : ByteArray) (a2 : Int) : Option (Bool) := (laws_idAt.f a2 30).bind fun t144 => ((impl_Told.f a0 false false false false false false false (wrap64 (1 + t144))).bind fun bt145 => (if bt145.2 = 0 then (if 0 ≤ (wrap64 (1 + t144)) then (if 0 ≤ (mn (a1.size : Int) (shl .i64 1 (wrap64 (1 + t144)))) then (if (mn (a1.size : Int) (shl .i64 1 (wrap64 (1 + t144)))) ≤ (a1.size : Int) then (some (bt145.1.toList == (a1.extract 0 ((mn (a1.size : Int) (shl .i64 1 (wrap64 (1 + t144)))) : Int).toNat).toList)) else (none)) else (none)) else (none)) else (some false)))
set_option maxHeartbeats 8000000 in
set_option maxRecDepth 100000 in
theorem laws_anLimited.calls (a0 : ByteArray) (a1 : ByteArray) (a2 : Int) (r : Bool) (w : World) (hT_ : DoorIs w) (h : laws_anLimited.f a0 a1 a2 = some r) :
    Calls Tryz.prog 28 #[.string a0, .string a1, .int .i64 a2] w fun e w' => e = .returned (.bool r) ∧ Below w.heap.size w w' := by
  have hu34 := Tryz.underlying34
  have HB := Aside0.mk (Below.refl w.heap.size w)
  have H : ((laws_idAt.f a2 30).bind fun t144 => ((impl_Told.f a0 false false false false false false false (wrap64 (1 + t144))).bind fun bt145 => (if bt145.2 = 0 then (if 0 ≤ (wrap64 (1 + t144)) then (if 0 ≤ (mn (a1.size : Int) (shl .i64 1 (wrap64 (1 + t144)))) then (if (mn (a1.size : Int) (shl .i64 1 (wrap64 (1 + t144)))) ≤ (a1.size : Int) then (some (bt145.1.toList == (a1.extract 0 ((mn (a1.size : Int) (shl .i64 1 (wrap64 (1 + t144)))) : Int).toNat).toList)) else (none)) else (none)) else (none)) else (some false)))) = some r := h
  clear h
  replace H := Option.bind_eq_some_iff.mp H
  obtain ⟨t144, A40, H⟩ := H
  replace H : ((impl_Told.f a0 false false false false false false false (wrap64 (1 + t144))).bind fun bt145 => (if bt145.2 = 0 then (if 0 ≤ (wrap64 (1 + t144)) then (if 0 ≤ (mn (a1.size : Int) (shl .i64 1 (wrap64 (1 + t144)))) then (if (mn (a1.size : Int) (shl .i64 1 (wrap64 (1 + t144)))) ≤ (a1.size : Int) then (some (bt145.1.toList == (a1.extract 0 ((mn (a1.size : Int) (shl .i64 1 (wrap64 (1 + t144)))) : Int).toNat).toList)) else (none)) else (none)) else (none)) else (some false))) = some r := H
  have A4 := Aside0.mk A40
  clear A40
  replace H := Option.bind_eq_some_iff.mp H
  obtain ⟨⟨t145, t146⟩, A50, H⟩ := H
  replace H : (if t146 = 0 then (if 0 ≤ (wrap64 (1 + t144)) then (if 0 ≤ (mn (a1.size : Int) (shl .i64 1 (wrap64 (1 + t144)))) then (if (mn (a1.size : Int) (shl .i64 1 (wrap64 (1 + t144)))) ≤ (a1.size : Int) then (some (t145.toList == (a1.extract 0 ((mn (a1.size : Int) (shl .i64 1 (wrap64 (1 + t144)))) : Int).toNat).toList)) else (none)) else (none)) else (none)) else (some false)) = some r := H
  have A5 := Aside0.mk A50
  clear A50
  by_cases c6 : t146 = 0
  · rw [if_pos c6] at H
    have c6b0 : (t146 == 0) = true := beq_iff_eq.mpr c6
    have c6b1 : (t146 != 0) = false := bne_eq_false_iff_eq.mpr c6
    clear c6
    obtain ⟨ji7, hji7⟩ : ∃ j_ : Int, (wrap64 (1 + t144)) = j_ := ⟨_, rfl⟩
    replace H : (if 0 ≤ (ji7) then (if 0 ≤ (mn (a1.size : Int) (shl .i64 1 (ji7))) then (if (mn (a1.size : Int) (shl .i64 1 (ji7))) ≤ (a1.size : Int) then (some (t145.toList == (a1.extract 0 ((mn (a1.size : Int) (shl .i64 1 (ji7))) : Int).toNat).toList)) else (none)) else (none)) else (none)) = some r := by first | (rw [hji7] at H; exact H) | (simp only [hji7] at H ⊢; exact H)
    (try rw [hji7] at A4)
    (try rw [hji7] at A5)
    have hji7w : (IntKind.i64.wrap (1 + t144)) = ji7 := (i64_w _).trans hji7
    by_cases c8 : 0 ≤ (ji7)
    · rw [if_pos c8] at H
      have c8b0 := eq_true c8
      have c8b1 : decide (0 ≤ (ji7)) = true := decide_eq_true c8
      clear c8
      obtain ⟨ji9, hji9⟩ : ∃ j_ : Int, (shl .i64 1 (ji7)) = j_ := ⟨_, rfl⟩
      replace H : (if 0 ≤ (mn (a1.size : Int) (ji9)) then (if (mn (a1.size : Int) (ji9)) ≤ (a1.size : Int) then (some (t145.toList == (a1.extract 0 ((mn (a1.size : Int) (ji9)) : Int).toNat).toList)) else (none)) else (none)) = some r := by first | (rw [hji9] at H; exact H) | (simp only [hji9] at H ⊢; exact H)
      (try rw [hji9] at A4)
      (try rw [hji9] at A5)
      have hji9_ : (IntKind.i64.wrap (1 * 2 ^ min (ji7).toNat 64)) = ji9 := hji9
      have hji9z : (ji7) ≤ 64 → (IntKind.i64.wrap (1 * 2 ^ (ji7).toNat)) = ji9 := shl_small hji9
      have hji9u : (IntKind.i64.wrap (2 ^ min (ji7).toNat 64)) = ji9 := by have h_ := hji9_; rw [Int.one_mul] at h_; exact h_
      have hji9v : (ji7) ≤ 64 → (IntKind.i64.wrap (2 ^ (ji7).toNat)) = ji9 := fun hle_ => by have h_ := hji9z hle_; rw [Int.one_mul] at h_; exact h_
      have hji9y : (wrap64 (1 * 2 ^ min (ji7).toNat 64)) = ji9 := (i64_w _).symm.trans hji9_
      have hji9x : (ji7) ≤ 64 → (wrap64 (1 * 2 ^ (ji7).toNat)) = ji9 := fun h_ => (i64_w _).symm.trans (hji9z h_)
      obtain ⟨ji10, hji10⟩ : ∃ j_ : Int, (mn (a1.size : Int) (ji9)) = j_ := ⟨_, rfl⟩
      replace H : (if 0 ≤ (ji10) then (if (ji10) ≤ (a1.size : Int) then (some (t145.toList == (a1.extract 0 ((ji10) : Int).toNat).toList)) else (none)) else (none)) = some r := by first | (rw [hji10] at H; exact H) | (simp only [hji10] at H ⊢; exact H)
      (try rw [hji10] at A4)
      (try rw [hji10] at A5)
      have hji10_ : (if (ji9) < (a1.size : Int) then (ji9) else (a1.size : Int)) = ji10 := hji10
      by_cases c11 : 0 ≤ (ji10)
      · rw [if_pos c11] at H
        have c11b0 := eq_true c11
        have c11b1 : decide (0 ≤ (ji10)) = true := decide_eq_true c11
        clear c11
        by_cases c12 : (ji10) ≤ (a1.size : Int)
        · rw [if_pos c12] at H
          have c12b0 := eq_true c12
          have c12b1 : decide ((ji10) ≤ (a1.size : Int)) = true := decide_eq_true c12
          clear c12
          obtain rfl := Option.some.inj H
          go_enter Tryz.func28, Tryz.ntmps28
          go_wp2_with (first | (go_at_call 15; refine (idCut_at _ _ _ _ _ _ (by assumption) (by assumption)).mono ?_; rintro e w_ ⟨rfl, rfl⟩) | ((with_reducible refine gate_callee (f := 26) rfl ?_); refine goesL_ (some 11) rfl rfl Tryz.func26 (by kernel_rfl) rfl #[.int .i64 a2, .int .i64 30] rfl (by (try simp only [List.map_toArray, List.map_cons, List.map_nil]); first | done | rfl | (simp only [List.length_drop, List.length_take]; rfl)) ?_; (with_reducible refine (laws_idAt.calls a2 30 t144 _ A4.out).mono ?_); rintro e w' ⟨rfl, ⟨nd, rfl⟩⟩; refine ⟨_, rfl, ?_⟩) | ((with_reducible refine gate_callee (f := 17) rfl ?_); refine goesL_ (some 17) rfl rfl Tryz.func17 (by kernel_rfl) rfl #[.string a0, .agg #[.bool false, .bool false, .bool false, .bool false, .bool false, .bool false, .bool false, .int .i64 ji7]] rfl (by (try simp only [List.map_toArray, List.map_cons, List.map_nil]); first | done | (simp only [hji7]; rfl) | rfl | (simp only [List.length_drop, List.length_take]; rfl)) ?_; (with_reducible refine (impl_Told.calls a0 false false false false false false false ji7 t145 t146 _ (show DoorIs _ from ?side1) A5.out).mono ?_); (case side1 => exact Stays.below hT_ (by first | (repeat (first | (with_reducible first | exact HB.out | apply below_alloc | apply pw_below_drewN | apply below_drew1) | exact HB.out)) | (repeat (first | exact Below.refl _ _ | apply below_drew1 | apply pw_below_drewN)))); rintro e w13 ⟨rfl, hb⟩; refine ⟨_, rfl, ?_⟩; have n0_ := Aside0.mk (below_step (by repeat (first | (with_reducible first | exact HB.out | apply below_alloc | apply pw_below_drewN | apply below_drew1) | exact HB.out)) hb); clear HB; have HB := n0_; clear n0_; (try clear hb); (try clear hb2); (try clear hk); (try clear hi)))
          go_ret
          exact ⟨by first | rfl | (simp [errW_none, errW_some] <;> rfl) | (simp only [← hji7, ← hji9, ← hji10]; first | rfl | (simp [errW_none, errW_some] <;> rfl)) | (simp [*, errW_none, errW_some] <;> rfl), by repeat (first | (with_reducible first | exact HB.out | apply below_alloc | apply pw_below_drewN | apply below_drew1) | exact HB.out)⟩
        · rw [if_neg c12] at H
          exact absurd H (by simp)
      · rw [if_neg c11] at H
        exact absurd H (by simp)
    · rw [if_neg c8] at H
      exact absurd H (by simp)
  · rw [if_neg c6] at H
    have c6b0 : (t146 == 0) = false := beq_eq_false_iff_ne.mpr c6
    have c6b1 : (t146 != 0) = true := bne_iff_ne.mpr c6
    obtain rfl := Option.some.inj H
    go_enter Tryz.func28, Tryz.ntmps28
    go_wp2_with (first | (go_at_call 15; refine (idCut_at _ _ _ _ _ _ (by assumption) (by assumption)).mono ?_; rintro e w_ ⟨rfl, rfl⟩) | ((with_reducible refine gate_callee (f := 26) rfl ?_); refine goesL_ (some 11) rfl rfl Tryz.func26 (by kernel_rfl) rfl #[.int .i64 a2, .int .i64 30] rfl (by (try simp only [List.map_toArray, List.map_cons, List.map_nil]); first | done | rfl | (simp only [List.length_drop, List.length_take]; rfl)) ?_; (with_reducible refine (laws_idAt.calls a2 30 t144 _ A4.out).mono ?_); rintro e w' ⟨rfl, ⟨nd, rfl⟩⟩; refine ⟨_, rfl, ?_⟩) | ((with_reducible refine gate_callee (f := 17) rfl ?_); refine goesL_ (some 17) rfl rfl Tryz.func17 (by kernel_rfl) rfl #[.string a0, .agg #[.bool false, .bool false, .bool false, .bool false, .bool false, .bool false, .bool false, .int .i64 (wrap64 (1 + t144))]] rfl (by (try simp only [List.map_toArray, List.map_cons, List.map_nil]); first | done | rfl | (simp only [List.length_drop, List.length_take]; rfl)) ?_; (with_reducible refine (impl_Told.calls a0 false false false false false false false (wrap64 (1 + t144)) t145 t146 _ (show DoorIs _ from ?side1) A5.out).mono ?_); (case side1 => exact Stays.below hT_ (by first | (repeat (first | (with_reducible first | exact HB.out | apply below_alloc | apply pw_below_drewN | apply below_drew1) | exact HB.out)) | (repeat (first | exact Below.refl _ _ | apply below_drew1 | apply pw_below_drewN)))); rintro e w14 ⟨rfl, hb⟩; refine ⟨_, rfl, ?_⟩; have n0_ := Aside0.mk (below_step (by repeat (first | (with_reducible first | exact HB.out | apply below_alloc | apply pw_below_drewN | apply below_drew1) | exact HB.out)) hb); clear HB; have HB := n0_; clear n0_; (try clear hb); (try clear hb2); (try clear hk); (try clear hi)))
    go_ret
    exact ⟨by first | rfl | (simp [errW_none, errW_some] <;> rfl) | (simp [*, errW_none, errW_some] <;> rfl), by repeat (first | (with_reducible first | exact HB.out | apply below_alloc | apply pw_below_drewN | apply below_drew1) | exact HB.out)⟩

/-! ### laws_FnMaxLengthSpecial: function 9 -/
def laws_FnMaxLengthSpecial.j0 : Nat → List Int → List (List Int) → List Int → List Int → Int → Bool → Option (Bool)
  | 0, _, _, _, _, _, _ => none
  | k + 1, x0, x1, x2, x3, x4, x30 => if x30 = true then (some true) else (if 0 ≤ (mn (x0.length : Int) 1000) then (if (mn (x0.length : Int) 1000) ≤ (x0.length : Int) then ((spec_AnPlain.f k (x0.take ((mn (x0.length : Int) 1000) : Int).toNat)).bind fun t149 => ((laws_idSpecial.f k x1 x2 x3).bind fun t150 => ((spec_IdSymbol.f k t149 0 t150).bind fun t153 => (if 2 + t153.size ≤ 9223372036854775807 then ((spec_IdText.f k t149 t150).bind fun t154 => ((laws_anLimited.f ((⟨#[95, 82]⟩ : ByteArray) ++ t153) t154 x4).bind fun t155 => (some t155))) else (none))))) else (none)) else (none))
def laws_FnMaxLengthSpecial.f (k : Nat) (l0 : List Int) (l1 : List (List Int)) (l2 : List Int) (l3 : List Int) (a4 : Int) : Option (Bool) := if (l0.length : Int) > 2147483647 then (laws_FnMaxLengthSpecial.j0 k l0 l1 l2 l3 a4 true) else ((laws_zzFits1.f k l1).bind fun t147 => (if t147 = true then (if (l2.length : Int) > 2147483647 then (laws_FnMaxLengthSpecial.j0 k l0 l1 l2 l3 a4 true) else (laws_FnMaxLengthSpecial.j0 k l0 l1 l2 l3 a4 (decide ((l3.length : Int) > 2147483647)))) else (laws_FnMaxLengthSpecial.j0 k l0 l1 l2 l3 a4 true)))
theorem laws_FnMaxLengthSpecial.mono_l : ∀ k, (∀ y0 y1 y2 y3 y4 y5, LeO (laws_FnMaxLengthSpecial.j0 k y0 y1 y2 y3 y4 y5) (laws_FnMaxLengthSpecial.j0 (k + 1) y0 y1 y2 y3 y4 y5))
  | 0 => fun _ _ _ _ _ _ r h => by simp [laws_FnMaxLengthSpecial.j0] at h
  | k + 1 => by
    have ih0 := laws_FnMaxLengthSpecial.mono_l k
    · intro y0 y1 y2 y3 y4 y5
      unfold laws_FnMaxLengthSpecial.j0
      repeat' first
      | (with_reducible exact ih0 _ _ _ _ _ _)
      | (with_reducible exact laws_idSpecial.mono _ _ _ _)
      | (with_reducible exact laws_zzFits1.mono _ _)
      | (with_reducible exact spec_AnPlain.mono _ _)
      | (with_reducible exact spec_IdSymbol.mono _ _ _ _)
      | (with_reducible exact spec_IdText.mono _ _ _)
      | (with_reducible exact LeO.refl _)
      | (with_reducible exact LeO.none _)
      | (with_reducible refine LeO.ite ?_ ?_)
      | (with_reducible refine LeO.bind ?_ (fun _ => ?_))
      | exact ih0 _ _ _ _ _ _
      | exact laws_idSpecial.mono _ _ _ _
      | exact laws_zzFits1.mono _ _
      | exact spec_AnPlain.mono _ _
      | exact spec_IdSymbol.mono _ _ _ _
      | exact spec_IdText.mono _ _ _
      | exact LeO.none _
      | refine LeO.ite ?_ ?_
      | refine LeO.bind ?_ (fun _ => ?_)
theorem laws_FnMaxLengthSpecial.mono : ∀ a0 a1 a2 a3 a4 k, LeO (laws_FnMaxLengthSpecial.f k a0 a1 a2 a3 a4) (laws_FnMaxLengthSpecial.f (k + 1) a0 a1 a2 a3 a4) := by
  intro a0 a1 a2 a3 a4 k
  have ih0 := laws_FnMaxLengthSpecial.mono_l k
  unfold laws_FnMaxLengthSpecial.f
  repeat' first
      | (with_reducible exact ih0 _ _ _ _ _ _)
      | (with_reducible exact laws_idSpecial.mono _ _ _ _)
      | (with_reducible exact laws_zzFits1.mono _ _)
      | (with_reducible exact spec_AnPlain.mono _ _)
      | (with_reducible exact spec_IdSymbol.mono _ _ _ _)
      | (with_reducible exact spec_IdText.mono _ _ _)
      | (with_reducible exact LeO.refl _)
      | (with_reducible exact LeO.none _)
      | (with_reducible refine LeO.ite ?_ ?_)
      | (with_reducible refine LeO.bind ?_ (fun _ => ?_))
      | exact ih0 _ _ _ _ _ _
      | exact laws_idSpecial.mono _ _ _ _
      | exact laws_zzFits1.mono _ _
      | exact spec_AnPlain.mono _ _
      | exact spec_IdSymbol.mono _ _ _ _
      | exact spec_IdText.mono _ _ _
      | exact LeO.none _
      | refine LeO.ite ?_ ?_
      | refine LeO.bind ?_ (fun _ => ?_)
set_option maxHeartbeats 8000000 in
set_option maxRecDepth 100000 in
theorem laws_FnMaxLengthSpecial.calls (k : Nat) (A0 : Option Addr) (c0 : Nat) (l0 : List Int) (A1 : Option Addr) (c1 : Nat) (l1 : List (List Int)) (A2 : Option Addr) (c2 : Nat) (l2 : List Int) (A3 : Option Addr) (c3 : Nat) (l3 : List Int) (a4 : Int) (r : Bool) (w : World) (hr0 : Kd.C (Kd.int .u8) w A0 l0.length l0) (hc0 : l0.length ≤ c0) (hr1 : Kd.C (Kd.slice 5 (Kd.int .u8)) w A1 l1.length l1) (hc1 : l1.length ≤ c1) (hr2 : Kd.C (Kd.int .u8) w A2 l2.length l2) (hc2 : l2.length ≤ c2) (hr3 : Kd.C (Kd.int .i64) w A3 l3.length l3) (hc3 : l3.length ≤ c3) (hT_ : DoorIs w) (h : laws_FnMaxLengthSpecial.f k l0 l1 l2 l3 a4 = some r) :
    Calls Tryz.prog 9 #[.slice A0 l0.length c0, .slice A1 l1.length c1, .slice A2 l2.length c2, .slice A3 l3.length c3, .int .i64 a4] w fun e w' => e = .returned (.bool r) ∧ Below w.heap.size w w' := by
  have HR0 := Aside0.mk hr0
  have HC0 := Aside0.mk hc0
  clear hr0 hc0
  have HR1 := Aside0.mk hr1
  have HC1 := Aside0.mk hc1
  clear hr1 hc1
  have HR2 := Aside0.mk hr2
  have HC2 := Aside0.mk hc2
  clear hr2 hc2
  have HR3 := Aside0.mk hr3
  have HC3 := Aside0.mk hc3
  clear hr3 hc3
  have HB := Aside0.mk (Below.refl w.heap.size w)
  have H : (if (l0.length : Int) > 2147483647 then (laws_FnMaxLengthSpecial.j0 k l0 l1 l2 l3 a4 true) else ((laws_zzFits1.f k l1).bind fun t147 => (if t147 = true then (if (l2.length : Int) > 2147483647 then (laws_FnMaxLengthSpecial.j0 k l0 l1 l2 l3 a4 true) else (laws_FnMaxLengthSpecial.j0 k l0 l1 l2 l3 a4 (decide ((l3.length : Int) > 2147483647)))) else (laws_FnMaxLengthSpecial.j0 k l0 l1 l2 l3 a4 true)))) = some r := h
  clear h
  have HC6 := Aside0.mk H
  clear H
  go_enter Tryz.func9, Tryz.ntmps9
  go_upto_region 1 with (fail)
  go_cut [30] (fun v30 wc => ∃ (kq : Nat) (x30_5 : Bool), v30 = .bool x30_5 ∧ Aside0 (laws_FnMaxLengthSpecial.j0 kq l0 l1 l2 l3 a4 x30_5 = some r) ∧ Aside0 (kq ≤ k) ∧ Aside0 (Below w.heap.size w wc))
  case first =>
    have H := HC6.out
    clear HC6
    by_cases c7 : (l0.length : Int) > 2147483647
    · rw [if_pos c7] at H
      have c7b0 : decide (2147483647 < (l0.length : Int)) = true := decide_eq_true c7
      have c7b1 : decide (2147483647 < l0.length) = true := decide_eq_true (by omega)
      clear c7
      (first | rw [c7b0] | (simp only [i64_w, i32_w]; rw [c7b0]) | rw [c7b1] | skip)
      have H' := Aside0.mk H
      clear H
      go_wp2
      go_meet
      case rel => exact ⟨_, (true), (by first | rfl | (simp; done) | (simp [*]; done)), H', ⟨by first | omega | exact Nat.le_refl _⟩, ⟨by repeat (first | (with_reducible first | exact HB.out | apply below_alloc | apply pw_below_drewN | apply below_drew1) | exact HB.out)⟩⟩
    · rw [if_neg c7] at H
      have c7b0 : decide (2147483647 < (l0.length : Int)) = false := decide_eq_false c7
      have c7b1 : decide (2147483647 < l0.length) = false := decide_eq_false (by omega)
      clear c7
      (first | rw [c7b0] | (simp only [i64_w, i32_w]; rw [c7b0]) | rw [c7b1] | skip)
      replace H := Option.bind_eq_some_iff.mp H
      obtain ⟨t147, A80, H⟩ := H
      replace H : (if t147 = true then (if (l2.length : Int) > 2147483647 then (laws_FnMaxLengthSpecial.j0 k l0 l1 l2 l3 a4 true) else (laws_FnMaxLengthSpecial.j0 k l0 l1 l2 l3 a4 (decide ((l3.length : Int) > 2147483647)))) else (laws_FnMaxLengthSpecial.j0 k l0 l1 l2 l3 a4 true)) = some r := H
      have A8 := Aside0.mk A80
      clear A80
      by_cases c9 : t147 = true
      · subst c9
        have H1 : (if (l2.length : Int) > 2147483647 then (laws_FnMaxLengthSpecial.j0 k l0 l1 l2 l3 a4 true) else (laws_FnMaxLengthSpecial.j0 k l0 l1 l2 l3 a4 (decide ((l3.length : Int) > 2147483647)))) = some r := by rw [if_pos rfl] at H; exact H
        clear H
        have H := H1
        clear H1
        by_cases c10 : (l2.length : Int) > 2147483647
        · rw [if_pos c10] at H
          have c10b0 : decide (2147483647 < (l2.length : Int)) = true := decide_eq_true c10
          have c10b1 : decide (2147483647 < l2.length) = true := decide_eq_true (by omega)
          clear c10
          have H' := Aside0.mk H
          clear H
          go_wp2_with (first | (go_at_call 15; refine (idCut_at _ _ _ _ _ _ (by assumption) (by assumption)).mono ?_; rintro e w_ ⟨rfl, rfl⟩) | (go_at_call 13; (with_reducible refine (laws_zzFits1.calls k _ _ l1 true _ ?side1 ?side2 A8.out).mono ?_); (case side1 => repeat (first | exact (Kd.C_below HR1.out HB.out) | (with_reducible refine Kd.C_alloc ?_ _) | (with_reducible refine Kd.C_drewN ?_ _) | (with_reducible refine Kd.C_drew ?_))); (case side2 => exact HC1.out); rintro e w' ⟨rfl, ⟨nd, rfl⟩⟩))
          go_meet
          case rel => exact ⟨_, (true), (by first | rfl | (simp; done) | (simp [*]; done)), H', ⟨by first | omega | exact Nat.le_refl _⟩, ⟨by repeat (first | (with_reducible first | exact HB.out | apply below_alloc | apply pw_below_drewN | apply below_drew1) | exact HB.out)⟩⟩
        · rw [if_neg c10] at H
          have c10b0 : decide (2147483647 < (l2.length : Int)) = false := decide_eq_false c10
          have c10b1 : decide (2147483647 < l2.length) = false := decide_eq_false (by omega)
          clear c10
          have H' := Aside0.mk H
          clear H
          go_wp2_with (first | (go_at_call 15; refine (idCut_at _ _ _ _ _ _ (by assumption) (by assumption)).mono ?_; rintro e w_ ⟨rfl, rfl⟩) | (go_at_call 13; (with_reducible refine (laws_zzFits1.calls k _ _ l1 true _ ?side1 ?side2 A8.out).mono ?_); (case side1 => repeat (first | exact (Kd.C_below HR1.out HB.out) | (with_reducible refine Kd.C_alloc ?_ _) | (with_reducible refine Kd.C_drewN ?_ _) | (with_reducible refine Kd.C_drew ?_))); (case side2 => exact HC1.out); rintro e w' ⟨rfl, ⟨nd, rfl⟩⟩))
          go_meet
          case rel => exact ⟨_, (decide ((l3.length : Int) > 2147483647)), (by first | rfl | (simp; done) | (simp [*]; done)), H', ⟨by first | omega | exact Nat.le_refl _⟩, ⟨by repeat (first | (with_reducible first | exact HB.out | apply below_alloc | apply pw_below_drewN | apply below_drew1) | exact HB.out)⟩⟩
      · replace c9 := Bool.eq_false_iff.mpr c9
        subst c9
        have H1 : (laws_FnMaxLengthSpecial.j0 k l0 l1 l2 l3 a4 true) = some r := by rw [if_neg (show ¬ (false = true) by decide)] at H; exact H
        clear H
        have H := H1
        clear H1
        have H' := Aside0.mk H
        clear H
        go_wp2_with (first | (go_at_call 15; refine (idCut_at _ _ _ _ _ _ (by assumption) (by assumption)).mono ?_; rintro e w_ ⟨rfl, rfl⟩) | (go_at_call 13; (with_reducible refine (laws_zzFits1.calls k _ _ l1 false _ ?side1 ?side2 A8.out).mono ?_); (case side1 => repeat (first | exact (Kd.C_below HR1.out HB.out) | (with_reducible refine Kd.C_alloc ?_ _) | (with_reducible refine Kd.C_drewN ?_ _) | (with_reducible refine Kd.C_drew ?_))); (case side2 => exact HC1.out); rintro e w' ⟨rfl, ⟨nd, rfl⟩⟩))
        go_meet
        case rel => exact ⟨_, (true), (by first | rfl | (simp; done) | (simp [*]; done)), H', ⟨by first | omega | exact Nat.le_refl _⟩, ⟨by repeat (first | (with_reducible first | exact HB.out | apply below_alloc | apply pw_below_drewN | apply below_drew1) | exact HB.out)⟩⟩
  case rest =>
    clear HC6
    try clear c1
    try clear c2
    try clear p2
    try clear c3
    try clear c7
    try clear c7b0
    try clear c7b1
    try clear c9
    try clear c10
    try clear c10b0
    try clear c10b1
    obtain ⟨kq, x30_5, rfl, HA, HJ5, HB⟩ := hcut
    cases kq with
    | zero => exact absurd HA.out (by simp [laws_FnMaxLengthSpecial.j0])
    | succ kj5 =>
      have H := HA.out
      clear HA
      simp only [laws_FnMaxLengthSpecial.j0] at H
      by_cases c11 : x30_5 = true
      · subst c11
        have H1 : (some true) = some r := by rw [if_pos rfl] at H; exact H
        clear H
        have H := H1
        clear H1
        obtain rfl := Option.some.inj H
        go_wp2
        go_ret
        exact ⟨by first | rfl | (simp [errW_none, errW_some] <;> rfl) | (simp [*, errW_none, errW_some] <;> rfl), by repeat (first | (with_reducible first | exact HB.out | apply below_alloc | apply pw_below_drewN | apply below_drew1) | exact HB.out)⟩
      · replace c11 := Bool.eq_false_iff.mpr c11
        subst c11
        have H1 : (if 0 ≤ (mn (l0.length : Int) 1000) then (if (mn (l0.length : Int) 1000) ≤ (l0.length : Int) then ((spec_AnPlain.f kj5 (l0.take ((mn (l0.length : Int) 1000) : Int).toNat)).bind fun t149 => ((laws_idSpecial.f kj5 l1 l2 l3).bind fun t150 => ((spec_IdSymbol.f kj5 t149 0 t150).bind fun t153 => (if 2 + t153.size ≤ 9223372036854775807 then ((spec_IdText.f kj5 t149 t150).bind fun t154 => ((laws_anLimited.f ((⟨#[95, 82]⟩ : ByteArray) ++ t153) t154 a4).bind fun t155 => (some t155))) else (none))))) else (none)) else (none)) = some r := by rw [if_neg (show ¬ (false = true) by decide)] at H; exact H
        clear H
        have H := H1
        clear H1
        obtain ⟨ji12, hji12⟩ : ∃ j_ : Int, (mn (l0.length : Int) 1000) = j_ := ⟨_, rfl⟩
        replace H : (if 0 ≤ (ji12) then (if (ji12) ≤ (l0.length : Int) then ((spec_AnPlain.f kj5 (l0.take ((ji12) : Int).toNat)).bind fun t149 => ((laws_idSpecial.f kj5 l1 l2 l3).bind fun t150 => ((spec_IdSymbol.f kj5 t149 0 t150).bind fun t153 => (if 2 + t153.size ≤ 9223372036854775807 then ((spec_IdText.f kj5 t149 t150).bind fun t154 => ((laws_anLimited.f ((⟨#[95, 82]⟩ : ByteArray) ++ t153) t154 a4).bind fun t155 => (some t155))) else (none))))) else (none)) else (none)) = some r := by first | (rw [hji12] at H; exact H) | (simp only [hji12] at H ⊢; exact H)
        (try (have hji12h : ji12 ≤ 1000 := by (rw [← hji12]; unfold mn; (repeat' split) <;> omega)))
        (try (have hji12g : ji12 ≤ 64 := by omega))
        (try (have hji12l : 0 ≤ ji12 := by (rw [← hji12]; unfold mn; (repeat' split) <;> omega)))
        (try (have hji12m : 0 ≤ ji12 := by omega))
        have hji12_ : (if 1000 < (l0.length : Int) then 1000 else (l0.length : Int)) = ji12 := hji12
        by_cases c13 : 0 ≤ (ji12)
        · rw [if_pos c13] at H
          have c13b0 := eq_true c13
          have c13b1 : decide (0 ≤ (ji12)) = true := decide_eq_true c13
          clear c13
          by_cases c14 : (ji12) ≤ (l0.length : Int)
          · rw [if_pos c14] at H
            have c14b0 := eq_true c14
            have c14b1 : decide ((ji12) ≤ (l0.length : Int)) = true := decide_eq_true c14
            clear c14
            replace H := Option.bind_eq_some_iff.mp H
            obtain ⟨t149, A150, H⟩ := H
            replace H : ((laws_idSpecial.f kj5 l1 l2 l3).bind fun t150 => ((spec_IdSymbol.f kj5 t149 0 t150).bind fun t153 => (if 2 + t153.size ≤ 9223372036854775807 then ((spec_IdText.f kj5 t149 t150).bind fun t154 => ((laws_anLimited.f ((⟨#[95, 82]⟩ : ByteArray) ++ t153) t154 a4).bind fun t155 => (some t155))) else (none)))) = some r := H
            have A15 := Aside0.mk A150
            clear A150
            replace H := Option.bind_eq_some_iff.mp H
            obtain ⟨t150, A160, H⟩ := H
            replace H : ((spec_IdSymbol.f kj5 t149 0 t150).bind fun t153 => (if 2 + t153.size ≤ 9223372036854775807 then ((spec_IdText.f kj5 t149 t150).bind fun t154 => ((laws_anLimited.f ((⟨#[95, 82]⟩ : ByteArray) ++ t153) t154 a4).bind fun t155 => (some t155))) else (none))) = some r := H
            have A16 := Aside0.mk A160
            clear A160
            replace H := Option.bind_eq_some_iff.mp H
            obtain ⟨t153, A170, H⟩ := H
            replace H : (if 2 + t153.size ≤ 9223372036854775807 then ((spec_IdText.f kj5 t149 t150).bind fun t154 => ((laws_anLimited.f ((⟨#[95, 82]⟩ : ByteArray) ++ t153) t154 a4).bind fun t155 => (some t155))) else (none)) = some r := H
            have A17 := Aside0.mk A170
            clear A170
            by_cases c18 : 2 + t153.size ≤ 9223372036854775807
            · rw [if_pos c18] at H
              have c18b0 := eq_true c18
              have c18b1 : decide (2 + t153.size ≤ 9223372036854775807) = true := decide_eq_true c18
              try have c18b2 : (9223372036854775807 < 2 + t153.size) = False := eq_false (Nat.not_lt.2 c18)
              replace H := Option.bind_eq_some_iff.mp H
              obtain ⟨t154, A190, H⟩ := H
              replace H : ((laws_anLimited.f ((⟨#[95, 82]⟩ : ByteArray) ++ t153) t154 a4).bind fun t155 => (some t155)) = some r := H
              have A19 := Aside0.mk A190
              clear A190
              replace H := Option.bind_eq_some_iff.mp H
              obtain ⟨t155, A200, H⟩ := H
              replace H : (some t155) = some r := H
              have A20 := Aside0.mk A200
              clear A200
              obtain rfl := Option.some.inj H
              obtain ⟨i021, hi021, _, hsz21, _⟩ := info_parts info5
              obtain ⟨hcut21, hA21, hC21⟩ := print_take_of (P := Tryz.prog) (Value.int .u8) 0 22 5 .i64 Tryz.underlying22 hi021 hsz21 A0 c0 l0 (ji12) (of_decide_eq_true (by first | (with_reducible assumption) | assumption)) (of_decide_eq_true (by first | (with_reducible assumption) | assumption)) HC0.out
              have HR148 := Aside0.mk (Kd.C_of_reads (h1 := fun _ => rfl) (hA21 _ (Kd.reads_of_C HR0.out)))
              have HC148 := Aside0.mk hC21
              clear hA21 hC21 hi021 hsz21
              go_wp2_with (first | (go_at_call 15; refine (idCut_at _ _ _ _ _ _ (by assumption) (by assumption)).mono ?_; rintro e w_ ⟨rfl, rfl⟩) | ((with_reducible refine gate_callee (f := 14) rfl ?_); refine goesL_ (some 33) rfl rfl Tryz.func14 (by kernel_rfl) rfl #[.slice A0 (l0.take ((ji12) : Int).toNat).length c0] rfl (by (try simp only [List.map_toArray, List.map_cons, List.map_nil]); first | done | (rw [show (l0.take ((ji12) : Int).toNat).length = (ji12).toNat from (by rw [List.length_take]; have h_ : ((ji12) : Int) ≤ (l0.length : Int) := of_decide_eq_true (by first | (with_reducible assumption) | assumption); omega)] <;> rfl) | (simp only [hji12]; rfl) | rfl | (simp only [List.length_drop, List.length_take]; rfl)) ?_; (with_reducible refine (spec_AnPlain.calls kj5 _ _ (l0.take ((ji12) : Int).toNat) t149 _ ?side1 ?side2 A15.out).mono ?_); (case side1 => repeat (first | exact (Kd.C_below HR148.out HB.out) | (with_reducible refine Kd.C_alloc ?_ _) | (with_reducible refine Kd.C_drewN ?_ _) | (with_reducible refine Kd.C_drew ?_))); (case side2 => exact HC148.out); rintro e w22 ⟨rfl, hb⟩; refine ⟨_, rfl, ?_⟩; have n0_ := Aside0.mk (below_step (by repeat (first | (with_reducible first | exact HB.out | apply below_alloc | apply pw_below_drewN | apply below_drew1) | exact HB.out)) hb); clear HB; have HB := n0_; clear n0_; (try clear hb); (try clear hb2); (try clear hk); (try clear hi)) | ((with_reducible refine gate_callee (f := 25) rfl ?_); refine goesL_ (some 37) rfl rfl Tryz.func25 (by kernel_rfl) rfl #[.slice A1 l1.length c1, .slice A2 l2.length c2, .slice A3 l3.length c3] rfl (by (try simp only [List.map_toArray, List.map_cons, List.map_nil]); first | done | rfl | (simp only [List.length_drop, List.length_take]; rfl)) ?_; (with_reducible refine (laws_idSpecial.calls kj5 _ _ l1 _ _ l2 _ _ l3 t150 _ ?side1 ?side2 ?side3 ?side4 ?side5 ?side6 A16.out).mono ?_); (case side1 => repeat (first | exact (Kd.C_below HR1.out HB.out) | (with_reducible refine Kd.C_alloc ?_ _) | (with_reducible refine Kd.C_drewN ?_ _) | (with_reducible refine Kd.C_drew ?_))); (case side2 => exact HC1.out); (case side3 => repeat (first | exact (Kd.C_below HR2.out HB.out) | (with_reducible refine Kd.C_alloc ?_ _) | (with_reducible refine Kd.C_drewN ?_ _) | (with_reducible refine Kd.C_drew ?_))); (case side4 => exact HC2.out); (case side5 => repeat (first | exact (Kd.C_below HR3.out HB.out) | (with_reducible refine Kd.C_alloc ?_ _) | (with_reducible refine Kd.C_drewN ?_ _) | (with_reducible refine Kd.C_drew ?_))); (case side6 => exact HC3.out); rintro e w23 ⟨v151, rfl, ho0, hb⟩; refine ⟨_, rfl, ?_⟩; have n0_ := Aside0.mk (Kd.R_lower ho0 (below_size (by repeat (first | (with_reducible first | exact HB.out | apply below_alloc | apply pw_below_drewN | apply below_drew1) | exact HB.out)))); have n1_ := Aside0.mk (below_step (by repeat (first | (with_reducible first | exact HB.out | apply below_alloc | apply pw_below_drewN | apply below_drew1) | exact HB.out)) hb); clear HB; have HO152 := n0_; have HB := n1_; clear n0_ n1_; (try clear hb); (try clear hb2); (try clear hk); (try clear hi); (try clear ho0); obtain ⟨Ao24, co24, eo24⟩ := Kd.R_slice HO152.out; subst eo24) | ((with_reducible refine gate_callee (f := 18) rfl ?_); refine goesL_ (some 40) rfl rfl Tryz.func18 (by kernel_rfl) rfl #[.string t149, .int .u64 0, .slice Ao24 t150.length co24] rfl (by (try simp only [List.map_toArray, List.map_cons, List.map_nil]); first | done | rfl | (simp only [List.length_drop, List.length_take]; rfl)) ?_; (with_reducible refine (spec_IdSymbol.calls kj5 t149 0 _ _ t150 t153 _ ?side1 ?side2 (show DoorIs _ from ?side3) A17.out).mono ?_); (case side1 => repeat (first | exact (Kd.R_reads' HO152.out).2.2 | (with_reducible refine Kd.C_alloc ?_ _) | (with_reducible refine Kd.C_drewN ?_ _) | (with_reducible refine Kd.C_drew ?_))); (case side2 => exact (Kd.R_reads' HO152.out).2.1); (case side3 => exact Stays.below hT_ (by first | (repeat (first | (with_reducible first | exact HB.out | apply below_alloc | apply pw_below_drewN | apply below_drew1) | exact HB.out)) | (repeat (first | exact Below.refl _ _ | apply below_drew1 | apply pw_below_drewN)))); rintro e w25 ⟨rfl, hb⟩; refine ⟨_, rfl, ?_⟩; have n0_ := Aside0.mk (Kd.R_below (by (with_reducible repeat (first | apply Kd.R_alloc | apply Kd.R_drewN | apply Kd.R_drew)); exact HO152.out) hb); have n1_ := Aside0.mk (below_step (by repeat (first | (with_reducible first | exact HB.out | apply below_alloc | apply pw_below_drewN | apply below_drew1) | exact HB.out)) hb); clear HO152; clear HB; have HO152 := n0_; have HB := n1_; clear n0_ n1_; (try clear hb); (try clear hb2); (try clear hk); (try clear hi)) | ((with_reducible refine gate_callee (f := 19) rfl ?_); refine goesL_ (some 44) rfl rfl Tryz.func19 (by kernel_rfl) rfl #[.string t149, .slice Ao24 t150.length co24] rfl (by (try simp only [List.map_toArray, List.map_cons, List.map_nil]); first | done | rfl | (simp only [List.length_drop, List.length_take]; rfl)) ?_; (with_reducible refine (spec_IdText.calls kj5 t149 _ _ t150 t154 _ ?side1 ?side2 (show DoorIs _ from ?side3) A19.out).mono ?_); (case side1 => repeat (first | exact (Kd.R_reads' HO152.out).2.2 | (with_reducible refine Kd.C_alloc ?_ _) | (with_reducible refine Kd.C_drewN ?_ _) | (with_reducible refine Kd.C_drew ?_))); (case side2 => exact (Kd.R_reads' HO152.out).2.1); (case side3 => exact Stays.below hT_ (by first | (repeat (first | (with_reducible first | exact HB.out | apply below_alloc | apply pw_below_drewN | apply below_drew1) | exact HB.out)) | (repeat (first | exact Below.refl _ _ | apply below_drew1 | apply pw_below_drewN)))); rintro e w26 ⟨rfl, hb⟩; refine ⟨_, rfl, ?_⟩; have n0_ := Aside0.mk (Kd.R_below (by (with_reducible repeat (first | apply Kd.R_alloc | apply Kd.R_drewN | apply Kd.R_drew)); exact HO152.out) hb); have n1_ := Aside0.mk (below_step (by repeat (first | (with_reducible first | exact HB.out | apply below_alloc | apply pw_below_drewN | apply below_drew1) | exact HB.out)) hb); clear HO152; clear HB; have HO152 := n0_; have HB := n1_; clear n0_ n1_; (try clear hb); (try clear hb2); (try clear hk); (try clear hi)) | ((with_reducible refine gate_callee (f := 28) rfl ?_); refine goesL_ (some 46) rfl rfl Tryz.func28 (by kernel_rfl) rfl #[.string ((⟨#[95, 82]⟩ : ByteArray) ++ t153), .string t154, .int .i64 a4] rfl (by (try simp only [List.map_toArray, List.map_cons, List.map_nil]); first | done | rfl | (simp only [List.length_drop, List.length_take]; rfl)) ?_; (with_reducible refine (laws_anLimited.calls ((⟨#[95, 82]⟩ : ByteArray) ++ t153) t154 a4 t155 _ (show DoorIs _ from ?side1) A20.out).mono ?_); (case side1 => exact Stays.below hT_ (by first | (repeat (first | (with_reducible first | exact HB.out | apply below_alloc | apply pw_below_drewN | apply below_drew1) | exact HB.out)) | (repeat (first | exact Below.refl _ _ | apply below_drew1 | apply pw_below_drewN)))); rintro e w27 ⟨rfl, hb⟩; refine ⟨_, rfl, ?_⟩; have n0_ := Aside0.mk (Kd.R_below (by (with_reducible repeat (first | apply Kd.R_alloc | apply Kd.R_drewN | apply Kd.R_drew)); exact HO152.out) hb); have n1_ := Aside0.mk (below_step (by repeat (first | (with_reducible first | exact HB.out | apply below_alloc | apply pw_below_drewN | apply below_drew1) | exact HB.out)) hb); clear HO152; clear HB; have HO152 := n0_; have HB := n1_; clear n0_ n1_; (try clear hb); (try clear hb2); (try clear hk); (try clear hi)))
              go_ret
              exact ⟨by first | rfl | (simp [errW_none, errW_some] <;> rfl) | (simp only [← hji12]; first | rfl | (simp [errW_none, errW_some] <;> rfl)) | (simp [*, errW_none, errW_some] <;> rfl), by repeat (first | (with_reducible first | exact HB.out | apply below_alloc | apply pw_below_drewN | apply below_drew1) | exact HB.out)⟩
            · rw [if_neg c18] at H
              exact absurd H (by simp)
          · rw [if_neg c14] at H
            exact absurd H (by simp)
        · rw [if_neg c13] at H
          exact absurd H (by simp)

/-- THE ONE PURE STATEMENT of laws_FnMaxLengthSpecial: yours. -/
def laws_FnMaxLengthSpecial.Pure : Prop := ∀ (l0 : List Int) (l1 : List (List Int)) (l2 : List Int) (l3 : List Int) (a4 : Int), l0.length ≤ maxLen → l0.length * 1 ≤ 140737488351232 → (∀ x ∈ l0, (Lit.int .u8 x).wf = true) → l1.length ≤ maxLen → (∀ r ∈ l1, r.length ≤ maxLen ∧ ∀ x ∈ r, (Lit.int .u8 x).wf = true) → l2.length ≤ maxLen → l2.length * 1 ≤ 140737488351232 → (∀ x ∈ l2, (Lit.int .u8 x).wf = true) → l3.length ≤ maxLen → l3.length * 8 ≤ 140737488351232 → (∀ x ∈ l3, (Lit.int .i64 x).wf = true) → (Lit.int .i64 a4).wf = true → ∃ k, laws_FnMaxLengthSpecial.f k l0 l1 l2 l3 a4 = some true
theorem laws_FnMaxLengthSpecial.walk (P : laws_FnMaxLengthSpecial.Pure) (a0 : Option Addr) (len0 cap0 : Nat) (z0 : List Int) (a1 : Option Addr) (cap1 : Nat) (l1 : List (List Int)) (a2 : Option Addr) (len2 cap2 : Nat) (z2 : List Int) (a3 : Option Addr) (len3 cap3 : Nat) (z3 : List Int) (a4 : Int) (w : World) (hT_ : DoorIs w) (w0 : (a0 = none ∧ len0 = 0 ∧ cap0 = 0 ∧ z0 = []) ∨ ∃ x, a0 = some x ∧ len0 ≤ cap0 ∧ cap0 ≤ maxLen ∧ z0.length = cap0 ∧ (∀ i, i < z0.length → w.cell? (x.add i) = some (.int .u8 (z0.getD i 0))) ∧ ∀ n ∈ z0, (Lit.int .u8 n).wf = true) (y0 : len0 * 1 ≤ 140737488351232) (w1 : (Kd.slice 5 (Kd.int .u8)).C w a1 l1.length l1) (x1 : l1.length ≤ maxLen) (y1 : ∀ r ∈ l1, r.length ≤ maxLen ∧ ∀ x ∈ r, (Lit.int .u8 x).wf = true) (c1 : l1.length ≤ cap1) (w2 : (a2 = none ∧ len2 = 0 ∧ cap2 = 0 ∧ z2 = []) ∨ ∃ x, a2 = some x ∧ len2 ≤ cap2 ∧ cap2 ≤ maxLen ∧ z2.length = cap2 ∧ (∀ i, i < z2.length → w.cell? (x.add i) = some (.int .u8 (z2.getD i 0))) ∧ ∀ n ∈ z2, (Lit.int .u8 n).wf = true) (y2 : len2 * 1 ≤ 140737488351232) (w3 : (a3 = none ∧ len3 = 0 ∧ cap3 = 0 ∧ z3 = []) ∨ ∃ x, a3 = some x ∧ len3 ≤ cap3 ∧ cap3 ≤ maxLen ∧ z3.length = cap3 ∧ (∀ i, i < z3.length → w.cell? (x.add i) = some (.int .i64 (z3.getD i 0))) ∧ ∀ n ∈ z3, (Lit.int .i64 n).wf = true) (y3 : len3 * 8 ≤ 140737488351232) (w4 : (Lit.int .i64 a4).wf = true) :
    Calls Tryz.prog 9 #[.slice a0 len0 cap0, .slice a1 l1.length cap1, .slice a2 len2 cap2, .slice a3 len3 cap3, .int .i64 a4] w fun e w' => e = .returned (.bool true) ∧ Below w.heap.size w w' := by
  obtain ⟨l0, rfl, hr0, hm0, hw0, hc0⟩ := ReadsInt.ofRowC w0
  obtain ⟨l2, rfl, hr2, hm2, hw2, hc2⟩ := ReadsInt.ofRowC w2
  obtain ⟨l3, rfl, hr3, hm3, hw3, hc3⟩ := ReadsInt.ofRowC w3
  obtain ⟨k, h⟩ := P l0 l1 l2 l3 a4 hm0 y0 hw0 x1 y1 hm2 y2 hw2 hm3 y3 hw3 w4
  refine (laws_FnMaxLengthSpecial.calls k _ _ l0 _ _ l1 _ _ l2 _ _ l3 a4 true w (Kd.C_of_reads (d := (0 : Int)) (h1 := fun _ => rfl) hr0) hc0 w1 c1 (Kd.C_of_reads (d := (0 : Int)) (h1 := fun _ => rfl) hr2) hc2 (Kd.C_of_reads (d := (0 : Int)) (h1 := fun _ => rfl) hr3) hc3 hT_ h).mono ?_
  rintro e w' ⟨rfl, hd⟩
  exact ⟨rfl, hd⟩

end Go.Proofs.YtdmkdclockmjbaaGreatDoor.PFnMaxLengthSpecial
