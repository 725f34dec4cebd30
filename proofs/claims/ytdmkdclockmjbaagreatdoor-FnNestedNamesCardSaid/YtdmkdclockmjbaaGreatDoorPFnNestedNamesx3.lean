/- Written by a program of this session (wip/tools/myprint.py) with the kit's print: contracts of the functions that one statement reaches; functions that are proved by hand are taken as printed. Conditions: none. -/
import Derived.Test.YtdmkdclockmjbaaGreatDoorPFnNestedNamesx0
import Derived.Test.YtdmkdclockmjbaaGreatDoorPFnNestedNamesx1
import Derived.Test.YtdmkdclockmjbaaGreatDoorPFnNestedNamesx2
namespace Go.Proofs.YtdmkdclockmjbaaGreatDoor.PFnNestedNames
open Go.RowKit Go.Proofs.YtdmkdclockmjbaaGreatDoorW.PrintWords Go.Proofs.YtdmkdclockmjbaaGreatDoorW.PrintLast Go.Proofs.YtdmkdclockmjbaaGreatDoorW.PrintMore
attribute [local go_sem] max2_int min2_int max_two min_two max_three min_three max_four min_four   -- for this text's walks alone
set_option linter.unusedVariables false
set_option linter.unusedSimpArgs false

/-! ### laws_FnNestedNames: function 10 -/
def laws_FnNestedNames.j0 : Nat → List Int → List (List Int) → List Int → Bool → Option (Bool)
  | 0, _, _, _, _ => none
  | k + 1, x0, x1, x2, x21 => if x21 = true then (some true) else (if 0 ≤ (mn (x0.length : Int) 1000) then (if (mn (x0.length : Int) 1000) ≤ (x0.length : Int) then ((spec_AnPlain.f k (x0.take ((mn (x0.length : Int) 1000) : Int).toNat)).bind fun t144 => ((laws_idSmall.f k x1 x2 ([] : List Int)).bind fun t145 => ((spec_IdSymbol.f k t144 0 t145).bind fun t148 => (if 2 + t148.size ≤ 9223372036854775807 then ((spec_IdText.f k t144 t145).bind fun t149 => ((laws_idTold.f ((⟨#[95, 82]⟩ : ByteArray) ++ t148) t149).bind fun t150 => (some t150))) else (none))))) else (none)) else (none))
def laws_FnNestedNames.f (k : Nat) (l0 : List Int) (l1 : List (List Int)) (l2 : List Int) : Option (Bool) := if (l0.length : Int) > 2147483647 then (laws_FnNestedNames.j0 k l0 l1 l2 true) else ((laws_zzFits1.f k l1).bind fun t142 => (if t142 = true then (laws_FnNestedNames.j0 k l0 l1 l2 (decide ((l2.length : Int) > 2147483647))) else (laws_FnNestedNames.j0 k l0 l1 l2 true)))
theorem laws_FnNestedNames.mono_l : ∀ k, (∀ y0 y1 y2 y3, LeO (laws_FnNestedNames.j0 k y0 y1 y2 y3) (laws_FnNestedNames.j0 (k + 1) y0 y1 y2 y3))
  | 0 => fun _ _ _ _ r h => by simp [laws_FnNestedNames.j0] at h
  | k + 1 => by
    have ih0 := laws_FnNestedNames.mono_l k
    · intro y0 y1 y2 y3
      unfold laws_FnNestedNames.j0
      repeat' first
      | (with_reducible exact ih0 _ _ _ _)
      | (with_reducible exact laws_idSmall.mono _ _ _ _)
      | (with_reducible exact laws_zzFits1.mono _ _)
      | (with_reducible exact spec_AnPlain.mono _ _)
      | (with_reducible exact spec_IdSymbol.mono _ _ _ _)
      | (with_reducible exact spec_IdText.mono _ _ _)
      | (with_reducible exact LeO.refl _)
      | (with_reducible exact LeO.none _)
      | (with_reducible refine LeO.ite ?_ ?_)
      | (with_reducible refine LeO.bind ?_ (fun _ => ?_))
      | exact ih0 _ _ _ _
      | exact laws_idSmall.mono _ _ _ _
      | exact laws_zzFits1.mono _ _
      | exact spec_AnPlain.mono _ _
      | exact spec_IdSymbol.mono _ _ _ _
      | exact spec_IdText.mono _ _ _
      | exact LeO.none _
      | refine LeO.ite ?_ ?_
      | refine LeO.bind ?_ (fun _ => ?_)
theorem laws_FnNestedNames.mono : ∀ a0 a1 a2 k, LeO (laws_FnNestedNames.f k a0 a1 a2) (laws_FnNestedNames.f (k + 1) a0 a1 a2) := by
  intro a0 a1 a2 k
  have ih0 := laws_FnNestedNames.mono_l k
  unfold laws_FnNestedNames.f
  repeat' first
      | (with_reducible exact ih0 _ _ _ _)
      | (with_reducible exact laws_idSmall.mono _ _ _ _)
      | (with_reducible exact laws_zzFits1.mono _ _)
      | (with_reducible exact spec_AnPlain.mono _ _)
      | (with_reducible exact spec_IdSymbol.mono _ _ _ _)
      | (with_reducible exact spec_IdText.mono _ _ _)
      | (with_reducible exact LeO.refl _)
      | (with_reducible exact LeO.none _)
      | (with_reducible refine LeO.ite ?_ ?_)
      | (with_reducible refine LeO.bind ?_ (fun _ => ?_))
      | exact ih0 _ _ _ _
      | exact laws_idSmall.mono _ _ _ _
      | exact laws_zzFits1.mono _ _
      | exact spec_AnPlain.mono _ _
      | exact spec_IdSymbol.mono _ _ _ _
      | exact spec_IdText.mono _ _ _
      | exact LeO.none _
      | refine LeO.ite ?_ ?_
      | refine LeO.bind ?_ (fun _ => ?_)
set_option maxHeartbeats 8000000 in
set_option maxRecDepth 100000 in
theorem laws_FnNestedNames.calls (k : Nat) (A0 : Option Addr) (c0 : Nat) (l0 : List Int) (A1 : Option Addr) (c1 : Nat) (l1 : List (List Int)) (A2 : Option Addr) (c2 : Nat) (l2 : List Int) (r : Bool) (w : World) (hr0 : Kd.C (Kd.int .u8) w A0 l0.length l0) (hc0 : l0.length ≤ c0) (hr1 : Kd.C (Kd.slice 5 (Kd.int .u8)) w A1 l1.length l1) (hc1 : l1.length ≤ c1) (hr2 : Kd.C (Kd.int .u8) w A2 l2.length l2) (hc2 : l2.length ≤ c2) (hT_ : DoorIs w) (h : laws_FnNestedNames.f k l0 l1 l2 = some r) :
    Calls Tryz.prog 10 #[.slice A0 l0.length c0, .slice A1 l1.length c1, .slice A2 l2.length c2] w fun e w' => e = .returned (.bool r) ∧ Below w.heap.size w w' := by
  have HR0 := Aside0.mk hr0
  have HC0 := Aside0.mk hc0
  clear hr0 hc0
  have HR1 := Aside0.mk hr1
  have HC1 := Aside0.mk hc1
  clear hr1 hc1
  have HR2 := Aside0.mk hr2
  have HC2 := Aside0.mk hc2
  clear hr2 hc2
  have HB := Aside0.mk (Below.refl w.heap.size w)
  have H : (if (l0.length : Int) > 2147483647 then (laws_FnNestedNames.j0 k l0 l1 l2 true) else ((laws_zzFits1.f k l1).bind fun t142 => (if t142 = true then (laws_FnNestedNames.j0 k l0 l1 l2 (decide ((l2.length : Int) > 2147483647))) else (laws_FnNestedNames.j0 k l0 l1 l2 true)))) = some r := h
  clear h
  have HC4 := Aside0.mk H
  clear H
  go_enter Tryz.func10, Tryz.ntmps10
  go_upto_region 1 with (fail)
  go_cut [21] (fun v21 wc => ∃ (kq : Nat) (x21_3 : Bool), v21 = .bool x21_3 ∧ Aside0 (laws_FnNestedNames.j0 kq l0 l1 l2 x21_3 = some r) ∧ Aside0 (kq ≤ k) ∧ Aside0 (Below w.heap.size w wc))
  case first =>
    have H := HC4.out
    clear HC4
    by_cases c5 : (l0.length : Int) > 2147483647
    · rw [if_pos c5] at H
      have c5b0 : decide (2147483647 < (l0.length : Int)) = true := decide_eq_true c5
      have c5b1 : decide (2147483647 < l0.length) = true := decide_eq_true (by omega)
      clear c5
      (first | rw [c5b0] | (simp only [i64_w, i32_w]; rw [c5b0]) | rw [c5b1] | skip)
      have H' := Aside0.mk H
      clear H
      go_wp2
      go_meet
      case rel => exact ⟨_, (true), (by first | rfl | (simp; done) | (simp [*]; done)), H', ⟨by first | omega | exact Nat.le_refl _⟩, ⟨by repeat (first | (with_reducible first | exact HB.out | apply below_alloc | apply pw_below_drewN | apply below_drew1) | exact HB.out)⟩⟩
    · rw [if_neg c5] at H
      have c5b0 : decide (2147483647 < (l0.length : Int)) = false := decide_eq_false c5
      have c5b1 : decide (2147483647 < l0.length) = false := decide_eq_false (by omega)
      clear c5
      (first | rw [c5b0] | (simp only [i64_w, i32_w]; rw [c5b0]) | rw [c5b1] | skip)
      replace H := Option.bind_eq_some_iff.mp H
      obtain ⟨t142, A60, H⟩ := H
      replace H : (if t142 = true then (laws_FnNestedNames.j0 k l0 l1 l2 (decide ((l2.length : Int) > 2147483647))) else (laws_FnNestedNames.j0 k l0 l1 l2 true)) = some r := H
      have A6 := Aside0.mk A60
      clear A60
      by_cases c7 : t142 = true
      · subst c7
        have H1 : (laws_FnNestedNames.j0 k l0 l1 l2 (decide ((l2.length : Int) > 2147483647))) = some r := by rw [if_pos rfl] at H; exact H
        clear H
        have H := H1
        clear H1
        have H' := Aside0.mk H
        clear H
        go_wp2_with (first | (go_at_call 15; refine (idCut_at _ _ _ _ _ _ (by assumption) (by assumption)).mono ?_; rintro e w_ ⟨rfl, rfl⟩) | (go_at_call 13; (with_reducible refine (laws_zzFits1.calls k _ _ l1 true _ ?side1 ?side2 A6.out).mono ?_); (case side1 => repeat (first | exact (Kd.C_below HR1.out HB.out) | (with_reducible refine Kd.C_alloc ?_ _) | (with_reducible refine Kd.C_drewN ?_ _) | (with_reducible refine Kd.C_drew ?_))); (case side2 => exact HC1.out); rintro e w' ⟨rfl, ⟨nd, rfl⟩⟩))
        go_meet
        case rel => exact ⟨_, (decide ((l2.length : Int) > 2147483647)), (by first | rfl | (simp; done) | (simp [*]; done)), H', ⟨by first | omega | exact Nat.le_refl _⟩, ⟨by repeat (first | (with_reducible first | exact HB.out | apply below_alloc | apply pw_below_drewN | apply below_drew1) | exact HB.out)⟩⟩
      · replace c7 := Bool.eq_false_iff.mpr c7
        subst c7
        have H1 : (laws_FnNestedNames.j0 k l0 l1 l2 true) = some r := by rw [if_neg (show ¬ (false = true) by decide)] at H; exact H
        clear H
        have H := H1
        clear H1
        have H' := Aside0.mk H
        clear H
        go_wp2_with (first | (go_at_call 15; refine (idCut_at _ _ _ _ _ _ (by assumption) (by assumption)).mono ?_; rintro e w_ ⟨rfl, rfl⟩) | (go_at_call 13; (with_reducible refine (laws_zzFits1.calls k _ _ l1 false _ ?side1 ?side2 A6.out).mono ?_); (case side1 => repeat (first | exact (Kd.C_below HR1.out HB.out) | (with_reducible refine Kd.C_alloc ?_ _) | (with_reducible refine Kd.C_drewN ?_ _) | (with_reducible refine Kd.C_drew ?_))); (case side2 => exact HC1.out); rintro e w' ⟨rfl, ⟨nd, rfl⟩⟩))
        go_meet
        case rel => exact ⟨_, (true), (by first | rfl | (simp; done) | (simp [*]; done)), H', ⟨by first | omega | exact Nat.le_refl _⟩, ⟨by repeat (first | (with_reducible first | exact HB.out | apply below_alloc | apply pw_below_drewN | apply below_drew1) | exact HB.out)⟩⟩
  case rest =>
    clear HC4
    try clear c1
    try clear c2
    try clear p2
    try clear c5
    try clear c5b0
    try clear c5b1
    try clear c7
    obtain ⟨kq, x21_3, rfl, HA, HJ3, HB⟩ := hcut
    cases kq with
    | zero => exact absurd HA.out (by simp [laws_FnNestedNames.j0])
    | succ kj3 =>
      have H := HA.out
      clear HA
      simp only [laws_FnNestedNames.j0] at H
      by_cases c8 : x21_3 = true
      · subst c8
        have H1 : (some true) = some r := by rw [if_pos rfl] at H; exact H
        clear H
        have H := H1
        clear H1
        obtain rfl := Option.some.inj H
        go_wp2
        go_ret
        exact ⟨by first | rfl | (simp [errW_none, errW_some] <;> rfl) | (simp [*, errW_none, errW_some] <;> rfl), by repeat (first | (with_reducible first | exact HB.out | apply below_alloc | apply pw_below_drewN | apply below_drew1) | exact HB.out)⟩
      · replace c8 := Bool.eq_false_iff.mpr c8
        subst c8
        have H1 : (if 0 ≤ (mn (l0.length : Int) 1000) then (if (mn (l0.length : Int) 1000) ≤ (l0.length : Int) then ((spec_AnPlain.f kj3 (l0.take ((mn (l0.length : Int) 1000) : Int).toNat)).bind fun t144 => ((laws_idSmall.f kj3 l1 l2 ([] : List Int)).bind fun t145 => ((spec_IdSymbol.f kj3 t144 0 t145).bind fun t148 => (if 2 + t148.size ≤ 9223372036854775807 then ((spec_IdText.f kj3 t144 t145).bind fun t149 => ((laws_idTold.f ((⟨#[95, 82]⟩ : ByteArray) ++ t148) t149).bind fun t150 => (some t150))) else (none))))) else (none)) else (none)) = some r := by rw [if_neg (show ¬ (false = true) by decide)] at H; exact H
        clear H
        have H := H1
        clear H1
        obtain ⟨ji9, hji9⟩ : ∃ j_ : Int, (mn (l0.length : Int) 1000) = j_ := ⟨_, rfl⟩
        replace H : (if 0 ≤ (ji9) then (if (ji9) ≤ (l0.length : Int) then ((spec_AnPlain.f kj3 (l0.take ((ji9) : Int).toNat)).bind fun t144 => ((laws_idSmall.f kj3 l1 l2 ([] : List Int)).bind fun t145 => ((spec_IdSymbol.f kj3 t144 0 t145).bind fun t148 => (if 2 + t148.size ≤ 9223372036854775807 then ((spec_IdText.f kj3 t144 t145).bind fun t149 => ((laws_idTold.f ((⟨#[95, 82]⟩ : ByteArray) ++ t148) t149).bind fun t150 => (some t150))) else (none))))) else (none)) else (none)) = some r := by first | (rw [hji9] at H; exact H) | (simp only [hji9] at H ⊢; exact H)
        (try (have hji9h : ji9 ≤ 1000 := by (rw [← hji9]; unfold mn; (repeat' split) <;> omega)))
        (try (have hji9g : ji9 ≤ 64 := by omega))
        (try (have hji9l : 0 ≤ ji9 := by (rw [← hji9]; unfold mn; (repeat' split) <;> omega)))
        (try (have hji9m : 0 ≤ ji9 := by omega))
        have hji9_ : (if 1000 < (l0.length : Int) then 1000 else (l0.length : Int)) = ji9 := hji9
        by_cases c10 : 0 ≤ (ji9)
        · rw [if_pos c10] at H
          have c10b0 := eq_true c10
          have c10b1 : decide (0 ≤ (ji9)) = true := decide_eq_true c10
          clear c10
          by_cases c11 : (ji9) ≤ (l0.length : Int)
          · rw [if_pos c11] at H
            have c11b0 := eq_true c11
            have c11b1 : decide ((ji9) ≤ (l0.length : Int)) = true := decide_eq_true c11
            clear c11
            replace H := Option.bind_eq_some_iff.mp H
            obtain ⟨t144, A120, H⟩ := H
            replace H : ((laws_idSmall.f kj3 l1 l2 ([] : List Int)).bind fun t145 => ((spec_IdSymbol.f kj3 t144 0 t145).bind fun t148 => (if 2 + t148.size ≤ 9223372036854775807 then ((spec_IdText.f kj3 t144 t145).bind fun t149 => ((laws_idTold.f ((⟨#[95, 82]⟩ : ByteArray) ++ t148) t149).bind fun t150 => (some t150))) else (none)))) = some r := H
            have A12 := Aside0.mk A120
            clear A120
            replace H := Option.bind_eq_some_iff.mp H
            obtain ⟨t145, A130, H⟩ := H
            replace H : ((spec_IdSymbol.f kj3 t144 0 t145).bind fun t148 => (if 2 + t148.size ≤ 9223372036854775807 then ((spec_IdText.f kj3 t144 t145).bind fun t149 => ((laws_idTold.f ((⟨#[95, 82]⟩ : ByteArray) ++ t148) t149).bind fun t150 => (some t150))) else (none))) = some r := H
            have A13 := Aside0.mk A130
            clear A130
            replace H := Option.bind_eq_some_iff.mp H
            obtain ⟨t148, A140, H⟩ := H
            replace H : (if 2 + t148.size ≤ 9223372036854775807 then ((spec_IdText.f kj3 t144 t145).bind fun t149 => ((laws_idTold.f ((⟨#[95, 82]⟩ : ByteArray) ++ t148) t149).bind fun t150 => (some t150))) else (none)) = some r := H
            have A14 := Aside0.mk A140
            clear A140
            by_cases c15 : 2 + t148.size ≤ 9223372036854775807
            · rw [if_pos c15] at H
              have c15b0 := eq_true c15
              have c15b1 : decide (2 + t148.size ≤ 9223372036854775807) = true := decide_eq_true c15
              try have c15b2 : (9223372036854775807 < 2 + t148.size) = False := eq_false (Nat.not_lt.2 c15)
              replace H := Option.bind_eq_some_iff.mp H
              obtain ⟨t149, A160, H⟩ := H
              replace H : ((laws_idTold.f ((⟨#[95, 82]⟩ : ByteArray) ++ t148) t149).bind fun t150 => (some t150)) = some r := H
              have A16 := Aside0.mk A160
              clear A160
              replace H := Option.bind_eq_some_iff.mp H
              obtain ⟨t150, A170, H⟩ := H
              replace H : (some t150) = some r := H
              have A17 := Aside0.mk A170
              clear A170
              obtain rfl := Option.some.inj H
              obtain ⟨i018, hi018, _, hsz18, _⟩ := info_parts info5
              obtain ⟨hcut18, hA18, hC18⟩ := print_take_of (P := Tryz.prog) (Value.int .u8) 0 22 5 .i64 Tryz.underlying22 hi018 hsz18 A0 c0 l0 (ji9) (of_decide_eq_true (by first | (with_reducible assumption) | assumption)) (of_decide_eq_true (by first | (with_reducible assumption) | assumption)) HC0.out
              have HR143 := Aside0.mk (Kd.C_of_reads (h1 := fun _ => rfl) (hA18 _ (Kd.reads_of_C HR0.out)))
              have HC143 := Aside0.mk hC18
              clear hA18 hC18 hi018 hsz18
              go_wp2_with (first | (go_at_call 15; refine (idCut_at _ _ _ _ _ _ (by assumption) (by assumption)).mono ?_; rintro e w_ ⟨rfl, rfl⟩) | ((with_reducible refine gate_callee (f := 14) rfl ?_); refine goesL_ (some 24) rfl rfl Tryz.func14 (by kernel_rfl) rfl #[.slice A0 (l0.take ((ji9) : Int).toNat).length c0] rfl (by (try simp only [List.map_toArray, List.map_cons, List.map_nil]); first | done | (rw [show (l0.take ((ji9) : Int).toNat).length = (ji9).toNat from (by rw [List.length_take]; have h_ : ((ji9) : Int) ≤ (l0.length : Int) := of_decide_eq_true (by first | (with_reducible assumption) | assumption); omega)] <;> rfl) | (simp only [hji9]; rfl) | rfl | (simp only [List.length_drop, List.length_take]; rfl)) ?_; (with_reducible refine (spec_AnPlain.calls kj3 _ _ (l0.take ((ji9) : Int).toNat) t144 _ ?side1 ?side2 A12.out).mono ?_); (case side1 => repeat (first | exact (Kd.C_below HR143.out HB.out) | (with_reducible refine Kd.C_alloc ?_ _) | (with_reducible refine Kd.C_drewN ?_ _) | (with_reducible refine Kd.C_drew ?_))); (case side2 => exact HC143.out); rintro e w19 ⟨rfl, hb⟩; refine ⟨_, rfl, ?_⟩; have n0_ := Aside0.mk (below_step (by repeat (first | (with_reducible first | exact HB.out | apply below_alloc | apply pw_below_drewN | apply below_drew1) | exact HB.out)) hb); clear HB; have HB := n0_; clear n0_; (try clear hb); (try clear hb2); (try clear hk); (try clear hi)) | ((with_reducible refine gate_callee (f := 16) rfl ?_); refine goesL_ (some 27) rfl rfl Tryz.func16 (by kernel_rfl) rfl #[.slice A1 l1.length c1, .slice A2 l2.length c2, .slice none 0 0] rfl (by (try simp only [List.map_toArray, List.map_cons, List.map_nil]); first | done | rfl | (simp only [List.length_drop, List.length_take]; rfl)) ?_; (refine (laws_idSmall.calls kj3 _ _ l1 _ _ l2 _ _ ([] : List Int) t145 _ ?side1 ?side2 ?side3 ?side4 ?side5 ?side6 A13.out).mono ?_); (case side1 => repeat (first | exact (Kd.C_below HR1.out HB.out) | (with_reducible refine Kd.C_alloc ?_ _) | (with_reducible refine Kd.C_drewN ?_ _) | (with_reducible refine Kd.C_drew ?_))); (case side2 => exact HC1.out); (case side3 => repeat (first | exact (Kd.C_below HR2.out HB.out) | (with_reducible refine Kd.C_alloc ?_ _) | (with_reducible refine Kd.C_drewN ?_ _) | (with_reducible refine Kd.C_drew ?_))); (case side4 => exact HC2.out); (case side5 => exact Kd.C_nil _ _); (case side6 => exact Nat.le_refl _); rintro e w20 ⟨v146, rfl, ho0, hb⟩; refine ⟨_, rfl, ?_⟩; have n0_ := Aside0.mk (Kd.R_lower ho0 (below_size (by repeat (first | (with_reducible first | exact HB.out | apply below_alloc | apply pw_below_drewN | apply below_drew1) | exact HB.out)))); have n1_ := Aside0.mk (below_step (by repeat (first | (with_reducible first | exact HB.out | apply below_alloc | apply pw_below_drewN | apply below_drew1) | exact HB.out)) hb); clear HB; have HO147 := n0_; have HB := n1_; clear n0_ n1_; (try clear hb); (try clear hb2); (try clear hk); (try clear hi); (try clear ho0); obtain ⟨Ao21, co21, eo21⟩ := Kd.R_slice HO147.out; subst eo21) | ((with_reducible refine gate_callee (f := 18) rfl ?_); refine goesL_ (some 30) rfl rfl Tryz.func18 (by kernel_rfl) rfl #[.string t144, .int .u64 0, .slice Ao21 t145.length co21] rfl (by (try simp only [List.map_toArray, List.map_cons, List.map_nil]); first | done | rfl | (simp only [List.length_drop, List.length_take]; rfl)) ?_; (with_reducible refine (spec_IdSymbol.calls kj3 t144 0 _ _ t145 t148 _ ?side1 ?side2 (show DoorIs _ from ?side3) A14.out).mono ?_); (case side1 => repeat (first | exact (Kd.R_reads' HO147.out).2.2 | (with_reducible refine Kd.C_alloc ?_ _) | (with_reducible refine Kd.C_drewN ?_ _) | (with_reducible refine Kd.C_drew ?_))); (case side2 => exact (Kd.R_reads' HO147.out).2.1); (case side3 => exact Stays.below hT_ (by first | (repeat (first | (with_reducible first | exact HB.out | apply below_alloc | apply pw_below_drewN | apply below_drew1) | exact HB.out)) | (repeat (first | exact Below.refl _ _ | apply below_drew1 | apply pw_below_drewN)))); rintro e w22 ⟨rfl, hb⟩; refine ⟨_, rfl, ?_⟩; have n0_ := Aside0.mk (Kd.R_below (by (with_reducible repeat (first | apply Kd.R_alloc | apply Kd.R_drewN | apply Kd.R_drew)); exact HO147.out) hb); have n1_ := Aside0.mk (below_step (by repeat (first | (with_reducible first | exact HB.out | apply below_alloc | apply pw_below_drewN | apply below_drew1) | exact HB.out)) hb); clear HO147; clear HB; have HO147 := n0_; have HB := n1_; clear n0_ n1_; (try clear hb); (try clear hb2); (try clear hk); (try clear hi)) | ((with_reducible refine gate_callee (f := 19) rfl ?_); refine goesL_ (some 34) rfl rfl Tryz.func19 (by kernel_rfl) rfl #[.string t144, .slice Ao21 t145.length co21] rfl (by (try simp only [List.map_toArray, List.map_cons, List.map_nil]); first | done | rfl | (simp only [List.length_drop, List.length_take]; rfl)) ?_; (with_reducible refine (spec_IdText.calls kj3 t144 _ _ t145 t149 _ ?side1 ?side2 (show DoorIs _ from ?side3) A16.out).mono ?_); (case side1 => repeat (first | exact (Kd.R_reads' HO147.out).2.2 | (with_reducible refine Kd.C_alloc ?_ _) | (with_reducible refine Kd.C_drewN ?_ _) | (with_reducible refine Kd.C_drew ?_))); (case side2 => exact (Kd.R_reads' HO147.out).2.1); (case side3 => exact Stays.below hT_ (by first | (repeat (first | (with_reducible first | exact HB.out | apply below_alloc | apply pw_below_drewN | apply below_drew1) | exact HB.out)) | (repeat (first | exact Below.refl _ _ | apply below_drew1 | apply pw_below_drewN)))); rintro e w23 ⟨rfl, hb⟩; refine ⟨_, rfl, ?_⟩; have n0_ := Aside0.mk (Kd.R_below (by (with_reducible repeat (first | apply Kd.R_alloc | apply Kd.R_drewN | apply Kd.R_drew)); exact HO147.out) hb); have n1_ := Aside0.mk (below_step (by repeat (first | (with_reducible first | exact HB.out | apply below_alloc | apply pw_below_drewN | apply below_drew1) | exact HB.out)) hb); clear HO147; clear HB; have HO147 := n0_; have HB := n1_; clear n0_ n1_; (try clear hb); (try clear hb2); (try clear hk); (try clear hi)) | ((with_reducible refine gate_callee (f := 23) rfl ?_); refine goesL_ (some 35) rfl rfl Tryz.func23 (by kernel_rfl) rfl #[.string ((⟨#[95, 82]⟩ : ByteArray) ++ t148), .string t149] rfl (by (try simp only [List.map_toArray, List.map_cons, List.map_nil]); first | done | rfl | (simp only [List.length_drop, List.length_take]; rfl)) ?_; (with_reducible refine (laws_idTold.calls ((⟨#[95, 82]⟩ : ByteArray) ++ t148) t149 t150 _ (show DoorIs _ from ?side1) A17.out).mono ?_); (case side1 => exact Stays.below hT_ (by first | (repeat (first | (with_reducible first | exact HB.out | apply below_alloc | apply pw_below_drewN | apply below_drew1) | exact HB.out)) | (repeat (first | exact Below.refl _ _ | apply below_drew1 | apply pw_below_drewN)))); rintro e w24 ⟨rfl, hb⟩; refine ⟨_, rfl, ?_⟩; have n0_ := Aside0.mk (Kd.R_below (by (with_reducible repeat (first | apply Kd.R_alloc | apply Kd.R_drewN | apply Kd.R_drew)); exact HO147.out) hb); have n1_ := Aside0.mk (below_step (by repeat (first | (with_reducible first | exact HB.out | apply below_alloc | apply pw_below_drewN | apply below_drew1) | exact HB.out)) hb); clear HO147; clear HB; have HO147 := n0_; have HB := n1_; clear n0_ n1_; (try clear hb); (try clear hb2); (try clear hk); (try clear hi)))
              go_ret
              exact ⟨by first | rfl | (simp [errW_none, errW_some] <;> rfl) | (simp only [← hji9]; first | rfl | (simp [errW_none, errW_some] <;> rfl)) | (simp [*, errW_none, errW_some] <;> rfl), by repeat (first | (with_reducible first | exact HB.out | apply below_alloc | apply pw_below_drewN | apply below_drew1) | exact HB.out)⟩
            · rw [if_neg c15] at H
              exact absurd H (by simp)
          · rw [if_neg c11] at H
            exact absurd H (by simp)
        · rw [if_neg c10] at H
          exact absurd H (by simp)

/-- THE ONE PURE STATEMENT of laws_FnNestedNames: yours. -/
def laws_FnNestedNames.Pure : Prop := ∀ (l0 : List Int) (l1 : List (List Int)) (l2 : List Int), l0.length ≤ maxLen → l0.length * 1 ≤ 140737488351232 → (∀ x ∈ l0, (Lit.int .u8 x).wf = true) → l1.length ≤ maxLen → (∀ r ∈ l1, r.length ≤ maxLen ∧ ∀ x ∈ r, (Lit.int .u8 x).wf = true) → l2.length ≤ maxLen → l2.length * 1 ≤ 140737488351232 → (∀ x ∈ l2, (Lit.int .u8 x).wf = true) → ∃ k, laws_FnNestedNames.f k l0 l1 l2 = some true
theorem laws_FnNestedNames.walk (P : laws_FnNestedNames.Pure) (a0 : Option Addr) (len0 cap0 : Nat) (z0 : List Int) (a1 : Option Addr) (cap1 : Nat) (l1 : List (List Int)) (a2 : Option Addr) (len2 cap2 : Nat) (z2 : List Int) (w : World) (hT_ : DoorIs w) (w0 : (a0 = none ∧ len0 = 0 ∧ cap0 = 0 ∧ z0 = []) ∨ ∃ x, a0 = some x ∧ len0 ≤ cap0 ∧ cap0 ≤ maxLen ∧ z0.length = cap0 ∧ (∀ i, i < z0.length → w.cell? (x.add i) = some (.int .u8 (z0.getD i 0))) ∧ ∀ n ∈ z0, (Lit.int .u8 n).wf = true) (y0 : len0 * 1 ≤ 140737488351232) (w1 : (Kd.slice 5 (Kd.int .u8)).C w a1 l1.length l1) (x1 : l1.length ≤ maxLen) (y1 : ∀ r ∈ l1, r.length ≤ maxLen ∧ ∀ x ∈ r, (Lit.int .u8 x).wf = true) (c1 : l1.length ≤ cap1) (w2 : (a2 = none ∧ len2 = 0 ∧ cap2 = 0 ∧ z2 = []) ∨ ∃ x, a2 = some x ∧ len2 ≤ cap2 ∧ cap2 ≤ maxLen ∧ z2.length = cap2 ∧ (∀ i, i < z2.length → w.cell? (x.add i) = some (.int .u8 (z2.getD i 0))) ∧ ∀ n ∈ z2, (Lit.int .u8 n).wf = true) (y2 : len2 * 1 ≤ 140737488351232) :
    Calls Tryz.prog 10 #[.slice a0 len0 cap0, .slice a1 l1.length cap1, .slice a2 len2 cap2] w fun e w' => e = .returned (.bool true) ∧ Below w.heap.size w w' := by
  obtain ⟨l0, rfl, hr0, hm0, hw0, hc0⟩ := ReadsInt.ofRowC w0
  obtain ⟨l2, rfl, hr2, hm2, hw2, hc2⟩ := ReadsInt.ofRowC w2
  obtain ⟨k, h⟩ := P l0 l1 l2 hm0 y0 hw0 x1 y1 hm2 y2 hw2
  refine (laws_FnNestedNames.calls k _ _ l0 _ _ l1 _ _ l2 true w (Kd.C_of_reads (d := (0 : Int)) (h1 := fun _ => rfl) hr0) hc0 w1 c1 (Kd.C_of_reads (d := (0 : Int)) (h1 := fun _ => rfl) hr2) hc2 hT_ h).mono ?_
  rintro e w' ⟨rfl, hd⟩
  exact ⟨rfl, hd⟩

end Go.Proofs.YtdmkdclockmjbaaGreatDoor.PFnNestedNames
