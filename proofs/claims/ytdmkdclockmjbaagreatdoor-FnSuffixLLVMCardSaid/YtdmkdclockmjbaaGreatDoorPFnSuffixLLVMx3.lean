/- Written by a program of this session (wip/tools/myprint.py) with the kit's print: contracts of the functions that one statement reaches; functions that are proved by hand are taken as printed. Conditions: none. -/
import Derived.Test.YtdmkdclockmjbaaGreatDoorPFnSuffixLLVMx0
import Derived.Test.YtdmkdclockmjbaaGreatDoorPFnSuffixLLVMx1
import Derived.Test.YtdmkdclockmjbaaGreatDoorPFnSuffixLLVMx2
namespace Go.Proofs.YtdmkdclockmjbaaGreatDoor.PFnSuffixLLVM
open Go.RowKit Go.Proofs.YtdmkdclockmjbaaGreatDoorW.PrintWords Go.Proofs.YtdmkdclockmjbaaGreatDoorW.PrintLast Go.Proofs.YtdmkdclockmjbaaGreatDoorW.PrintMore
attribute [local go_sem] max2_int min2_int max_two min_two max_three min_three max_four min_four   -- for this text's walks alone
set_option linter.unusedVariables false
set_option linter.unusedSimpArgs false

/-! ### laws_FnSuffixLLVM: function 3 -/
def laws_FnSuffixLLVM.j0 : Nat → List Int → List (List Int) → List Int → List Int → Bool → Option (Bool)
  | 0, _, _, _, _, _ => none
  | k + 1, x0, x1, x2, x3, x31 => if x31 = true then (some true) else (if 0 ≤ (mn (x0.length : Int) 1000) then (if (mn (x0.length : Int) 1000) ≤ (x0.length : Int) then ((spec_AnPlain.f k (x0.take ((mn (x0.length : Int) 1000) : Int).toNat)).bind fun t142 => ((laws_idSmall.f k x1 x2 ([] : List Int)).bind fun t143 => (if 0 ≤ (mn (x3.length : Int) 1000) then (if (mn (x3.length : Int) 1000) ≤ (x3.length : Int) then ((spec_AnPlain.f k (x3.take ((mn (x3.length : Int) 1000) : Int).toNat)).bind fun t147 => (if 1 + t147.size ≤ 9223372036854775807 then ((spec_IdSymbol.f k t142 0 t143).bind fun t148 => (if 2 + t148.size ≤ 9223372036854775807 then (if ((⟨#[95, 82]⟩ : ByteArray) ++ t148).size + ((⟨#[46]⟩ : ByteArray) ++ t147).size ≤ 9223372036854775807 then ((impl_Told.f (((⟨#[95, 82]⟩ : ByteArray) ++ t148) ++ ((⟨#[46]⟩ : ByteArray) ++ t147)) false false false false false false true 0).bind fun bt149 => (if bt149.2 = 0 then ((spec_IdText.f k t142 t143).bind fun t151 => (if t151.size + 2 ≤ 9223372036854775807 then (if (t151 ++ (⟨#[32, 40]⟩ : ByteArray)).size + ((⟨#[46]⟩ : ByteArray) ++ t147).size ≤ 9223372036854775807 then (if ((t151 ++ (⟨#[32, 40]⟩ : ByteArray)) ++ ((⟨#[46]⟩ : ByteArray) ++ t147)).size + 1 ≤ 9223372036854775807 then (some (bt149.1.toList == (((t151 ++ (⟨#[32, 40]⟩ : ByteArray)) ++ ((⟨#[46]⟩ : ByteArray) ++ t147)) ++ (⟨#[41]⟩ : ByteArray)).toList)) else (none)) else (none)) else (none))) else (some false))) else (none)) else (none))) else (none))) else (none)) else (none)))) else (none)) else (none))
def laws_FnSuffixLLVM.f (k : Nat) (l0 : List Int) (l1 : List (List Int)) (l2 : List Int) (l3 : List Int) : Option (Bool) := if (l0.length : Int) > 2147483647 then (laws_FnSuffixLLVM.j0 k l0 l1 l2 l3 true) else ((laws_zzFits1.f k l1).bind fun t140 => (if t140 = true then (if (l2.length : Int) > 2147483647 then (laws_FnSuffixLLVM.j0 k l0 l1 l2 l3 true) else (laws_FnSuffixLLVM.j0 k l0 l1 l2 l3 (decide ((l3.length : Int) > 2147483647)))) else (laws_FnSuffixLLVM.j0 k l0 l1 l2 l3 true)))
theorem laws_FnSuffixLLVM.mono_l : ∀ k, (∀ y0 y1 y2 y3 y4, LeO (laws_FnSuffixLLVM.j0 k y0 y1 y2 y3 y4) (laws_FnSuffixLLVM.j0 (k + 1) y0 y1 y2 y3 y4))
  | 0 => fun _ _ _ _ _ r h => by simp [laws_FnSuffixLLVM.j0] at h
  | k + 1 => by
    have ih0 := laws_FnSuffixLLVM.mono_l k
    · intro y0 y1 y2 y3 y4
      unfold laws_FnSuffixLLVM.j0
      repeat' first
      | (with_reducible exact ih0 _ _ _ _ _)
      | (with_reducible exact laws_idSmall.mono _ _ _ _)
      | (with_reducible exact laws_zzFits1.mono _ _)
      | (with_reducible exact spec_AnPlain.mono _ _)
      | (with_reducible exact spec_IdSymbol.mono _ _ _ _)
      | (with_reducible exact spec_IdText.mono _ _ _)
      | (with_reducible exact LeO.refl _)
      | (with_reducible exact LeO.none _)
      | (with_reducible refine LeO.ite ?_ ?_)
      | (with_reducible refine LeO.bind ?_ (fun _ => ?_))
      | exact ih0 _ _ _ _ _
      | exact laws_idSmall.mono _ _ _ _
      | exact laws_zzFits1.mono _ _
      | exact spec_AnPlain.mono _ _
      | exact spec_IdSymbol.mono _ _ _ _
      | exact spec_IdText.mono _ _ _
      | exact LeO.none _
      | refine LeO.ite ?_ ?_
      | refine LeO.bind ?_ (fun _ => ?_)
theorem laws_FnSuffixLLVM.mono : ∀ a0 a1 a2 a3 k, LeO (laws_FnSuffixLLVM.f k a0 a1 a2 a3) (laws_FnSuffixLLVM.f (k + 1) a0 a1 a2 a3) := by
  intro a0 a1 a2 a3 k
  have ih0 := laws_FnSuffixLLVM.mono_l k
  unfold laws_FnSuffixLLVM.f
  repeat' first
      | (with_reducible exact ih0 _ _ _ _ _)
      | (with_reducible exact laws_idSmall.mono _ _ _ _)
      | (with_reducible exact laws_zzFits1.mono _ _)
      | (with_reducible exact spec_AnPlain.mono _ _)
      | (with_reducible exact spec_IdSymbol.mono _ _ _ _)
      | (with_reducible exact spec_IdText.mono _ _ _)
      | (with_reducible exact LeO.refl _)
      | (with_reducible exact LeO.none _)
      | (with_reducible refine LeO.ite ?_ ?_)
      | (with_reducible refine LeO.bind ?_ (fun _ => ?_))
      | exact ih0 _ _ _ _ _
      | exact laws_idSmall.mono _ _ _ _
      | exact laws_zzFits1.mono _ _
      | exact spec_AnPlain.mono _ _
      | exact spec_IdSymbol.mono _ _ _ _
      | exact spec_IdText.mono _ _ _
      | exact LeO.none _
      | refine LeO.ite ?_ ?_
      | refine LeO.bind ?_ (fun _ => ?_)
set_option maxHeartbeats 8000000 in
set_option maxRecDepth 100000 in
theorem laws_FnSuffixLLVM.calls (k : Nat) (A0 : Option Addr) (c0 : Nat) (l0 : List Int) (A1 : Option Addr) (c1 : Nat) (l1 : List (List Int)) (A2 : Option Addr) (c2 : Nat) (l2 : List Int) (A3 : Option Addr) (c3 : Nat) (l3 : List Int) (r : Bool) (w : World) (hr0 : Kd.C (Kd.int .u8) w A0 l0.length l0) (hc0 : l0.length ≤ c0) (hr1 : Kd.C (Kd.slice 5 (Kd.int .u8)) w A1 l1.length l1) (hc1 : l1.length ≤ c1) (hr2 : Kd.C (Kd.int .u8) w A2 l2.length l2) (hc2 : l2.length ≤ c2) (hr3 : Kd.C (Kd.int .u8) w A3 l3.length l3) (hc3 : l3.length ≤ c3) (hT_ : DoorIs w) (h : laws_FnSuffixLLVM.f k l0 l1 l2 l3 = some r) :
    Calls Tryz.prog 3 #[.slice A0 l0.length c0, .slice A1 l1.length c1, .slice A2 l2.length c2, .slice A3 l3.length c3] w fun e w' => e = .returned (.bool r) ∧ Below w.heap.size w w' := by
  have hu34 := Tryz.underlying34
  have HR0 := Aside0.mk hr0
  have HC0 := Aside0.mk hc0
  clear hr0 hc0
  have HR1 := Aside0.mk hr1
  have HC1 := Aside0.mk hc1
  clear hr1 hc1
  have HR2 := Aside0.mk hr2
  have HC2 := Aside0.mk hc2
  clear hr2 hc2
  have HR3 := Aside0.mk hr3
  have HC3 := Aside0.mk hc3
  clear hr3 hc3
  have HB := Aside0.mk (Below.refl w.heap.size w)
  have H : (if (l0.length : Int) > 2147483647 then (laws_FnSuffixLLVM.j0 k l0 l1 l2 l3 true) else ((laws_zzFits1.f k l1).bind fun t140 => (if t140 = true then (if (l2.length : Int) > 2147483647 then (laws_FnSuffixLLVM.j0 k l0 l1 l2 l3 true) else (laws_FnSuffixLLVM.j0 k l0 l1 l2 l3 (decide ((l3.length : Int) > 2147483647)))) else (laws_FnSuffixLLVM.j0 k l0 l1 l2 l3 true)))) = some r := h
  clear h
  have HC5 := Aside0.mk H
  clear H
  go_enter Tryz.func3, Tryz.ntmps3
  go_upto_region 1 with (fail)
  go_cut [31] (fun v31 wc => ∃ (kq : Nat) (x31_4 : Bool), v31 = .bool x31_4 ∧ Aside0 (laws_FnSuffixLLVM.j0 kq l0 l1 l2 l3 x31_4 = some r) ∧ Aside0 (kq ≤ k) ∧ Aside0 (Below w.heap.size w wc))
  case first =>
    have H := HC5.out
    clear HC5
    by_cases c6 : (l0.length : Int) > 2147483647
    · rw [if_pos c6] at H
      have c6b0 : decide (2147483647 < (l0.length : Int)) = true := decide_eq_true c6
      have c6b1 : decide (2147483647 < l0.length) = true := decide_eq_true (by omega)
      clear c6
      (first | rw [c6b0] | (simp only [i64_w, i32_w]; rw [c6b0]) | rw [c6b1] | skip)
      have H' := Aside0.mk H
      clear H
      go_wp2
      go_meet
      case rel => exact ⟨_, (true), (by first | rfl | (simp; done) | (simp [*]; done)), H', ⟨by first | omega | exact Nat.le_refl _⟩, ⟨by repeat (first | (with_reducible first | exact HB.out | apply below_alloc | apply pw_below_drewN | apply below_drew1) | exact HB.out)⟩⟩
    · rw [if_neg c6] at H
      have c6b0 : decide (2147483647 < (l0.length : Int)) = false := decide_eq_false c6
      have c6b1 : decide (2147483647 < l0.length) = false := decide_eq_false (by omega)
      clear c6
      (first | rw [c6b0] | (simp only [i64_w, i32_w]; rw [c6b0]) | rw [c6b1] | skip)
      replace H := Option.bind_eq_some_iff.mp H
      obtain ⟨t140, A70, H⟩ := H
      replace H : (if t140 = true then (if (l2.length : Int) > 2147483647 then (laws_FnSuffixLLVM.j0 k l0 l1 l2 l3 true) else (laws_FnSuffixLLVM.j0 k l0 l1 l2 l3 (decide ((l3.length : Int) > 2147483647)))) else (laws_FnSuffixLLVM.j0 k l0 l1 l2 l3 true)) = some r := H
      have A7 := Aside0.mk A70
      clear A70
      by_cases c8 : t140 = true
      · subst c8
        have H1 : (if (l2.length : Int) > 2147483647 then (laws_FnSuffixLLVM.j0 k l0 l1 l2 l3 true) else (laws_FnSuffixLLVM.j0 k l0 l1 l2 l3 (decide ((l3.length : Int) > 2147483647)))) = some r := by rw [if_pos rfl] at H; exact H
        clear H
        have H := H1
        clear H1
        by_cases c9 : (l2.length : Int) > 2147483647
        · rw [if_pos c9] at H
          have c9b0 : decide (2147483647 < (l2.length : Int)) = true := decide_eq_true c9
          have c9b1 : decide (2147483647 < l2.length) = true := decide_eq_true (by omega)
          clear c9
          have H' := Aside0.mk H
          clear H
          go_wp2_with (first | (go_at_call 15; refine (idCut_at _ _ _ _ _ _ (by assumption) (by assumption)).mono ?_; rintro e w_ ⟨rfl, rfl⟩) | (go_at_call 13; (with_reducible refine (laws_zzFits1.calls k _ _ l1 true _ ?side1 ?side2 A7.out).mono ?_); (case side1 => repeat (first | exact (Kd.C_below HR1.out HB.out) | (with_reducible refine Kd.C_alloc ?_ _) | (with_reducible refine Kd.C_drewN ?_ _) | (with_reducible refine Kd.C_drew ?_))); (case side2 => exact HC1.out); rintro e w' ⟨rfl, ⟨nd, rfl⟩⟩))
          go_meet
          case rel => exact ⟨_, (true), (by first | rfl | (simp; done) | (simp [*]; done)), H', ⟨by first | omega | exact Nat.le_refl _⟩, ⟨by repeat (first | (with_reducible first | exact HB.out | apply below_alloc | apply pw_below_drewN | apply below_drew1) | exact HB.out)⟩⟩
        · rw [if_neg c9] at H
          have c9b0 : decide (2147483647 < (l2.length : Int)) = false := decide_eq_false c9
          have c9b1 : decide (2147483647 < l2.length) = false := decide_eq_false (by omega)
          clear c9
          have H' := Aside0.mk H
          clear H
          go_wp2_with (first | (go_at_call 15; refine (idCut_at _ _ _ _ _ _ (by assumption) (by assumption)).mono ?_; rintro e w_ ⟨rfl, rfl⟩) | (go_at_call 13; (with_reducible refine (laws_zzFits1.calls k _ _ l1 true _ ?side1 ?side2 A7.out).mono ?_); (case side1 => repeat (first | exact (Kd.C_below HR1.out HB.out) | (with_reducible refine Kd.C_alloc ?_ _) | (with_reducible refine Kd.C_drewN ?_ _) | (with_reducible refine Kd.C_drew ?_))); (case side2 => exact HC1.out); rintro e w' ⟨rfl, ⟨nd, rfl⟩⟩))
          go_meet
          case rel => exact ⟨_, (decide ((l3.length : Int) > 2147483647)), (by first | rfl | (simp; done) | (simp [*]; done)), H', ⟨by first | omega | exact Nat.le_refl _⟩, ⟨by repeat (first | (with_reducible first | exact HB.out | apply below_alloc | apply pw_below_drewN | apply below_drew1) | exact HB.out)⟩⟩
      · replace c8 := Bool.eq_false_iff.mpr c8
        subst c8
        have H1 : (laws_FnSuffixLLVM.j0 k l0 l1 l2 l3 true) = some r := by rw [if_neg (show ¬ (false = true) by decide)] at H; exact H
        clear H
        have H := H1
        clear H1
        have H' := Aside0.mk H
        clear H
        go_wp2_with (first | (go_at_call 15; refine (idCut_at _ _ _ _ _ _ (by assumption) (by assumption)).mono ?_; rintro e w_ ⟨rfl, rfl⟩) | (go_at_call 13; (with_reducible refine (laws_zzFits1.calls k _ _ l1 false _ ?side1 ?side2 A7.out).mono ?_); (case side1 => repeat (first | exact (Kd.C_below HR1.out HB.out) | (with_reducible refine Kd.C_alloc ?_ _) | (with_reducible refine Kd.C_drewN ?_ _) | (with_reducible refine Kd.C_drew ?_))); (case side2 => exact HC1.out); rintro e w' ⟨rfl, ⟨nd, rfl⟩⟩))
        go_meet
        case rel => exact ⟨_, (true), (by first | rfl | (simp; done) | (simp [*]; done)), H', ⟨by first | omega | exact Nat.le_refl _⟩, ⟨by repeat (first | (with_reducible first | exact HB.out | apply below_alloc | apply pw_below_drewN | apply below_drew1) | exact HB.out)⟩⟩
  case rest =>
    clear HC5
    try clear c1
    try clear c2
    try clear p2
    try clear c3
    try clear c6
    try clear c6b0
    try clear c6b1
    try clear c8
    try clear c9
    try clear c9b0
    try clear c9b1
    obtain ⟨kq, x31_4, rfl, HA, HJ4, HB⟩ := hcut
    cases kq with
    | zero => exact absurd HA.out (by simp [laws_FnSuffixLLVM.j0])
    | succ kj4 =>
      have H := HA.out
      clear HA
      simp only [laws_FnSuffixLLVM.j0] at H
      by_cases c10 : x31_4 = true
      · subst c10
        have H1 : (some true) = some r := by rw [if_pos rfl] at H; exact H
        clear H
        have H := H1
        clear H1
        obtain rfl := Option.some.inj H
        go_wp2
        go_ret
        exact ⟨by first | rfl | (simp [errW_none, errW_some] <;> rfl) | (simp [*, errW_none, errW_some] <;> rfl), by repeat (first | (with_reducible first | exact HB.out | apply below_alloc | apply pw_below_drewN | apply below_drew1) | exact HB.out)⟩
      · replace c10 := Bool.eq_false_iff.mpr c10
        subst c10
        have H1 : (if 0 ≤ (mn (l0.length : Int) 1000) then (if (mn (l0.length : Int) 1000) ≤ (l0.length : Int) then ((spec_AnPlain.f kj4 (l0.take ((mn (l0.length : Int) 1000) : Int).toNat)).bind fun t142 => ((laws_idSmall.f kj4 l1 l2 ([] : List Int)).bind fun t143 => (if 0 ≤ (mn (l3.length : Int) 1000) then (if (mn (l3.length : Int) 1000) ≤ (l3.length : Int) then ((spec_AnPlain.f kj4 (l3.take ((mn (l3.length : Int) 1000) : Int).toNat)).bind fun t147 => (if 1 + t147.size ≤ 9223372036854775807 then ((spec_IdSymbol.f kj4 t142 0 t143).bind fun t148 => (if 2 + t148.size ≤ 9223372036854775807 then (if ((⟨#[95, 82]⟩ : ByteArray) ++ t148).size + ((⟨#[46]⟩ : ByteArray) ++ t147).size ≤ 9223372036854775807 then ((impl_Told.f (((⟨#[95, 82]⟩ : ByteArray) ++ t148) ++ ((⟨#[46]⟩ : ByteArray) ++ t147)) false false false false false false true 0).bind fun bt149 => (if bt149.2 = 0 then ((spec_IdText.f kj4 t142 t143).bind fun t151 => (if t151.size + 2 ≤ 9223372036854775807 then (if (t151 ++ (⟨#[32, 40]⟩ : ByteArray)).size + ((⟨#[46]⟩ : ByteArray) ++ t147).size ≤ 9223372036854775807 then (if ((t151 ++ (⟨#[32, 40]⟩ : ByteArray)) ++ ((⟨#[46]⟩ : ByteArray) ++ t147)).size + 1 ≤ 9223372036854775807 then (some (bt149.1.toList == (((t151 ++ (⟨#[32, 40]⟩ : ByteArray)) ++ ((⟨#[46]⟩ : ByteArray) ++ t147)) ++ (⟨#[41]⟩ : ByteArray)).toList)) else (none)) else (none)) else (none))) else (some false))) else (none)) else (none))) else (none))) else (none)) else (none)))) else (none)) else (none)) = some r := by rw [if_neg (show ¬ (false = true) by decide)] at H; exact H
        clear H
        have H := H1
        clear H1
        obtain ⟨ji11, hji11⟩ : ∃ j_ : Int, (mn (l0.length : Int) 1000) = j_ := ⟨_, rfl⟩
        replace H : (if 0 ≤ (ji11) then (if (ji11) ≤ (l0.length : Int) then ((spec_AnPlain.f kj4 (l0.take ((ji11) : Int).toNat)).bind fun t142 => ((laws_idSmall.f kj4 l1 l2 ([] : List Int)).bind fun t143 => (if 0 ≤ (mn (l3.length : Int) 1000) then (if (mn (l3.length : Int) 1000) ≤ (l3.length : Int) then ((spec_AnPlain.f kj4 (l3.take ((mn (l3.length : Int) 1000) : Int).toNat)).bind fun t147 => (if 1 + t147.size ≤ 9223372036854775807 then ((spec_IdSymbol.f kj4 t142 0 t143).bind fun t148 => (if 2 + t148.size ≤ 9223372036854775807 then (if ((⟨#[95, 82]⟩ : ByteArray) ++ t148).size + ((⟨#[46]⟩ : ByteArray) ++ t147).size ≤ 9223372036854775807 then ((impl_Told.f (((⟨#[95, 82]⟩ : ByteArray) ++ t148) ++ ((⟨#[46]⟩ : ByteArray) ++ t147)) false false false false false false true 0).bind fun bt149 => (if bt149.2 = 0 then ((spec_IdText.f kj4 t142 t143).bind fun t151 => (if t151.size + 2 ≤ 9223372036854775807 then (if (t151 ++ (⟨#[32, 40]⟩ : ByteArray)).size + ((⟨#[46]⟩ : ByteArray) ++ t147).size ≤ 9223372036854775807 then (if ((t151 ++ (⟨#[32, 40]⟩ : ByteArray)) ++ ((⟨#[46]⟩ : ByteArray) ++ t147)).size + 1 ≤ 9223372036854775807 then (some (bt149.1.toList == (((t151 ++ (⟨#[32, 40]⟩ : ByteArray)) ++ ((⟨#[46]⟩ : ByteArray) ++ t147)) ++ (⟨#[41]⟩ : ByteArray)).toList)) else (none)) else (none)) else (none))) else (some false))) else (none)) else (none))) else (none))) else (none)) else (none)))) else (none)) else (none)) = some r := by first | (rw [hji11] at H; exact H) | (simp only [hji11] at H ⊢; exact H)
        (try (have hji11h : ji11 ≤ 1000 := by (rw [← hji11]; unfold mn; (repeat' split) <;> omega)))
        (try (have hji11g : ji11 ≤ 64 := by omega))
        (try (have hji11l : 0 ≤ ji11 := by (rw [← hji11]; unfold mn; (repeat' split) <;> omega)))
        (try (have hji11m : 0 ≤ ji11 := by omega))
        have hji11_ : (if 1000 < (l0.length : Int) then 1000 else (l0.length : Int)) = ji11 := hji11
        by_cases c12 : 0 ≤ (ji11)
        · rw [if_pos c12] at H
          have c12b0 := eq_true c12
          have c12b1 : decide (0 ≤ (ji11)) = true := decide_eq_true c12
          clear c12
          by_cases c13 : (ji11) ≤ (l0.length : Int)
          · rw [if_pos c13] at H
            have c13b0 := eq_true c13
            have c13b1 : decide ((ji11) ≤ (l0.length : Int)) = true := decide_eq_true c13
            clear c13
            replace H := Option.bind_eq_some_iff.mp H
            obtain ⟨t142, A140, H⟩ := H
            replace H : ((laws_idSmall.f kj4 l1 l2 ([] : List Int)).bind fun t143 => (if 0 ≤ (mn (l3.length : Int) 1000) then (if (mn (l3.length : Int) 1000) ≤ (l3.length : Int) then ((spec_AnPlain.f kj4 (l3.take ((mn (l3.length : Int) 1000) : Int).toNat)).bind fun t147 => (if 1 + t147.size ≤ 9223372036854775807 then ((spec_IdSymbol.f kj4 t142 0 t143).bind fun t148 => (if 2 + t148.size ≤ 9223372036854775807 then (if ((⟨#[95, 82]⟩ : ByteArray) ++ t148).size + ((⟨#[46]⟩ : ByteArray) ++ t147).size ≤ 9223372036854775807 then ((impl_Told.f (((⟨#[95, 82]⟩ : ByteArray) ++ t148) ++ ((⟨#[46]⟩ : ByteArray) ++ t147)) false false false false false false true 0).bind fun bt149 => (if bt149.2 = 0 then ((spec_IdText.f kj4 t142 t143).bind fun t151 => (if t151.size + 2 ≤ 9223372036854775807 then (if (t151 ++ (⟨#[32, 40]⟩ : ByteArray)).size + ((⟨#[46]⟩ : ByteArray) ++ t147).size ≤ 9223372036854775807 then (if ((t151 ++ (⟨#[32, 40]⟩ : ByteArray)) ++ ((⟨#[46]⟩ : ByteArray) ++ t147)).size + 1 ≤ 9223372036854775807 then (some (bt149.1.toList == (((t151 ++ (⟨#[32, 40]⟩ : ByteArray)) ++ ((⟨#[46]⟩ : ByteArray) ++ t147)) ++ (⟨#[41]⟩ : ByteArray)).toList)) else (none)) else (none)) else (none))) else (some false))) else (none)) else (none))) else (none))) else (none)) else (none))) = some r := H
            have A14 := Aside0.mk A140
            clear A140
            replace H := Option.bind_eq_some_iff.mp H
            obtain ⟨t143, A150, H⟩ := H
            replace H : (if 0 ≤ (mn (l3.length : Int) 1000) then (if (mn (l3.length : Int) 1000) ≤ (l3.length : Int) then ((spec_AnPlain.f kj4 (l3.take ((mn (l3.length : Int) 1000) : Int).toNat)).bind fun t147 => (if 1 + t147.size ≤ 9223372036854775807 then ((spec_IdSymbol.f kj4 t142 0 t143).bind fun t148 => (if 2 + t148.size ≤ 9223372036854775807 then (if ((⟨#[95, 82]⟩ : ByteArray) ++ t148).size + ((⟨#[46]⟩ : ByteArray) ++ t147).size ≤ 9223372036854775807 then ((impl_Told.f (((⟨#[95, 82]⟩ : ByteArray) ++ t148) ++ ((⟨#[46]⟩ : ByteArray) ++ t147)) false false false false false false true 0).bind fun bt149 => (if bt149.2 = 0 then ((spec_IdText.f kj4 t142 t143).bind fun t151 => (if t151.size + 2 ≤ 9223372036854775807 then (if (t151 ++ (⟨#[32, 40]⟩ : ByteArray)).size + ((⟨#[46]⟩ : ByteArray) ++ t147).size ≤ 9223372036854775807 then (if ((t151 ++ (⟨#[32, 40]⟩ : ByteArray)) ++ ((⟨#[46]⟩ : ByteArray) ++ t147)).size + 1 ≤ 9223372036854775807 then (some (bt149.1.toList == (((t151 ++ (⟨#[32, 40]⟩ : ByteArray)) ++ ((⟨#[46]⟩ : ByteArray) ++ t147)) ++ (⟨#[41]⟩ : ByteArray)).toList)) else (none)) else (none)) else (none))) else (some false))) else (none)) else (none))) else (none))) else (none)) else (none)) = some r := H
            have A15 := Aside0.mk A150
            clear A150
            obtain ⟨ji16, hji16⟩ : ∃ j_ : Int, (mn (l3.length : Int) 1000) = j_ := ⟨_, rfl⟩
            replace H : (if 0 ≤ (ji16) then (if (ji16) ≤ (l3.length : Int) then ((spec_AnPlain.f kj4 (l3.take ((ji16) : Int).toNat)).bind fun t147 => (if 1 + t147.size ≤ 9223372036854775807 then ((spec_IdSymbol.f kj4 t142 0 t143).bind fun t148 => (if 2 + t148.size ≤ 9223372036854775807 then (if ((⟨#[95, 82]⟩ : ByteArray) ++ t148).size + ((⟨#[46]⟩ : ByteArray) ++ t147).size ≤ 9223372036854775807 then ((impl_Told.f (((⟨#[95, 82]⟩ : ByteArray) ++ t148) ++ ((⟨#[46]⟩ : ByteArray) ++ t147)) false false false false false false true 0).bind fun bt149 => (if bt149.2 = 0 then ((spec_IdText.f kj4 t142 t143).bind fun t151 => (if t151.size + 2 ≤ 9223372036854775807 then (if (t151 ++ (⟨#[32, 40]⟩ : ByteArray)).size + ((⟨#[46]⟩ : ByteArray) ++ t147).size ≤ 9223372036854775807 then (if ((t151 ++ (⟨#[32, 40]⟩ : ByteArray)) ++ ((⟨#[46]⟩ : ByteArray) ++ t147)).size + 1 ≤ 9223372036854775807 then (some (bt149.1.toList == (((t151 ++ (⟨#[32, 40]⟩ : ByteArray)) ++ ((⟨#[46]⟩ : ByteArray) ++ t147)) ++ (⟨#[41]⟩ : ByteArray)).toList)) else (none)) else (none)) else (none))) else (some false))) else (none)) else (none))) else (none))) else (none)) else (none)) = some r := by first | (rw [hji16] at H; exact H) | (simp only [hji16] at H ⊢; exact H)
            (try rw [hji16] at A14)
            (try rw [hji16] at A15)
            have hji16_ : (if 1000 < (l3.length : Int) then 1000 else (l3.length : Int)) = ji16 := hji16
            by_cases c17 : 0 ≤ (ji16)
            · rw [if_pos c17] at H
              have c17b0 := eq_true c17
              have c17b1 : decide (0 ≤ (ji16)) = true := decide_eq_true c17
              clear c17
              by_cases c18 : (ji16) ≤ (l3.length : Int)
              · rw [if_pos c18] at H
                have c18b0 := eq_true c18
                have c18b1 : decide ((ji16) ≤ (l3.length : Int)) = true := decide_eq_true c18
                clear c18
                replace H := Option.bind_eq_some_iff.mp H
                obtain ⟨t147, A190, H⟩ := H
                replace H : (if 1 + t147.size ≤ 9223372036854775807 then ((spec_IdSymbol.f kj4 t142 0 t143).bind fun t148 => (if 2 + t148.size ≤ 9223372036854775807 then (if ((⟨#[95, 82]⟩ : ByteArray) ++ t148).size + ((⟨#[46]⟩ : ByteArray) ++ t147).size ≤ 9223372036854775807 then ((impl_Told.f (((⟨#[95, 82]⟩ : ByteArray) ++ t148) ++ ((⟨#[46]⟩ : ByteArray) ++ t147)) false false false false false false true 0).bind fun bt149 => (if bt149.2 = 0 then ((spec_IdText.f kj4 t142 t143).bind fun t151 => (if t151.size + 2 ≤ 9223372036854775807 then (if (t151 ++ (⟨#[32, 40]⟩ : ByteArray)).size + ((⟨#[46]⟩ : ByteArray) ++ t147).size ≤ 9223372036854775807 then (if ((t151 ++ (⟨#[32, 40]⟩ : ByteArray)) ++ ((⟨#[46]⟩ : ByteArray) ++ t147)).size + 1 ≤ 9223372036854775807 then (some (bt149.1.toList == (((t151 ++ (⟨#[32, 40]⟩ : ByteArray)) ++ ((⟨#[46]⟩ : ByteArray) ++ t147)) ++ (⟨#[41]⟩ : ByteArray)).toList)) else (none)) else (none)) else (none))) else (some false))) else (none)) else (none))) else (none)) = some r := H
                have A19 := Aside0.mk A190
                clear A190
                by_cases c20 : 1 + t147.size ≤ 9223372036854775807
                · rw [if_pos c20] at H
                  have c20b0 := eq_true c20
                  have c20b1 : decide (1 + t147.size ≤ 9223372036854775807) = true := decide_eq_true c20
                  try have c20b2 : (9223372036854775807 < 1 + t147.size) = False := eq_false (Nat.not_lt.2 c20)
                  replace H := Option.bind_eq_some_iff.mp H
                  obtain ⟨t148, A210, H⟩ := H
                  replace H : (if 2 + t148.size ≤ 9223372036854775807 then (if ((⟨#[95, 82]⟩ : ByteArray) ++ t148).size + ((⟨#[46]⟩ : ByteArray) ++ t147).size ≤ 9223372036854775807 then ((impl_Told.f (((⟨#[95, 82]⟩ : ByteArray) ++ t148) ++ ((⟨#[46]⟩ : ByteArray) ++ t147)) false false false false false false true 0).bind fun bt149 => (if bt149.2 = 0 then ((spec_IdText.f kj4 t142 t143).bind fun t151 => (if t151.size + 2 ≤ 9223372036854775807 then (if (t151 ++ (⟨#[32, 40]⟩ : ByteArray)).size + ((⟨#[46]⟩ : ByteArray) ++ t147).size ≤ 9223372036854775807 then (if ((t151 ++ (⟨#[32, 40]⟩ : ByteArray)) ++ ((⟨#[46]⟩ : ByteArray) ++ t147)).size + 1 ≤ 9223372036854775807 then (some (bt149.1.toList == (((t151 ++ (⟨#[32, 40]⟩ : ByteArray)) ++ ((⟨#[46]⟩ : ByteArray) ++ t147)) ++ (⟨#[41]⟩ : ByteArray)).toList)) else (none)) else (none)) else (none))) else (some false))) else (none)) else (none)) = some r := H
                  have A21 := Aside0.mk A210
                  clear A210
                  by_cases c22 : 2 + t148.size ≤ 9223372036854775807
                  · rw [if_pos c22] at H
                    have c22b0 := eq_true c22
                    have c22b1 : decide (2 + t148.size ≤ 9223372036854775807) = true := decide_eq_true c22
                    try have c22b2 : (9223372036854775807 < 2 + t148.size) = False := eq_false (Nat.not_lt.2 c22)
                    by_cases c23 : ((⟨#[95, 82]⟩ : ByteArray) ++ t148).size + ((⟨#[46]⟩ : ByteArray) ++ t147).size ≤ 9223372036854775807
                    · rw [if_pos c23] at H
                      have c23b0 := eq_true c23
                      have c23b1 : decide (((⟨#[95, 82]⟩ : ByteArray) ++ t148).size + ((⟨#[46]⟩ : ByteArray) ++ t147).size ≤ 9223372036854775807) = true := decide_eq_true c23
                      try have c23b2 : (9223372036854775807 < ((⟨#[95, 82]⟩ : ByteArray) ++ t148).size + ((⟨#[46]⟩ : ByteArray) ++ t147).size) = False := eq_false (Nat.not_lt.2 c23)
                      try have c23b4 : (9223372036854775807 < 2 + t148.size + (1 + t147.size)) = False := eq_false (by have h_ := c23; (repeat rw [ByteArray.size_append] at h_); exact Nat.not_lt.2 h_)
                      replace H := Option.bind_eq_some_iff.mp H
                      obtain ⟨⟨t149, t150⟩, A240, H⟩ := H
                      replace H : (if t150 = 0 then ((spec_IdText.f kj4 t142 t143).bind fun t151 => (if t151.size + 2 ≤ 9223372036854775807 then (if (t151 ++ (⟨#[32, 40]⟩ : ByteArray)).size + ((⟨#[46]⟩ : ByteArray) ++ t147).size ≤ 9223372036854775807 then (if ((t151 ++ (⟨#[32, 40]⟩ : ByteArray)) ++ ((⟨#[46]⟩ : ByteArray) ++ t147)).size + 1 ≤ 9223372036854775807 then (some (t149.toList == (((t151 ++ (⟨#[32, 40]⟩ : ByteArray)) ++ ((⟨#[46]⟩ : ByteArray) ++ t147)) ++ (⟨#[41]⟩ : ByteArray)).toList)) else (none)) else (none)) else (none))) else (some false)) = some r := H
                      have A24 := Aside0.mk A240
                      clear A240
                      by_cases c25 : t150 = 0
                      · rw [if_pos c25] at H
                        have c25b0 : (t150 == 0) = true := beq_iff_eq.mpr c25
                        have c25b1 : (t150 != 0) = false := bne_eq_false_iff_eq.mpr c25
                        clear c25
                        replace H := Option.bind_eq_some_iff.mp H
                        obtain ⟨t151, A260, H⟩ := H
                        replace H : (if t151.size + 2 ≤ 9223372036854775807 then (if (t151 ++ (⟨#[32, 40]⟩ : ByteArray)).size + ((⟨#[46]⟩ : ByteArray) ++ t147).size ≤ 9223372036854775807 then (if ((t151 ++ (⟨#[32, 40]⟩ : ByteArray)) ++ ((⟨#[46]⟩ : ByteArray) ++ t147)).size + 1 ≤ 9223372036854775807 then (some (t149.toList == (((t151 ++ (⟨#[32, 40]⟩ : ByteArray)) ++ ((⟨#[46]⟩ : ByteArray) ++ t147)) ++ (⟨#[41]⟩ : ByteArray)).toList)) else (none)) else (none)) else (none)) = some r := H
                        have A26 := Aside0.mk A260
                        clear A260
                        by_cases c27 : t151.size + 2 ≤ 9223372036854775807
                        · rw [if_pos c27] at H
                          have c27b0 := eq_true c27
                          have c27b1 : decide (t151.size + 2 ≤ 9223372036854775807) = true := decide_eq_true c27
                          try have c27b2 : (9223372036854775807 < t151.size + 2) = False := eq_false (Nat.not_lt.2 c27)
                          by_cases c28 : (t151 ++ (⟨#[32, 40]⟩ : ByteArray)).size + ((⟨#[46]⟩ : ByteArray) ++ t147).size ≤ 9223372036854775807
                          · rw [if_pos c28] at H
                            have c28b0 := eq_true c28
                            have c28b1 : decide ((t151 ++ (⟨#[32, 40]⟩ : ByteArray)).size + ((⟨#[46]⟩ : ByteArray) ++ t147).size ≤ 9223372036854775807) = true := decide_eq_true c28
                            try have c28b2 : (9223372036854775807 < (t151 ++ (⟨#[32, 40]⟩ : ByteArray)).size + ((⟨#[46]⟩ : ByteArray) ++ t147).size) = False := eq_false (Nat.not_lt.2 c28)
                            try have c28b4 : (9223372036854775807 < t151.size + 2 + (1 + t147.size)) = False := eq_false (by have h_ := c28; (repeat rw [ByteArray.size_append] at h_); exact Nat.not_lt.2 h_)
                            by_cases c29 : ((t151 ++ (⟨#[32, 40]⟩ : ByteArray)) ++ ((⟨#[46]⟩ : ByteArray) ++ t147)).size + 1 ≤ 9223372036854775807
                            · rw [if_pos c29] at H
                              have c29b0 := eq_true c29
                              have c29b1 : decide (((t151 ++ (⟨#[32, 40]⟩ : ByteArray)) ++ ((⟨#[46]⟩ : ByteArray) ++ t147)).size + 1 ≤ 9223372036854775807) = true := decide_eq_true c29
                              try have c29b2 : (9223372036854775807 < ((t151 ++ (⟨#[32, 40]⟩ : ByteArray)) ++ ((⟨#[46]⟩ : ByteArray) ++ t147)).size + 1) = False := eq_false (Nat.not_lt.2 c29)
                              try have c29b4 : (9223372036854775807 < t151.size + 2 + (1 + t147.size) + 1) = False := eq_false (by have h_ := c29; (repeat rw [ByteArray.size_append] at h_); exact Nat.not_lt.2 h_)
                              obtain rfl := Option.some.inj H
                              obtain ⟨i030, hi030, _, hsz30, _⟩ := info_parts info5
                              obtain ⟨hcut30, hA30, hC30⟩ := print_take_of (P := Tryz.prog) (Value.int .u8) 0 22 5 .i64 Tryz.underlying22 hi030 hsz30 A0 c0 l0 (ji11) (of_decide_eq_true (by first | (with_reducible assumption) | assumption)) (of_decide_eq_true (by first | (with_reducible assumption) | assumption)) HC0.out
                              have HR141 := Aside0.mk (Kd.C_of_reads (h1 := fun _ => rfl) (hA30 _ (Kd.reads_of_C HR0.out)))
                              have HC141 := Aside0.mk hC30
                              clear hA30 hC30 hi030 hsz30
                              go_wp2_with (first | (go_at_call 15; refine (idCut_at _ _ _ _ _ _ (by assumption) (by assumption)).mono ?_; rintro e w_ ⟨rfl, rfl⟩) | ((with_reducible refine gate_callee (f := 14) rfl ?_); refine goesL_ (some 34) rfl rfl Tryz.func14 (by kernel_rfl) rfl #[.slice A0 (l0.take ((ji11) : Int).toNat).length c0] rfl (by (try simp only [List.map_toArray, List.map_cons, List.map_nil]); first | done | (rw [show (l0.take ((ji11) : Int).toNat).length = (ji11).toNat from (by rw [List.length_take]; have h_ : ((ji11) : Int) ≤ (l0.length : Int) := of_decide_eq_true (by first | (with_reducible assumption) | assumption); omega)] <;> rfl) | (simp only [hji11]; rfl) | rfl | (simp only [List.length_drop, List.length_take]; rfl)) ?_; (with_reducible refine (spec_AnPlain.calls kj4 _ _ (l0.take ((ji11) : Int).toNat) t142 _ ?side1 ?side2 A14.out).mono ?_); (case side1 => repeat (first | exact (Kd.C_below HR141.out HB.out) | (with_reducible refine Kd.C_alloc ?_ _) | (with_reducible refine Kd.C_drewN ?_ _) | (with_reducible refine Kd.C_drew ?_))); (case side2 => exact HC141.out); rintro e w31 ⟨rfl, hb⟩; refine ⟨_, rfl, ?_⟩; have n0_ := Aside0.mk (below_step (by repeat (first | (with_reducible first | exact HB.out | apply below_alloc | apply pw_below_drewN | apply below_drew1) | exact HB.out)) hb); clear HB; have HB := n0_; clear n0_; (try clear hb); (try clear hb2); (try clear hk); (try clear hi)) | ((with_reducible refine gate_callee (f := 16) rfl ?_); refine goesL_ (some 37) rfl rfl Tryz.func16 (by kernel_rfl) rfl #[.slice A1 l1.length c1, .slice A2 l2.length c2, .slice none 0 0] rfl (by (try simp only [List.map_toArray, List.map_cons, List.map_nil]); first | done | rfl | (simp only [List.length_drop, List.length_take]; rfl)) ?_; (refine (laws_idSmall.calls kj4 _ _ l1 _ _ l2 _ _ ([] : List Int) t143 _ ?side1 ?side2 ?side3 ?side4 ?side5 ?side6 A15.out).mono ?_); (case side1 => repeat (first | exact (Kd.C_below HR1.out HB.out) | (with_reducible refine Kd.C_alloc ?_ _) | (with_reducible refine Kd.C_drewN ?_ _) | (with_reducible refine Kd.C_drew ?_))); (case side2 => exact HC1.out); (case side3 => repeat (first | exact (Kd.C_below HR2.out HB.out) | (with_reducible refine Kd.C_alloc ?_ _) | (with_reducible refine Kd.C_drewN ?_ _) | (with_reducible refine Kd.C_drew ?_))); (case side4 => exact HC2.out); (case side5 => exact Kd.C_nil _ _); (case side6 => exact Nat.le_refl _); rintro e w32 ⟨v144, rfl, ho0, hb⟩; refine ⟨_, rfl, ?_⟩; have n0_ := Aside0.mk (Kd.R_lower ho0 (below_size (by repeat (first | (with_reducible first | exact HB.out | apply below_alloc | apply pw_below_drewN | apply below_drew1) | exact HB.out)))); have n1_ := Aside0.mk (below_step (by repeat (first | (with_reducible first | exact HB.out | apply below_alloc | apply pw_below_drewN | apply below_drew1) | exact HB.out)) hb); clear HB; have HO145 := n0_; have HB := n1_; clear n0_ n1_; (try clear hb); (try clear hb2); (try clear hk); (try clear hi); (try clear ho0); obtain ⟨i033, hi033, _, hsz33, _⟩ := info_parts info5; obtain ⟨hcut33, hA33, hC33⟩ := print_take_of (P := Tryz.prog) (Value.int .u8) 0 22 5 .i64 Tryz.underlying22 hi033 hsz33 A3 c3 l3 (ji16) (of_decide_eq_true (by first | (with_reducible assumption) | assumption)) (of_decide_eq_true (by first | (with_reducible assumption) | assumption)) HC3.out; have HR146 := Aside0.mk (Kd.C_of_reads (h1 := fun _ => rfl) (hA33 _ (Kd.reads_of_C HR3.out))); have HC146 := Aside0.mk hC33; clear hA33 hC33 hi033 hsz33) | ((with_reducible refine gate_callee (f := 14) rfl ?_); refine goesL_ (some 40) rfl rfl Tryz.func14 (by kernel_rfl) rfl #[.slice A3 (l3.take ((ji16) : Int).toNat).length c3] rfl (by (try simp only [List.map_toArray, List.map_cons, List.map_nil]); first | done | (rw [show (l3.take ((ji16) : Int).toNat).length = (ji16).toNat from (by rw [List.length_take]; have h_ : ((ji16) : Int) ≤ (l3.length : Int) := of_decide_eq_true (by first | (with_reducible assumption) | assumption); omega)] <;> rfl) | (simp only [hji16]; rfl) | rfl | (simp only [List.length_drop, List.length_take]; rfl)) ?_; (with_reducible refine (spec_AnPlain.calls kj4 _ _ (l3.take ((ji16) : Int).toNat) t147 _ ?side1 ?side2 A19.out).mono ?_); (case side1 => repeat (first | exact (Kd.C_below HR146.out HB.out) | (with_reducible refine Kd.C_alloc ?_ _) | (with_reducible refine Kd.C_drewN ?_ _) | (with_reducible refine Kd.C_drew ?_))); (case side2 => exact HC146.out); rintro e w34 ⟨rfl, hb⟩; refine ⟨_, rfl, ?_⟩; have n0_ := Aside0.mk (Kd.R_below (by (with_reducible repeat (first | apply Kd.R_alloc | apply Kd.R_drewN | apply Kd.R_drew)); exact HO145.out) hb); have n1_ := Aside0.mk (below_step (by repeat (first | (with_reducible first | exact HB.out | apply below_alloc | apply pw_below_drewN | apply below_drew1) | exact HB.out)) hb); clear HO145; clear HB; have HO145 := n0_; have HB := n1_; clear n0_ n1_; (try clear hb); (try clear hb2); (try clear hk); (try clear hi); obtain ⟨Ao35, co35, eo35⟩ := Kd.R_slice HO145.out; subst eo35) | ((with_reducible refine gate_callee (f := 18) rfl ?_); refine goesL_ (some 45) rfl rfl Tryz.func18 (by kernel_rfl) rfl #[.string t142, .int .u64 0, .slice Ao35 t143.length co35] rfl (by (try simp only [List.map_toArray, List.map_cons, List.map_nil]); first | done | rfl | (simp only [List.length_drop, List.length_take]; rfl)) ?_; (with_reducible refine (spec_IdSymbol.calls kj4 t142 0 _ _ t143 t148 _ ?side1 ?side2 (show DoorIs _ from ?side3) A21.out).mono ?_); (case side1 => repeat (first | exact (Kd.R_reads' HO145.out).2.2 | (with_reducible refine Kd.C_alloc ?_ _) | (with_reducible refine Kd.C_drewN ?_ _) | (with_reducible refine Kd.C_drew ?_))); (case side2 => exact (Kd.R_reads' HO145.out).2.1); (case side3 => exact Stays.below hT_ (by first | (repeat (first | (with_reducible first | exact HB.out | apply below_alloc | apply pw_below_drewN | apply below_drew1) | exact HB.out)) | (repeat (first | exact Below.refl _ _ | apply below_drew1 | apply pw_below_drewN)))); rintro e w36 ⟨rfl, hb⟩; refine ⟨_, rfl, ?_⟩; have n0_ := Aside0.mk (Kd.R_below (by (with_reducible repeat (first | apply Kd.R_alloc | apply Kd.R_drewN | apply Kd.R_drew)); exact HO145.out) hb); have n1_ := Aside0.mk (below_step (by repeat (first | (with_reducible first | exact HB.out | apply below_alloc | apply pw_below_drewN | apply below_drew1) | exact HB.out)) hb); clear HO145; clear HB; have HO145 := n0_; have HB := n1_; clear n0_ n1_; (try clear hb); (try clear hb2); (try clear hk); (try clear hi)) | ((with_reducible refine gate_callee (f := 17) rfl ?_); refine goesL_ (some 50) rfl rfl Tryz.func17 (by kernel_rfl) rfl #[.string (((⟨#[95, 82]⟩ : ByteArray) ++ t148) ++ ((⟨#[46]⟩ : ByteArray) ++ t147)), .agg #[.bool false, .bool false, .bool false, .bool false, .bool false, .bool false, .bool true, .int .i64 0]] rfl (by (try simp only [List.map_toArray, List.map_cons, List.map_nil]); first | done | rfl | (simp only [List.length_drop, List.length_take]; rfl)) ?_; (with_reducible refine (impl_Told.calls (((⟨#[95, 82]⟩ : ByteArray) ++ t148) ++ ((⟨#[46]⟩ : ByteArray) ++ t147)) false false false false false false true 0 t149 t150 _ (show DoorIs _ from ?side1) A24.out).mono ?_); (case side1 => exact Stays.below hT_ (by first | (repeat (first | (with_reducible first | exact HB.out | apply below_alloc | apply pw_below_drewN | apply below_drew1) | exact HB.out)) | (repeat (first | exact Below.refl _ _ | apply below_drew1 | apply pw_below_drewN)))); rintro e w37 ⟨rfl, hb⟩; refine ⟨_, rfl, ?_⟩; have n0_ := Aside0.mk (Kd.R_below (by (with_reducible repeat (first | apply Kd.R_alloc | apply Kd.R_drewN | apply Kd.R_drew)); exact HO145.out) hb); have n1_ := Aside0.mk (below_step (by repeat (first | (with_reducible first | exact HB.out | apply below_alloc | apply pw_below_drewN | apply below_drew1) | exact HB.out)) hb); clear HO145; clear HB; have HO145 := n0_; have HB := n1_; clear n0_ n1_; (try clear hb); (try clear hb2); (try clear hk); (try clear hi)) | (go_at_call 19; (with_reducible refine (spec_IdText.calls kj4 t142 _ _ t143 t151 _ ?side1 ?side2 (show DoorIs _ from ?side3) A26.out).mono ?_); (case side1 => repeat (first | exact (Kd.R_reads' HO145.out).2.2 | (with_reducible refine Kd.C_alloc ?_ _) | (with_reducible refine Kd.C_drewN ?_ _) | (with_reducible refine Kd.C_drew ?_))); (case side2 => exact (Kd.R_reads' HO145.out).2.1); (case side3 => exact Stays.below hT_ (by first | (repeat (first | (with_reducible first | exact HB.out | apply below_alloc | apply pw_below_drewN | apply below_drew1) | exact HB.out)) | (repeat (first | exact Below.refl _ _ | apply below_drew1 | apply pw_below_drewN)))); rintro e w38 ⟨rfl, hb⟩; have n0_ := Aside0.mk (Kd.R_below (by (with_reducible repeat (first | apply Kd.R_alloc | apply Kd.R_drewN | apply Kd.R_drew)); exact HO145.out) hb); have n1_ := Aside0.mk (below_step (by repeat (first | (with_reducible first | exact HB.out | apply below_alloc | apply pw_below_drewN | apply below_drew1) | exact HB.out)) hb); clear HO145; clear HB; have HO145 := n0_; have HB := n1_; clear n0_ n1_; (try clear hb); (try clear hb2); (try clear hk); (try clear hi)))
                              go_ret
                              exact ⟨by first | rfl | (simp [errW_none, errW_some] <;> rfl) | (simp only [← hji11, ← hji16]; first | rfl | (simp [errW_none, errW_some] <;> rfl)) | (simp [*, errW_none, errW_some] <;> rfl), by repeat (first | (with_reducible first | exact HB.out | apply below_alloc | apply pw_below_drewN | apply below_drew1) | exact HB.out)⟩
                            · rw [if_neg c29] at H
                              exact absurd H (by simp)
                          · rw [if_neg c28] at H
                            exact absurd H (by simp)
                        · rw [if_neg c27] at H
                          exact absurd H (by simp)
                      · rw [if_neg c25] at H
                        have c25b0 : (t150 == 0) = false := beq_eq_false_iff_ne.mpr c25
                        have c25b1 : (t150 != 0) = true := bne_iff_ne.mpr c25
                        obtain rfl := Option.some.inj H
                        obtain ⟨i039, hi039, _, hsz39, _⟩ := info_parts info5
                        obtain ⟨hcut39, hA39, hC39⟩ := print_take_of (P := Tryz.prog) (Value.int .u8) 0 22 5 .i64 Tryz.underlying22 hi039 hsz39 A0 c0 l0 (ji11) (of_decide_eq_true (by first | (with_reducible assumption) | assumption)) (of_decide_eq_true (by first | (with_reducible assumption) | assumption)) HC0.out
                        have HR141 := Aside0.mk (Kd.C_of_reads (h1 := fun _ => rfl) (hA39 _ (Kd.reads_of_C HR0.out)))
                        have HC141 := Aside0.mk hC39
                        clear hA39 hC39 hi039 hsz39
                        go_wp2_with (first | (go_at_call 15; refine (idCut_at _ _ _ _ _ _ (by assumption) (by assumption)).mono ?_; rintro e w_ ⟨rfl, rfl⟩) | ((with_reducible refine gate_callee (f := 14) rfl ?_); refine goesL_ (some 34) rfl rfl Tryz.func14 (by kernel_rfl) rfl #[.slice A0 (l0.take ((ji11) : Int).toNat).length c0] rfl (by (try simp only [List.map_toArray, List.map_cons, List.map_nil]); first | done | (rw [show (l0.take ((ji11) : Int).toNat).length = (ji11).toNat from (by rw [List.length_take]; have h_ : ((ji11) : Int) ≤ (l0.length : Int) := of_decide_eq_true (by first | (with_reducible assumption) | assumption); omega)] <;> rfl) | (simp only [hji11]; rfl) | rfl | (simp only [List.length_drop, List.length_take]; rfl)) ?_; (with_reducible refine (spec_AnPlain.calls kj4 _ _ (l0.take ((ji11) : Int).toNat) t142 _ ?side1 ?side2 A14.out).mono ?_); (case side1 => repeat (first | exact (Kd.C_below HR141.out HB.out) | (with_reducible refine Kd.C_alloc ?_ _) | (with_reducible refine Kd.C_drewN ?_ _) | (with_reducible refine Kd.C_drew ?_))); (case side2 => exact HC141.out); rintro e w40 ⟨rfl, hb⟩; refine ⟨_, rfl, ?_⟩; have n0_ := Aside0.mk (below_step (by repeat (first | (with_reducible first | exact HB.out | apply below_alloc | apply pw_below_drewN | apply below_drew1) | exact HB.out)) hb); clear HB; have HB := n0_; clear n0_; (try clear hb); (try clear hb2); (try clear hk); (try clear hi)) | ((with_reducible refine gate_callee (f := 16) rfl ?_); refine goesL_ (some 37) rfl rfl Tryz.func16 (by kernel_rfl) rfl #[.slice A1 l1.length c1, .slice A2 l2.length c2, .slice none 0 0] rfl (by (try simp only [List.map_toArray, List.map_cons, List.map_nil]); first | done | rfl | (simp only [List.length_drop, List.length_take]; rfl)) ?_; (refine (laws_idSmall.calls kj4 _ _ l1 _ _ l2 _ _ ([] : List Int) t143 _ ?side1 ?side2 ?side3 ?side4 ?side5 ?side6 A15.out).mono ?_); (case side1 => repeat (first | exact (Kd.C_below HR1.out HB.out) | (with_reducible refine Kd.C_alloc ?_ _) | (with_reducible refine Kd.C_drewN ?_ _) | (with_reducible refine Kd.C_drew ?_))); (case side2 => exact HC1.out); (case side3 => repeat (first | exact (Kd.C_below HR2.out HB.out) | (with_reducible refine Kd.C_alloc ?_ _) | (with_reducible refine Kd.C_drewN ?_ _) | (with_reducible refine Kd.C_drew ?_))); (case side4 => exact HC2.out); (case side5 => exact Kd.C_nil _ _); (case side6 => exact Nat.le_refl _); rintro e w41 ⟨v144, rfl, ho0, hb⟩; refine ⟨_, rfl, ?_⟩; have n0_ := Aside0.mk (Kd.R_lower ho0 (below_size (by repeat (first | (with_reducible first | exact HB.out | apply below_alloc | apply pw_below_drewN | apply below_drew1) | exact HB.out)))); have n1_ := Aside0.mk (below_step (by repeat (first | (with_reducible first | exact HB.out | apply below_alloc | apply pw_below_drewN | apply below_drew1) | exact HB.out)) hb); clear HB; have HO145 := n0_; have HB := n1_; clear n0_ n1_; (try clear hb); (try clear hb2); (try clear hk); (try clear hi); (try clear ho0); obtain ⟨i042, hi042, _, hsz42, _⟩ := info_parts info5; obtain ⟨hcut42, hA42, hC42⟩ := print_take_of (P := Tryz.prog) (Value.int .u8) 0 22 5 .i64 Tryz.underlying22 hi042 hsz42 A3 c3 l3 (ji16) (of_decide_eq_true (by first | (with_reducible assumption) | assumption)) (of_decide_eq_true (by first | (with_reducible assumption) | assumption)) HC3.out; have HR146 := Aside0.mk (Kd.C_of_reads (h1 := fun _ => rfl) (hA42 _ (Kd.reads_of_C HR3.out))); have HC146 := Aside0.mk hC42; clear hA42 hC42 hi042 hsz42) | ((with_reducible refine gate_callee (f := 14) rfl ?_); refine goesL_ (some 40) rfl rfl Tryz.func14 (by kernel_rfl) rfl #[.slice A3 (l3.take ((ji16) : Int).toNat).length c3] rfl (by (try simp only [List.map_toArray, List.map_cons, List.map_nil]); first | done | (rw [show (l3.take ((ji16) : Int).toNat).length = (ji16).toNat from (by rw [List.length_take]; have h_ : ((ji16) : Int) ≤ (l3.length : Int) := of_decide_eq_true (by first | (with_reducible assumption) | assumption); omega)] <;> rfl) | (simp only [hji16]; rfl) | rfl | (simp only [List.length_drop, List.length_take]; rfl)) ?_; (with_reducible refine (spec_AnPlain.calls kj4 _ _ (l3.take ((ji16) : Int).toNat) t147 _ ?side1 ?side2 A19.out).mono ?_); (case side1 => repeat (first | exact (Kd.C_below HR146.out HB.out) | (with_reducible refine Kd.C_alloc ?_ _) | (with_reducible refine Kd.C_drewN ?_ _) | (with_reducible refine Kd.C_drew ?_))); (case side2 => exact HC146.out); rintro e w43 ⟨rfl, hb⟩; refine ⟨_, rfl, ?_⟩; have n0_ := Aside0.mk (Kd.R_below (by (with_reducible repeat (first | apply Kd.R_alloc | apply Kd.R_drewN | apply Kd.R_drew)); exact HO145.out) hb); have n1_ := Aside0.mk (below_step (by repeat (first | (with_reducible first | exact HB.out | apply below_alloc | apply pw_below_drewN | apply below_drew1) | exact HB.out)) hb); clear HO145; clear HB; have HO145 := n0_; have HB := n1_; clear n0_ n1_; (try clear hb); (try clear hb2); (try clear hk); (try clear hi); obtain ⟨Ao44, co44, eo44⟩ := Kd.R_slice HO145.out; subst eo44) | ((with_reducible refine gate_callee (f := 18) rfl ?_); refine goesL_ (some 45) rfl rfl Tryz.func18 (by kernel_rfl) rfl #[.string t142, .int .u64 0, .slice Ao44 t143.length co44] rfl (by (try simp only [List.map_toArray, List.map_cons, List.map_nil]); first | done | rfl | (simp only [List.length_drop, List.length_take]; rfl)) ?_; (with_reducible refine (spec_IdSymbol.calls kj4 t142 0 _ _ t143 t148 _ ?side1 ?side2 (show DoorIs _ from ?side3) A21.out).mono ?_); (case side1 => repeat (first | exact (Kd.R_reads' HO145.out).2.2 | (with_reducible refine Kd.C_alloc ?_ _) | (with_reducible refine Kd.C_drewN ?_ _) | (with_reducible refine Kd.C_drew ?_))); (case side2 => exact (Kd.R_reads' HO145.out).2.1); (case side3 => exact Stays.below hT_ (by first | (repeat (first | (with_reducible first | exact HB.out | apply below_alloc | apply pw_below_drewN | apply below_drew1) | exact HB.out)) | (repeat (first | exact Below.refl _ _ | apply below_drew1 | apply pw_below_drewN)))); rintro e w45 ⟨rfl, hb⟩; refine ⟨_, rfl, ?_⟩; have n0_ := Aside0.mk (Kd.R_below (by (with_reducible repeat (first | apply Kd.R_alloc | apply Kd.R_drewN | apply Kd.R_drew)); exact HO145.out) hb); have n1_ := Aside0.mk (below_step (by repeat (first | (with_reducible first | exact HB.out | apply below_alloc | apply pw_below_drewN | apply below_drew1) | exact HB.out)) hb); clear HO145; clear HB; have HO145 := n0_; have HB := n1_; clear n0_ n1_; (try clear hb); (try clear hb2); (try clear hk); (try clear hi)) | ((with_reducible refine gate_callee (f := 17) rfl ?_); refine goesL_ (some 50) rfl rfl Tryz.func17 (by kernel_rfl) rfl #[.string (((⟨#[95, 82]⟩ : ByteArray) ++ t148) ++ ((⟨#[46]⟩ : ByteArray) ++ t147)), .agg #[.bool false, .bool false, .bool false, .bool false, .bool false, .bool false, .bool true, .int .i64 0]] rfl (by (try simp only [List.map_toArray, List.map_cons, List.map_nil]); first | done | rfl | (simp only [List.length_drop, List.length_take]; rfl)) ?_; (with_reducible refine (impl_Told.calls (((⟨#[95, 82]⟩ : ByteArray) ++ t148) ++ ((⟨#[46]⟩ : ByteArray) ++ t147)) false false false false false false true 0 t149 t150 _ (show DoorIs _ from ?side1) A24.out).mono ?_); (case side1 => exact Stays.below hT_ (by first | (repeat (first | (with_reducible first | exact HB.out | apply below_alloc | apply pw_below_drewN | apply below_drew1) | exact HB.out)) | (repeat (first | exact Below.refl _ _ | apply below_drew1 | apply pw_below_drewN)))); rintro e w46 ⟨rfl, hb⟩; refine ⟨_, rfl, ?_⟩; have n0_ := Aside0.mk (Kd.R_below (by (with_reducible repeat (first | apply Kd.R_alloc | apply Kd.R_drewN | apply Kd.R_drew)); exact HO145.out) hb); have n1_ := Aside0.mk (below_step (by repeat (first | (with_reducible first | exact HB.out | apply below_alloc | apply pw_below_drewN | apply below_drew1) | exact HB.out)) hb); clear HO145; clear HB; have HO145 := n0_; have HB := n1_; clear n0_ n1_; (try clear hb); (try clear hb2); (try clear hk); (try clear hi)))
                        go_ret
                        exact ⟨by first | rfl | (simp [errW_none, errW_some] <;> rfl) | (simp only [← hji11, ← hji16]; first | rfl | (simp [errW_none, errW_some] <;> rfl)) | (simp [*, errW_none, errW_some] <;> rfl), by repeat (first | (with_reducible first | exact HB.out | apply below_alloc | apply pw_below_drewN | apply below_drew1) | exact HB.out)⟩
                    · rw [if_neg c23] at H
                      exact absurd H (by simp)
                  · rw [if_neg c22] at H
                    exact absurd H (by simp)
                · rw [if_neg c20] at H
                  exact absurd H (by simp)
              · rw [if_neg c18] at H
                exact absurd H (by simp)
            · rw [if_neg c17] at H
              exact absurd H (by simp)
          · rw [if_neg c13] at H
            exact absurd H (by simp)
        · rw [if_neg c12] at H
          exact absurd H (by simp)

/-- THE ONE PURE STATEMENT of laws_FnSuffixLLVM: yours. -/
def laws_FnSuffixLLVM.Pure : Prop := ∀ (l0 : List Int) (l1 : List (List Int)) (l2 : List Int) (l3 : List Int), l0.length ≤ maxLen → l0.length * 1 ≤ 140737488351232 → (∀ x ∈ l0, (Lit.int .u8 x).wf = true) → l1.length ≤ maxLen → (∀ r ∈ l1, r.length ≤ maxLen ∧ ∀ x ∈ r, (Lit.int .u8 x).wf = true) → l2.length ≤ maxLen → l2.length * 1 ≤ 140737488351232 → (∀ x ∈ l2, (Lit.int .u8 x).wf = true) → l3.length ≤ maxLen → l3.length * 1 ≤ 140737488351232 → (∀ x ∈ l3, (Lit.int .u8 x).wf = true) → ∃ k, laws_FnSuffixLLVM.f k l0 l1 l2 l3 = some true
theorem laws_FnSuffixLLVM.walk (P : laws_FnSuffixLLVM.Pure) (a0 : Option Addr) (len0 cap0 : Nat) (z0 : List Int) (a1 : Option Addr) (cap1 : Nat) (l1 : List (List Int)) (a2 : Option Addr) (len2 cap2 : Nat) (z2 : List Int) (a3 : Option Addr) (len3 cap3 : Nat) (z3 : List Int) (w : World) (hT_ : DoorIs w) (w0 : (a0 = none ∧ len0 = 0 ∧ cap0 = 0 ∧ z0 = []) ∨ ∃ x, a0 = some x ∧ len0 ≤ cap0 ∧ cap0 ≤ maxLen ∧ z0.length = cap0 ∧ (∀ i, i < z0.length → w.cell? (x.add i) = some (.int .u8 (z0.getD i 0))) ∧ ∀ n ∈ z0, (Lit.int .u8 n).wf = true) (y0 : len0 * 1 ≤ 140737488351232) (w1 : (Kd.slice 5 (Kd.int .u8)).C w a1 l1.length l1) (x1 : l1.length ≤ maxLen) (y1 : ∀ r ∈ l1, r.length ≤ maxLen ∧ ∀ x ∈ r, (Lit.int .u8 x).wf = true) (c1 : l1.length ≤ cap1) (w2 : (a2 = none ∧ len2 = 0 ∧ cap2 = 0 ∧ z2 = []) ∨ ∃ x, a2 = some x ∧ len2 ≤ cap2 ∧ cap2 ≤ maxLen ∧ z2.length = cap2 ∧ (∀ i, i < z2.length → w.cell? (x.add i) = some (.int .u8 (z2.getD i 0))) ∧ ∀ n ∈ z2, (Lit.int .u8 n).wf = true) (y2 : len2 * 1 ≤ 140737488351232) (w3 : (a3 = none ∧ len3 = 0 ∧ cap3 = 0 ∧ z3 = []) ∨ ∃ x, a3 = some x ∧ len3 ≤ cap3 ∧ cap3 ≤ maxLen ∧ z3.length = cap3 ∧ (∀ i, i < z3.length → w.cell? (x.add i) = some (.int .u8 (z3.getD i 0))) ∧ ∀ n ∈ z3, (Lit.int .u8 n).wf = true) (y3 : len3 * 1 ≤ 140737488351232) :
    Calls Tryz.prog 3 #[.slice a0 len0 cap0, .slice a1 l1.length cap1, .slice a2 len2 cap2, .slice a3 len3 cap3] w fun e w' => e = .returned (.bool true) ∧ Below w.heap.size w w' := by
  obtain ⟨l0, rfl, hr0, hm0, hw0, hc0⟩ := ReadsInt.ofRowC w0
  obtain ⟨l2, rfl, hr2, hm2, hw2, hc2⟩ := ReadsInt.ofRowC w2
  obtain ⟨l3, rfl, hr3, hm3, hw3, hc3⟩ := ReadsInt.ofRowC w3
  obtain ⟨k, h⟩ := P l0 l1 l2 l3 hm0 y0 hw0 x1 y1 hm2 y2 hw2 hm3 y3 hw3
  refine (laws_FnSuffixLLVM.calls k _ _ l0 _ _ l1 _ _ l2 _ _ l3 true w (Kd.C_of_reads (d := (0 : Int)) (h1 := fun _ => rfl) hr0) hc0 w1 c1 (Kd.C_of_reads (d := (0 : Int)) (h1 := fun _ => rfl) hr2) hc2 (Kd.C_of_reads (d := (0 : Int)) (h1 := fun _ => rfl) hr3) hc3 hT_ h).mono ?_
  rintro e w' ⟨rfl, hd⟩
  exact ⟨rfl, hd⟩

end Go.Proofs.YtdmkdclockmjbaaGreatDoor.PFnSuffixLLVM
