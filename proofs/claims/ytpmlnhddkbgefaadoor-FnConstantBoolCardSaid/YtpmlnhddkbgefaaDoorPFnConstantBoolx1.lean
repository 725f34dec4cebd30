/- Written by a program of this session (wip/tools/myprint.py) with the kit's print: contracts of the functions that one statement reaches; functions that are proved by hand are taken as printed. Conditions: none. -/
import Derived.Test.YtpmlnhddkbgefaaDoorPFnConstantBoolx0
namespace Go.Proofs.YtpmlnhddkbgefaaDoor.PFnConstantBool
open Go.RowKit Go.Proofs.YtpmlnhddkbgefaaDoorW.PrintWords Go.Proofs.YtpmlnhddkbgefaaDoorW.PrintLast Go.Proofs.YtpmlnhddkbgefaaDoorW.PrintMore
attribute [local go_sem] max2_int min2_int max_two min_two max_three min_three max_four min_four   -- for this text's walks alone
set_option linter.unusedVariables false
set_option linter.unusedSimpArgs false

/-! ### laws_constantIs: function 22 -/
def laws_constantIs.f (a0 : ByteArray) (a1 : ByteArray) (a2 : ByteArray) : Option (Bool) := if a0.size + a1.size ≤ 9223372036854775807 then ((impl_Constant.f (a0 ++ a1)).bind fun bt101 => (if bt101.2.2 = true then (if bt101.1.toList = a2.toList then (some (bt101.2.1.toList == a1.toList)) else (some false)) else (some false))) else (none)
set_option maxHeartbeats 8000000 in
set_option maxRecDepth 100000 in
theorem laws_constantIs.calls (a0 : ByteArray) (a1 : ByteArray) (a2 : ByteArray) (r : Bool) (w : World) (hT_ : StrIs w) (h : laws_constantIs.f a0 a1 a2 = some r) :
    Calls Tryd.prog 22 #[.string a0, .string a1, .string a2] w fun e w' => e = .returned (.bool r) ∧ Below w.heap.size w w' := by
  have HB := Aside0.mk (Below.refl w.heap.size w)
  have H : (if a0.size + a1.size ≤ 9223372036854775807 then ((impl_Constant.f (a0 ++ a1)).bind fun bt101 => (if bt101.2.2 = true then (if bt101.1.toList = a2.toList then (some (bt101.2.1.toList == a1.toList)) else (some false)) else (some false))) else (none)) = some r := h
  clear h
  by_cases c4 : a0.size + a1.size ≤ 9223372036854775807
  · rw [if_pos c4] at H
    have c4b0 := eq_true c4
    have c4b1 : decide (a0.size + a1.size ≤ 9223372036854775807) = true := decide_eq_true c4
    try have c4b2 : (9223372036854775807 < a0.size + a1.size) = False := eq_false (Nat.not_lt.2 c4)
    replace H := Option.bind_eq_some_iff.mp H
    obtain ⟨⟨t101, t102, t103⟩, A50, H⟩ := H
    replace H : (if t103 = true then (if t101.toList = a2.toList then (some (t102.toList == a1.toList)) else (some false)) else (some false)) = some r := H
    have A5 := Aside0.mk A50
    clear A50
    by_cases c6 : t103 = true
    · subst c6
      have H1 : (if t101.toList = a2.toList then (some (t102.toList == a1.toList)) else (some false)) = some r := by rw [if_pos rfl] at H; exact H
      clear H
      have H := H1
      clear H1
      by_cases c7 : t101.toList = a2.toList
      · rw [if_pos c7] at H
        have c7b0 : (t101.toList == a2.toList) = true := beq_iff_eq.mpr c7
        have c7b1 : (t101.toList != a2.toList) = false := bne_eq_false_iff_eq.mpr c7
        clear c7
        obtain rfl := Option.some.inj H
        go_enter Tryd.func22, Tryd.ntmps22
        go_wp2_with (first | ((with_reducible refine gate_callee (f := 16) rfl ?_); refine goesL_ (some 14) rfl rfl Tryd.func16 (by kernel_rfl) rfl #[.string (a0 ++ a1)] rfl (by (try simp only [List.map_toArray, List.map_cons, List.map_nil]); first | done | rfl | (simp only [List.length_drop, List.length_take]; rfl)) ?_; (with_reducible refine (impl_Constant.calls (a0 ++ a1) t101 t102 true _ (show StrIs _ from ?side1) A5.out).mono ?_); (case side1 => exact Stays.below hT_ (by first | (repeat (first | (with_reducible first | exact HB.out | apply below_alloc | apply pw_below_drewN | apply below_drew1) | exact HB.out)) | (repeat (first | exact Below.refl _ _ | apply below_drew1 | apply pw_below_drewN)))); rintro e w8 ⟨rfl, hb⟩; refine ⟨_, rfl, ?_⟩; have n0_ := Aside0.mk (below_step (by repeat (first | (with_reducible first | exact HB.out | apply below_alloc | apply pw_below_drewN | apply below_drew1) | exact HB.out)) hb); clear HB; have HB := n0_; clear n0_; (try clear hb); (try clear hb2); (try clear hk); (try clear hi)))
        go_ret
        exact ⟨by first | rfl | (simp [errW_none, errW_some] <;> rfl) | (simp [*, errW_none, errW_some] <;> rfl), by repeat (first | (with_reducible first | exact HB.out | apply below_alloc | apply pw_below_drewN | apply below_drew1) | exact HB.out)⟩
      · rw [if_neg c7] at H
        have c7b0 : (t101.toList == a2.toList) = false := beq_eq_false_iff_ne.mpr c7
        have c7b1 : (t101.toList != a2.toList) = true := bne_iff_ne.mpr c7
        obtain rfl := Option.some.inj H
        go_enter Tryd.func22, Tryd.ntmps22
        go_wp2_with (first | ((with_reducible refine gate_callee (f := 16) rfl ?_); refine goesL_ (some 14) rfl rfl Tryd.func16 (by kernel_rfl) rfl #[.string (a0 ++ a1)] rfl (by (try simp only [List.map_toArray, List.map_cons, List.map_nil]); first | done | rfl | (simp only [List.length_drop, List.length_take]; rfl)) ?_; (with_reducible refine (impl_Constant.calls (a0 ++ a1) t101 t102 true _ (show StrIs _ from ?side1) A5.out).mono ?_); (case side1 => exact Stays.below hT_ (by first | (repeat (first | (with_reducible first | exact HB.out | apply below_alloc | apply pw_below_drewN | apply below_drew1) | exact HB.out)) | (repeat (first | exact Below.refl _ _ | apply below_drew1 | apply pw_below_drewN)))); rintro e w9 ⟨rfl, hb⟩; refine ⟨_, rfl, ?_⟩; have n0_ := Aside0.mk (below_step (by repeat (first | (with_reducible first | exact HB.out | apply below_alloc | apply pw_below_drewN | apply below_drew1) | exact HB.out)) hb); clear HB; have HB := n0_; clear n0_; (try clear hb); (try clear hb2); (try clear hk); (try clear hi)))
        go_ret
        exact ⟨by first | rfl | (simp [errW_none, errW_some] <;> rfl) | (simp [*, errW_none, errW_some] <;> rfl), by repeat (first | (with_reducible first | exact HB.out | apply below_alloc | apply pw_below_drewN | apply below_drew1) | exact HB.out)⟩
    · replace c6 := Bool.eq_false_iff.mpr c6
      subst c6
      have H1 : (some false) = some r := by rw [if_neg (show ¬ (false = true) by decide)] at H; exact H
      clear H
      have H := H1
      clear H1
      obtain rfl := Option.some.inj H
      go_enter Tryd.func22, Tryd.ntmps22
      go_wp2_with (first | ((with_reducible refine gate_callee (f := 16) rfl ?_); refine goesL_ (some 14) rfl rfl Tryd.func16 (by kernel_rfl) rfl #[.string (a0 ++ a1)] rfl (by (try simp only [List.map_toArray, List.map_cons, List.map_nil]); first | done | rfl | (simp only [List.length_drop, List.length_take]; rfl)) ?_; (with_reducible refine (impl_Constant.calls (a0 ++ a1) t101 t102 false _ (show StrIs _ from ?side1) A5.out).mono ?_); (case side1 => exact Stays.below hT_ (by first | (repeat (first | (with_reducible first | exact HB.out | apply below_alloc | apply pw_below_drewN | apply below_drew1) | exact HB.out)) | (repeat (first | exact Below.refl _ _ | apply below_drew1 | apply pw_below_drewN)))); rintro e w10 ⟨rfl, hb⟩; refine ⟨_, rfl, ?_⟩; have n0_ := Aside0.mk (below_step (by repeat (first | (with_reducible first | exact HB.out | apply below_alloc | apply pw_below_drewN | apply below_drew1) | exact HB.out)) hb); clear HB; have HB := n0_; clear n0_; (try clear hb); (try clear hb2); (try clear hk); (try clear hi)))
      go_ret
      exact ⟨by first | rfl | (simp [errW_none, errW_some] <;> rfl) | (simp [*, errW_none, errW_some] <;> rfl), by repeat (first | (with_reducible first | exact HB.out | apply below_alloc | apply pw_below_drewN | apply below_drew1) | exact HB.out)⟩
  · rw [if_neg c4] at H
    exact absurd H (by simp)

/-! ### laws_FnConstantBool: function 5 -/
def laws_FnConstantBool.f (a0 : ByteArray) : Option (Bool) := if (a0.size : Int) > 2147483647 then (some true) else ((laws_constantIs.f (⟨#[98, 48, 95]⟩ : ByteArray) a0 (⟨#[102, 97, 108, 115, 101]⟩ : ByteArray)).bind fun t104 => (if t104 = true then ((laws_constantIs.f (⟨#[98, 49, 95]⟩ : ByteArray) a0 (⟨#[116, 114, 117, 101]⟩ : ByteArray)).bind fun t105 => (some t105)) else (some false)))
set_option maxHeartbeats 8000000 in
set_option maxRecDepth 100000 in
theorem laws_FnConstantBool.calls (a0 : ByteArray) (r : Bool) (w : World) (hT_ : StrIs w) (h : laws_FnConstantBool.f a0 = some r) :
    Calls Tryd.prog 5 #[.string a0] w fun e w' => e = .returned (.bool r) ∧ Below w.heap.size w w' := by
  have HB := Aside0.mk (Below.refl w.heap.size w)
  have H : (if (a0.size : Int) > 2147483647 then (some true) else ((laws_constantIs.f (⟨#[98, 48, 95]⟩ : ByteArray) a0 (⟨#[102, 97, 108, 115, 101]⟩ : ByteArray)).bind fun t104 => (if t104 = true then ((laws_constantIs.f (⟨#[98, 49, 95]⟩ : ByteArray) a0 (⟨#[116, 114, 117, 101]⟩ : ByteArray)).bind fun t105 => (some t105)) else (some false)))) = some r := h
  clear h
  by_cases c2 : (a0.size : Int) > 2147483647
  · rw [if_pos c2] at H
    have c2b0 : decide (2147483647 < (a0.size : Int)) = true := decide_eq_true c2
    have c2b1 : decide (2147483647 < a0.size) = true := decide_eq_true (by omega)
    clear c2
    obtain rfl := Option.some.inj H
    go_enter Tryd.func5, Tryd.ntmps5
    go_wp2
    go_ret
    exact ⟨by first | rfl | (simp [errW_none, errW_some] <;> rfl) | (simp [*, errW_none, errW_some] <;> rfl), by repeat (first | (with_reducible first | exact HB.out | apply below_alloc | apply pw_below_drewN | apply below_drew1) | exact HB.out)⟩
  · rw [if_neg c2] at H
    have c2b0 : decide (2147483647 < (a0.size : Int)) = false := decide_eq_false c2
    have c2b1 : decide (2147483647 < a0.size) = false := decide_eq_false (by omega)
    clear c2
    replace H := Option.bind_eq_some_iff.mp H
    obtain ⟨t104, A30, H⟩ := H
    replace H : (if t104 = true then ((laws_constantIs.f (⟨#[98, 49, 95]⟩ : ByteArray) a0 (⟨#[116, 114, 117, 101]⟩ : ByteArray)).bind fun t105 => (some t105)) else (some false)) = some r := H
    have A3 := Aside0.mk A30
    clear A30
    by_cases c4 : t104 = true
    · subst c4
      have H1 : ((laws_constantIs.f (⟨#[98, 49, 95]⟩ : ByteArray) a0 (⟨#[116, 114, 117, 101]⟩ : ByteArray)).bind fun t105 => (some t105)) = some r := by rw [if_pos rfl] at H; exact H
      clear H
      have H := H1
      clear H1
      replace H := Option.bind_eq_some_iff.mp H
      obtain ⟨t105, A50, H⟩ := H
      replace H : (some t105) = some r := H
      have A5 := Aside0.mk A50
      clear A50
      obtain rfl := Option.some.inj H
      go_enter Tryd.func5, Tryd.ntmps5
      go_wp2_with (first | ((with_reducible refine gate_callee (f := 22) rfl ?_); refine goesL_ (some 7) rfl rfl Tryd.func22 (by kernel_rfl) rfl #[.string (⟨#[98, 48, 95]⟩ : ByteArray), .string a0, .string (⟨#[102, 97, 108, 115, 101]⟩ : ByteArray)] rfl (by (try simp only [List.map_toArray, List.map_cons, List.map_nil]); first | done | rfl | (simp only [List.length_drop, List.length_take]; rfl)) ?_; (with_reducible refine (laws_constantIs.calls (⟨#[98, 48, 95]⟩ : ByteArray) a0 (⟨#[102, 97, 108, 115, 101]⟩ : ByteArray) true _ (show StrIs _ from ?side1) A3.out).mono ?_); (case side1 => exact Stays.below hT_ (by first | (repeat (first | (with_reducible first | exact HB.out | apply below_alloc | apply pw_below_drewN | apply below_drew1) | exact HB.out)) | (repeat (first | exact Below.refl _ _ | apply below_drew1 | apply pw_below_drewN)))); rintro e w6 ⟨rfl, hb⟩; refine ⟨_, rfl, ?_⟩; have n0_ := Aside0.mk (below_step (by repeat (first | (with_reducible first | exact HB.out | apply below_alloc | apply pw_below_drewN | apply below_drew1) | exact HB.out)) hb); clear HB; have HB := n0_; clear n0_; (try clear hb); (try clear hb2); (try clear hk); (try clear hi)) | (go_at_call 22; (with_reducible refine (laws_constantIs.calls (⟨#[98, 49, 95]⟩ : ByteArray) a0 (⟨#[116, 114, 117, 101]⟩ : ByteArray) t105 _ (show StrIs _ from ?side1) A5.out).mono ?_); (case side1 => exact Stays.below hT_ (by first | (repeat (first | (with_reducible first | exact HB.out | apply below_alloc | apply pw_below_drewN | apply below_drew1) | exact HB.out)) | (repeat (first | exact Below.refl _ _ | apply below_drew1 | apply pw_below_drewN)))); rintro e w7 ⟨rfl, hb⟩; have n0_ := Aside0.mk (below_step (by repeat (first | (with_reducible first | exact HB.out | apply below_alloc | apply pw_below_drewN | apply below_drew1) | exact HB.out)) hb); clear HB; have HB := n0_; clear n0_; (try clear hb); (try clear hb2); (try clear hk); (try clear hi)))
      go_ret
      exact ⟨by first | rfl | (simp [errW_none, errW_some] <;> rfl) | (simp [*, errW_none, errW_some] <;> rfl), by repeat (first | (with_reducible first | exact HB.out | apply below_alloc | apply pw_below_drewN | apply below_drew1) | exact HB.out)⟩
    · replace c4 := Bool.eq_false_iff.mpr c4
      subst c4
      have H1 : (some false) = some r := by rw [if_neg (show ¬ (false = true) by decide)] at H; exact H
      clear H
      have H := H1
      clear H1
      obtain rfl := Option.some.inj H
      go_enter Tryd.func5, Tryd.ntmps5
      go_wp2_with (first | ((with_reducible refine gate_callee (f := 22) rfl ?_); refine goesL_ (some 7) rfl rfl Tryd.func22 (by kernel_rfl) rfl #[.string (⟨#[98, 48, 95]⟩ : ByteArray), .string a0, .string (⟨#[102, 97, 108, 115, 101]⟩ : ByteArray)] rfl (by (try simp only [List.map_toArray, List.map_cons, List.map_nil]); first | done | rfl | (simp only [List.length_drop, List.length_take]; rfl)) ?_; (with_reducible refine (laws_constantIs.calls (⟨#[98, 48, 95]⟩ : ByteArray) a0 (⟨#[102, 97, 108, 115, 101]⟩ : ByteArray) false _ (show StrIs _ from ?side1) A3.out).mono ?_); (case side1 => exact Stays.below hT_ (by first | (repeat (first | (with_reducible first | exact HB.out | apply below_alloc | apply pw_below_drewN | apply below_drew1) | exact HB.out)) | (repeat (first | exact Below.refl _ _ | apply below_drew1 | apply pw_below_drewN)))); rintro e w8 ⟨rfl, hb⟩; refine ⟨_, rfl, ?_⟩; have n0_ := Aside0.mk (below_step (by repeat (first | (with_reducible first | exact HB.out | apply below_alloc | apply pw_below_drewN | apply below_drew1) | exact HB.out)) hb); clear HB; have HB := n0_; clear n0_; (try clear hb); (try clear hb2); (try clear hk); (try clear hi)))
      go_ret
      exact ⟨by first | rfl | (simp [errW_none, errW_some] <;> rfl) | (simp [*, errW_none, errW_some] <;> rfl), by repeat (first | (with_reducible first | exact HB.out | apply below_alloc | apply pw_below_drewN | apply below_drew1) | exact HB.out)⟩

/-- THE ONE PURE STATEMENT of laws_FnConstantBool: yours. -/
def laws_FnConstantBool.Pure : Prop := ∀ (a0 : ByteArray), a0.size ≤ 140737488351232 → laws_FnConstantBool.f a0 = some true
theorem laws_FnConstantBool.walk (P : laws_FnConstantBool.Pure) (a0 : ByteArray) (w : World) (hT_ : StrIs w) (w0 : a0.size ≤ 140737488351232) :
    Calls Tryd.prog 5 #[.string a0] w fun e w' => e = .returned (.bool true) ∧ Below w.heap.size w w' := by
  have h := P a0 w0
  refine (laws_FnConstantBool.calls a0 true w hT_ h).mono ?_
  rintro e w' ⟨rfl, hd⟩
  exact ⟨rfl, hd⟩

end Go.Proofs.YtpmlnhddkbgefaaDoor.PFnConstantBool
