/- Written by a program of this session (wip/tools/myprint.py) with the kit's print: contracts of the functions that one statement reaches; functions that are proved by hand are taken as printed. Conditions: none. -/
import Derived.Test.YtfblehpiecialaaDoorPFnDecimalReadx0
namespace Go.Proofs.YtfblehpiecialaaDoor.PFnDecimalRead
open Go.RowKit Go.Proofs.YtfblehpiecialaaDoorW.PrintWords Go.Proofs.YtfblehpiecialaaDoorW.PrintLast Go.Proofs.YtfblehpiecialaaDoorW.PrintMore
attribute [local go_sem] max2_int min2_int max_two min_two max_three min_three max_four min_four   -- for this text's walks alone
set_option linter.unusedVariables false
set_option linter.unusedSimpArgs false

/-! ### laws_idAt: function 14 -/
def laws_idAt.f (a0 : Int) (a1 : Int) : Option (Int) := if a1 = 0 then (none) else (some (Int.tmod (wrap64 ((Int.tmod a0 a1) + a1)) a1))
set_option maxHeartbeats 8000000 in
set_option maxRecDepth 100000 in
theorem laws_idAt.calls (a0 : Int) (a1 : Int) (r : Int) (w : World) (h : laws_idAt.f a0 a1 = some r) :
    Calls Tryd.prog 14 #[.int .i64 a0, .int .i64 a1] w fun e w' => e = .returned (.int .i64 r) ∧ Drawn0 w w' := by
  have H : (if a1 = 0 then (none) else (some (Int.tmod (wrap64 ((Int.tmod a0 a1) + a1)) a1))) = some r := h
  clear h
  by_cases c3 : a1 = 0
  · rw [if_pos c3] at H
    exact absurd H (by simp)
  · rw [if_neg c3] at H
    have c3b0 : (a1 == 0) = false := beq_eq_false_iff_ne.mpr c3
    have c3b1 : (a1 != 0) = true := bne_iff_ne.mpr c3
    obtain rfl := Option.some.inj H
    go_enter Tryd.func14, Tryd.ntmps14
    go_wp2
    go_ret
    exact ⟨by first | rfl | (simp; done) | (simp [*]; done), by repeat (first | exact Drawn0.refl _ | apply Drawn0.step)⟩

/-! ### laws_doorDecimal: function 15 -/
def laws_doorDecimal.f (a0 : ByteArray) (a1 : Int) (a2 : ByteArray) : Option (Bool) := (impl_Decimal.f a0).bind fun bt101 => (if bt101.2.2 = true then (if bt101.1 = a1 then (some (bt101.2.1.toList == a2.toList)) else (some false)) else (some false))
set_option maxHeartbeats 8000000 in
set_option maxRecDepth 100000 in
theorem laws_doorDecimal.calls (a0 : ByteArray) (a1 : Int) (a2 : ByteArray) (r : Bool) (w : World) (h : laws_doorDecimal.f a0 a1 a2 = some r) :
    Calls Tryd.prog 15 #[.string a0, .int .i64 a1, .string a2] w fun e w' => e = .returned (.bool r) ∧ Below w.heap.size w w' := by
  have HB := Aside0.mk (Below.refl w.heap.size w)
  have H : ((impl_Decimal.f a0).bind fun bt101 => (if bt101.2.2 = true then (if bt101.1 = a1 then (some (bt101.2.1.toList == a2.toList)) else (some false)) else (some false))) = some r := h
  clear h
  replace H := Option.bind_eq_some_iff.mp H
  obtain ⟨⟨t101, t102, t103⟩, A40, H⟩ := H
  replace H : (if t103 = true then (if t101 = a1 then (some (t102.toList == a2.toList)) else (some false)) else (some false)) = some r := H
  have A4 := Aside0.mk A40
  clear A40
  by_cases c5 : t103 = true
  · subst c5
    have H1 : (if t101 = a1 then (some (t102.toList == a2.toList)) else (some false)) = some r := by rw [if_pos rfl] at H; exact H
    clear H
    have H := H1
    clear H1
    by_cases c6 : t101 = a1
    · rw [if_pos c6] at H
      have c6b0 : (t101 == a1) = true := beq_iff_eq.mpr c6
      have c6b1 : (t101 != a1) = false := bne_eq_false_iff_eq.mpr c6
      clear c6
      obtain rfl := Option.some.inj H
      go_enter Tryd.func15, Tryd.ntmps15
      go_wp2_with (first | ((with_reducible refine gate_callee (f := 31) rfl ?_); refine goesL_ (some 12) rfl rfl Tryd.func31 (by kernel_rfl) rfl #[.string a0] rfl (by (try simp only [List.map_toArray, List.map_cons, List.map_nil]); first | done | rfl | (simp only [List.length_drop, List.length_take]; rfl)) ?_; (with_reducible refine (impl_Decimal.calls a0 t101 t102 true _ A4.out).mono ?_); rintro e w7 ⟨rfl, hb⟩; refine ⟨_, rfl, ?_⟩; have n0_ := Aside0.mk (below_step (by repeat (first | (with_reducible first | exact HB.out | apply below_alloc | apply pw_below_drewN | apply below_drew1) | exact HB.out)) hb); clear HB; have HB := n0_; clear n0_; (try clear hb); (try clear hb2); (try clear hk); (try clear hi)))
      go_ret
      exact ⟨by first | rfl | (simp [errW_none, errW_some] <;> rfl) | (simp [*, errW_none, errW_some] <;> rfl), by repeat (first | (with_reducible first | exact HB.out | apply below_alloc | apply pw_below_drewN | apply below_drew1) | exact HB.out)⟩
    · rw [if_neg c6] at H
      have c6b0 : (t101 == a1) = false := beq_eq_false_iff_ne.mpr c6
      have c6b1 : (t101 != a1) = true := bne_iff_ne.mpr c6
      obtain rfl := Option.some.inj H
      go_enter Tryd.func15, Tryd.ntmps15
      go_wp2_with (first | ((with_reducible refine gate_callee (f := 31) rfl ?_); refine goesL_ (some 12) rfl rfl Tryd.func31 (by kernel_rfl) rfl #[.string a0] rfl (by (try simp only [List.map_toArray, List.map_cons, List.map_nil]); first | done | rfl | (simp only [List.length_drop, List.length_take]; rfl)) ?_; (with_reducible refine (impl_Decimal.calls a0 t101 t102 true _ A4.out).mono ?_); rintro e w8 ⟨rfl, hb⟩; refine ⟨_, rfl, ?_⟩; have n0_ := Aside0.mk (below_step (by repeat (first | (with_reducible first | exact HB.out | apply below_alloc | apply pw_below_drewN | apply below_drew1) | exact HB.out)) hb); clear HB; have HB := n0_; clear n0_; (try clear hb); (try clear hb2); (try clear hk); (try clear hi)))
      go_ret
      exact ⟨by first | rfl | (simp [errW_none, errW_some] <;> rfl) | (simp [*, errW_none, errW_some] <;> rfl), by repeat (first | (with_reducible first | exact HB.out | apply below_alloc | apply pw_below_drewN | apply below_drew1) | exact HB.out)⟩
  · replace c5 := Bool.eq_false_iff.mpr c5
    subst c5
    have H1 : (some false) = some r := by rw [if_neg (show ¬ (false = true) by decide)] at H; exact H
    clear H
    have H := H1
    clear H1
    obtain rfl := Option.some.inj H
    go_enter Tryd.func15, Tryd.ntmps15
    go_wp2_with (first | ((with_reducible refine gate_callee (f := 31) rfl ?_); refine goesL_ (some 12) rfl rfl Tryd.func31 (by kernel_rfl) rfl #[.string a0] rfl (by (try simp only [List.map_toArray, List.map_cons, List.map_nil]); first | done | rfl | (simp only [List.length_drop, List.length_take]; rfl)) ?_; (with_reducible refine (impl_Decimal.calls a0 t101 t102 false _ A4.out).mono ?_); rintro e w9 ⟨rfl, hb⟩; refine ⟨_, rfl, ?_⟩; have n0_ := Aside0.mk (below_step (by repeat (first | (with_reducible first | exact HB.out | apply below_alloc | apply pw_below_drewN | apply below_drew1) | exact HB.out)) hb); clear HB; have HB := n0_; clear n0_; (try clear hb); (try clear hb2); (try clear hk); (try clear hi)))
    go_ret
    exact ⟨by first | rfl | (simp [errW_none, errW_some] <;> rfl) | (simp [*, errW_none, errW_some] <;> rfl), by repeat (first | (with_reducible first | exact HB.out | apply below_alloc | apply pw_below_drewN | apply below_drew1) | exact HB.out)⟩

/-! ### spec_AnNumber: function 16 -/
def spec_AnNumber.f (a0 : Int) : Option (ByteArray) := (strconv_Itoa.f a0).bind fun t104 => (some t104)
set_option maxHeartbeats 8000000 in
set_option maxRecDepth 100000 in
theorem spec_AnNumber.calls (a0 : Int) (r : ByteArray) (w : World) (hT_ : StrIs w) (h : spec_AnNumber.f a0 = some r) :
    Calls Tryd.prog 16 #[.int .i64 a0] w fun e w' => e = .returned (.string r) ∧ Below w.heap.size w w' := by
  have HB := Aside0.mk (Below.refl w.heap.size w)
  have H : ((strconv_Itoa.f a0).bind fun t104 => (some t104)) = some r := h
  clear h
  replace H := Option.bind_eq_some_iff.mp H
  obtain ⟨t104, A20, H⟩ := H
  replace H : (some t104) = some r := H
  have A2 := Aside0.mk A20
  clear A20
  obtain rfl := Option.some.inj H
  go_enter Tryd.func16, Tryd.ntmps16
  go_wp2_with (first | ((with_reducible refine gate_callee (f := 32) rfl ?_); refine goesL_ (some 4) rfl rfl Tryd.func32 (by kernel_rfl) rfl #[.int .i64 a0] rfl (by (try simp only [List.map_toArray, List.map_cons, List.map_nil]); first | done | rfl | (simp only [List.length_drop, List.length_take]; rfl)) ?_; (with_reducible refine (strconv_Itoa.calls a0 t104 _ (show StrIs _ from ?side1) A2.out).mono ?_); (case side1 => exact Stays.below hT_ (by first | (repeat (first | (with_reducible first | exact HB.out | apply below_alloc | apply pw_below_drewN | apply below_drew1) | exact HB.out)) | (repeat (first | exact Below.refl _ _ | apply below_drew1 | apply pw_below_drewN)))); rintro e w3 ⟨rfl, hb⟩; refine ⟨_, rfl, ?_⟩; have n0_ := Aside0.mk (below_step (by repeat (first | (with_reducible first | exact HB.out | apply below_alloc | apply pw_below_drewN | apply below_drew1) | exact HB.out)) hb); clear HB; have HB := n0_; clear n0_; (try clear hb); (try clear hb2); (try clear hk); (try clear hi)))
  go_ret
  exact ⟨by first | rfl | (simp [errW_none, errW_some] <;> rfl) | (simp [*, errW_none, errW_some] <;> rfl), by repeat (first | (with_reducible first | exact HB.out | apply below_alloc | apply pw_below_drewN | apply below_drew1) | exact HB.out)⟩

/-! ### laws_FnDecimalRead: function 5 -/
def laws_FnDecimalRead.j0 : Nat → Int → ByteArray → Bool → Option (Bool)
  | 0, _, _, _ => none
  | k + 1, x5, x6, x28 => if x28 = true then (if 1 + x6.size ≤ 9223372036854775807 then ((spec_AnNumber.f x5).bind fun t108 => (if t108.size + ((⟨#[120]⟩ : ByteArray) ++ x6).size ≤ 9223372036854775807 then ((laws_doorDecimal.f (t108 ++ ((⟨#[120]⟩ : ByteArray) ++ x6)) x5 ((⟨#[120]⟩ : ByteArray) ++ x6)).bind fun t109 => (some t109)) else (none))) else (none)) else ((spec_AnNumber.f x5).bind fun t110 => (if t110.size + x6.size ≤ 9223372036854775807 then ((laws_doorDecimal.f (t110 ++ x6) x5 x6).bind fun t111 => (some t111)) else (none)))
def laws_FnDecimalRead.f (k : Nat) (a0 : Int) (l1 : List Int) : Option (Bool) := if (l1.length : Int) > 2147483647 then (some true) else ((laws_idAt.f a0 1000000000).bind fun t105 => (if (l1.length : Int) > 0 then (if 0 < (l1.length : Int) then (if (rd l1 0) ≥ 48 then (laws_FnDecimalRead.j0 k t105 (strOfNums l1) (decide ((rd l1 0) ≤ 57))) else (laws_FnDecimalRead.j0 k t105 (strOfNums l1) false)) else (none)) else (laws_FnDecimalRead.j0 k t105 (strOfNums l1) false)))
theorem laws_FnDecimalRead.mono_l : ∀ k, (∀ y0 y1 y2, LeO (laws_FnDecimalRead.j0 k y0 y1 y2) (laws_FnDecimalRead.j0 (k + 1) y0 y1 y2))
  | 0 => fun _ _ _ r h => by simp [laws_FnDecimalRead.j0] at h
  | k + 1 => by
    have ih0 := laws_FnDecimalRead.mono_l k
    · intro y0 y1 y2
      unfold laws_FnDecimalRead.j0
      repeat' first
      | (with_reducible exact ih0 _ _ _)
      | (with_reducible exact LeO.refl _)
      | (with_reducible exact LeO.none _)
      | (with_reducible refine LeO.ite ?_ ?_)
      | (with_reducible refine LeO.bind ?_ (fun _ => ?_))
      | exact ih0 _ _ _
      | exact LeO.none _
      | refine LeO.ite ?_ ?_
      | refine LeO.bind ?_ (fun _ => ?_)
theorem laws_FnDecimalRead.mono : ∀ a0 a1 k, LeO (laws_FnDecimalRead.f k a0 a1) (laws_FnDecimalRead.f (k + 1) a0 a1) := by
  intro a0 a1 k
  have ih0 := laws_FnDecimalRead.mono_l k
  unfold laws_FnDecimalRead.f
  repeat' first
      | (with_reducible exact ih0 _ _ _)
      | (with_reducible exact LeO.refl _)
      | (with_reducible exact LeO.none _)
      | (with_reducible refine LeO.ite ?_ ?_)
      | (with_reducible refine LeO.bind ?_ (fun _ => ?_))
      | exact ih0 _ _ _
      | exact LeO.none _
      | refine LeO.ite ?_ ?_
      | refine LeO.bind ?_ (fun _ => ?_)
set_option maxHeartbeats 8000000 in
set_option maxRecDepth 100000 in
theorem laws_FnDecimalRead.calls (k : Nat) (a0 : Int) (A1 : Option Addr) (c1 : Nat) (l1 : List Int) (r : Bool) (w : World) (hr1 : Kd.C (Kd.int .u8) w A1 l1.length l1) (hc1 : l1.length ≤ c1) (hT_ : StrIs w) (h : laws_FnDecimalRead.f k a0 l1 = some r) :
    Calls Tryd.prog 5 #[.int .i64 a0, .slice A1 l1.length c1] w fun e w' => e = .returned (.bool r) ∧ Below w.heap.size w w' := by
  have HR1 := Aside0.mk hr1
  have HC1 := Aside0.mk hc1
  clear hr1 hc1
  have HB := Aside0.mk (Below.refl w.heap.size w)
  have H : (if (l1.length : Int) > 2147483647 then (some true) else ((laws_idAt.f a0 1000000000).bind fun t105 => (if (l1.length : Int) > 0 then (if 0 < (l1.length : Int) then (if (rd l1 0) ≥ 48 then (laws_FnDecimalRead.j0 k t105 (strOfNums l1) (decide ((rd l1 0) ≤ 57))) else (laws_FnDecimalRead.j0 k t105 (strOfNums l1) false)) else (none)) else (laws_FnDecimalRead.j0 k t105 (strOfNums l1) false)))) = some r := h
  clear h
  by_cases c3 : (l1.length : Int) > 2147483647
  · rw [if_pos c3] at H
    have c3b0 : decide (2147483647 < (l1.length : Int)) = true := decide_eq_true c3
    have c3b1 : decide (2147483647 < l1.length) = true := decide_eq_true (by omega)
    clear c3
    obtain rfl := Option.some.inj H
    go_enter Tryd.func5, Tryd.ntmps5
    go_wp2
    go_ret
    exact ⟨by first | rfl | (simp [errW_none, errW_some] <;> rfl) | (simp [*, errW_none, errW_some] <;> rfl), by repeat (first | (with_reducible first | exact HB.out | apply below_alloc | apply pw_below_drewN | apply below_drew1) | exact HB.out)⟩
  · rw [if_neg c3] at H
    have c3b0 : decide (2147483647 < (l1.length : Int)) = false := decide_eq_false c3
    have c3b1 : decide (2147483647 < l1.length) = false := decide_eq_false (by omega)
    clear c3
    replace H := Option.bind_eq_some_iff.mp H
    obtain ⟨t105, A40, H⟩ := H
    replace H : (if (l1.length : Int) > 0 then (if 0 < (l1.length : Int) then (if (rd l1 0) ≥ 48 then (laws_FnDecimalRead.j0 k t105 (strOfNums l1) (decide ((rd l1 0) ≤ 57))) else (laws_FnDecimalRead.j0 k t105 (strOfNums l1) false)) else (none)) else (laws_FnDecimalRead.j0 k t105 (strOfNums l1) false)) = some r := H
    have A4 := Aside0.mk A40
    clear A40
    have HC5 := Aside0.mk H
    clear H
    go_enter Tryd.func5, Tryd.ntmps5
    go_upto_region 5 with (first | ((with_reducible refine gate_callee (f := 14) rfl ?_); refine goesL_ (some 11) rfl rfl Tryd.func14 (by kernel_rfl) rfl #[.int .i64 a0, .int .i64 1000000000] rfl (by (try simp only [List.map_toArray, List.map_cons, List.map_nil]); first | done | rfl | (simp only [List.length_drop, List.length_take]; rfl)) ?_; (with_reducible refine (laws_idAt.calls a0 1000000000 t105 _ A4.out).mono ?_); rintro e w' ⟨rfl, ⟨nd, rfl⟩⟩; refine ⟨_, rfl, ?_⟩; have hcv6 := Kd.C_string (P := Tryd.prog) (A := A1) (c := c1) Tryd.underlying25 Tryd.underlying5 Tryd.underlying9 HR1.out; have hcvn6 := fun (nq_ : Nat) => Kd.C_string (P := Tryd.prog) (A := A1) (c := c1) Tryd.underlying25 Tryd.underlying5 Tryd.underlying9 (Kd.C_drewN (HR1.out) nq_)))
    (try simp only [Act.put, List.setIfInBounds_toArray, List.set_cons_zero, List.set_cons_succ])
    go_cut [28] (fun v28 wc => ∃ (kq : Nat) (x28_4 : Bool), v28 = .bool x28_4 ∧ Aside0 (laws_FnDecimalRead.j0 kq t105 (strOfNums l1) x28_4 = some r) ∧ Aside0 (kq ≤ k) ∧ Aside0 (Below w.heap.size w wc))
    case first =>
      have H := HC5.out
      clear HC5
      by_cases c7 : (l1.length : Int) > 0
      · rw [if_pos c7] at H
        have c7b0 : decide (0 < (l1.length : Int)) = true := decide_eq_true c7
        have c7b1 : decide (0 < l1.length) = true := decide_eq_true (by omega)
        clear c7
        (first | rw [c7b0] | (simp only [i64_w, i32_w]; rw [c7b0]) | rw [c7b1] | skip)
        by_cases c8 : 0 < (l1.length : Int)
        · rw [if_pos c8] at H
          have c8b0 : decide (0 < (l1.length : Int)) = true := decide_eq_true c8
          have c8b1 : decide (0 < l1.length) = true := decide_eq_true (by omega)
          clear c8
          by_cases c9 : (rd l1 0) ≥ 48
          · rw [if_pos c9] at H
            have c9b0 : decide (48 ≤ (rd l1 0)) = true := decide_eq_true c9
            clear c9
            have H' := Aside0.mk H
            clear H
            have p106 : 0 ≤ (0 : Int) := (by omega)
            have q106 : 0 < (l1.length : Int) := of_decide_eq_true (by first | (with_reducible assumption) | assumption)
            obtain ⟨ad106, e106, hx106_0⟩ := Kd.at_int HR1.out 0 p106 q106
            cases e106
            have qi106 : (0 < l1.length) = True := eq_true (by omega)
            (try rw [show ((0 : Int)).toNat = 0 from rfl] at hx106_0)
            (try rw [Addr.add_zero'] at hx106_0)
            replace hx106_0 := (HB.out.cell (World.block_lt_of_cell? w _ hx106_0)).trans hx106_0
            replace p106 := eq_true p106
            replace q106 := eq_true q106
            have p107 : 0 ≤ (0 : Int) := (by omega)
            have q107 : 0 < (l1.length : Int) := of_decide_eq_true (by first | (with_reducible assumption) | assumption)
            obtain ⟨ad107, e107, hx107_0⟩ := Kd.at_int HR1.out 0 p107 q107
            obtain rfl : ad106 = ad107 := (by injection e107)
            have qi107 : (0 < l1.length) = True := eq_true (by omega)
            (try rw [show ((0 : Int)).toNat = 0 from rfl] at hx107_0)
            (try rw [Addr.add_zero'] at hx107_0)
            replace hx107_0 := (HB.out.cell (World.block_lt_of_cell? w _ hx107_0)).trans hx107_0
            replace p107 := eq_true p107
            replace q107 := eq_true q107
            go_wp2
            go_meet
            case rel => exact ⟨_, (decide ((rd l1 0) ≤ 57)), (by first | rfl | (simp; done) | (simp [*]; done)), H', ⟨by first | omega | exact Nat.le_refl _⟩, ⟨by repeat (first | (with_reducible first | exact HB.out | apply below_alloc | apply pw_below_drewN | apply below_drew1) | exact HB.out)⟩⟩
          · rw [if_neg c9] at H
            have c9b0 : decide (48 ≤ (rd l1 0)) = false := decide_eq_false c9
            clear c9
            have H' := Aside0.mk H
            clear H
            have p106 : 0 ≤ (0 : Int) := (by omega)
            have q106 : 0 < (l1.length : Int) := of_decide_eq_true (by first | (with_reducible assumption) | assumption)
            obtain ⟨ad106, e106, hx106_0⟩ := Kd.at_int HR1.out 0 p106 q106
            cases e106
            have qi106 : (0 < l1.length) = True := eq_true (by omega)
            (try rw [show ((0 : Int)).toNat = 0 from rfl] at hx106_0)
            (try rw [Addr.add_zero'] at hx106_0)
            replace hx106_0 := (HB.out.cell (World.block_lt_of_cell? w _ hx106_0)).trans hx106_0
            replace p106 := eq_true p106
            replace q106 := eq_true q106
            go_wp2
            go_meet
            case rel => exact ⟨_, (false), (by first | rfl | (simp; done) | (simp [*]; done)), H', ⟨by first | omega | exact Nat.le_refl _⟩, ⟨by repeat (first | (with_reducible first | exact HB.out | apply below_alloc | apply pw_below_drewN | apply below_drew1) | exact HB.out)⟩⟩
        · rw [if_neg c8] at H
          exact absurd H (by simp)
      · rw [if_neg c7] at H
        have c7b0 : decide (0 < (l1.length : Int)) = false := decide_eq_false c7
        have c7b1 : decide (0 < l1.length) = false := decide_eq_false (by omega)
        clear c7
        (first | rw [c7b0] | (simp only [i64_w, i32_w]; rw [c7b0]) | rw [c7b1] | skip)
        have H' := Aside0.mk H
        clear H
        go_wp2
        go_meet
        case rel => exact ⟨_, (false), (by first | rfl | (simp; done) | (simp [*]; done)), H', ⟨by first | omega | exact Nat.le_refl _⟩, ⟨by repeat (first | (with_reducible first | exact HB.out | apply below_alloc | apply pw_below_drewN | apply below_drew1) | exact HB.out)⟩⟩
    case rest =>
      clear HC5
      try clear c1
      try clear p1
      try clear q1
      try clear hx1
      try clear qi1
      try clear p2
      try clear c3
      try clear c3b0
      try clear c3b1
      try clear c5
      try clear hcv6
      try clear c7
      try clear c7b0
      try clear c7b1
      try clear c8
      try clear c8b0
      try clear c8b1
      try clear c9
      try clear c9b0
      try clear hx106_0
      try clear hx107_0
      try clear p106
      try clear p107
      try clear q106
      try clear q107
      obtain ⟨kq, x28_4, rfl, HA, HJ4, HB⟩ := hcut
      cases kq with
      | zero => exact absurd HA.out (by simp [laws_FnDecimalRead.j0])
      | succ kj4 =>
        have H := HA.out
        clear HA
        simp only [laws_FnDecimalRead.j0] at H
        by_cases c10 : x28_4 = true
        · subst c10
          have H1 : (if 1 + (strOfNums l1).size ≤ 9223372036854775807 then ((spec_AnNumber.f t105).bind fun t108 => (if t108.size + ((⟨#[120]⟩ : ByteArray) ++ (strOfNums l1)).size ≤ 9223372036854775807 then ((laws_doorDecimal.f (t108 ++ ((⟨#[120]⟩ : ByteArray) ++ (strOfNums l1))) t105 ((⟨#[120]⟩ : ByteArray) ++ (strOfNums l1))).bind fun t109 => (some t109)) else (none))) else (none)) = some r := by rw [if_pos rfl] at H; exact H
          clear H
          have H := H1
          clear H1
          by_cases c11 : 1 + (strOfNums l1).size ≤ 9223372036854775807
          · rw [if_pos c11] at H
            have c11b0 := eq_true c11
            have c11b1 : decide (1 + (strOfNums l1).size ≤ 9223372036854775807) = true := decide_eq_true c11
            try have c11b2 : (9223372036854775807 < 1 + (strOfNums l1).size) = False := eq_false (Nat.not_lt.2 c11)
            replace H := Option.bind_eq_some_iff.mp H
            obtain ⟨t108, A120, H⟩ := H
            replace H : (if t108.size + ((⟨#[120]⟩ : ByteArray) ++ (strOfNums l1)).size ≤ 9223372036854775807 then ((laws_doorDecimal.f (t108 ++ ((⟨#[120]⟩ : ByteArray) ++ (strOfNums l1))) t105 ((⟨#[120]⟩ : ByteArray) ++ (strOfNums l1))).bind fun t109 => (some t109)) else (none)) = some r := H
            have A12 := Aside0.mk A120
            clear A120
            by_cases c13 : t108.size + ((⟨#[120]⟩ : ByteArray) ++ (strOfNums l1)).size ≤ 9223372036854775807
            · rw [if_pos c13] at H
              have c13b0 := eq_true c13
              have c13b1 : decide (t108.size + ((⟨#[120]⟩ : ByteArray) ++ (strOfNums l1)).size ≤ 9223372036854775807) = true := decide_eq_true c13
              try have c13b2 : (9223372036854775807 < t108.size + ((⟨#[120]⟩ : ByteArray) ++ (strOfNums l1)).size) = False := eq_false (Nat.not_lt.2 c13)
              try have c13b4 : (9223372036854775807 < t108.size + (1 + (strOfNums l1).size)) = False := eq_false (by have h_ := c13; repeat rw [ByteArray.size_append] at h_; exact Nat.not_lt.2 h_)
              replace H := Option.bind_eq_some_iff.mp H
              obtain ⟨t109, A140, H⟩ := H
              replace H : (some t109) = some r := H
              have A14 := Aside0.mk A140
              clear A140
              obtain rfl := Option.some.inj H
              go_wp2_with (first | ((with_reducible refine gate_callee (f := 16) rfl ?_); refine goesL_ (some 32) rfl rfl Tryd.func16 (by kernel_rfl) rfl #[.int .i64 t105] rfl (by (try simp only [List.map_toArray, List.map_cons, List.map_nil]); first | done | rfl | (simp only [List.length_drop, List.length_take]; rfl)) ?_; (with_reducible refine (spec_AnNumber.calls t105 t108 _ (show StrIs _ from ?side1) A12.out).mono ?_); (case side1 => exact Stays.below hT_ (by first | (repeat (first | (with_reducible first | exact HB.out | apply below_alloc | apply pw_below_drewN | apply below_drew1) | exact HB.out)) | (repeat (first | exact Below.refl _ _ | apply below_drew1 | apply pw_below_drewN)))); rintro e w15 ⟨rfl, hb⟩; refine ⟨_, rfl, ?_⟩; have n0_ := Aside0.mk (below_step (by repeat (first | (with_reducible first | exact HB.out | apply below_alloc | apply pw_below_drewN | apply below_drew1) | exact HB.out)) hb); clear HB; have HB := n0_; clear n0_; (try clear hb); (try clear hb2); (try clear hk); (try clear hi)) | ((with_reducible refine gate_callee (f := 15) rfl ?_); refine goesL_ (some 37) rfl rfl Tryd.func15 (by kernel_rfl) rfl #[.string (t108 ++ ((⟨#[120]⟩ : ByteArray) ++ (strOfNums l1))), .int .i64 t105, .string ((⟨#[120]⟩ : ByteArray) ++ (strOfNums l1))] rfl (by (try simp only [List.map_toArray, List.map_cons, List.map_nil]); first | done | rfl | (simp only [List.length_drop, List.length_take]; rfl)) ?_; (with_reducible refine (laws_doorDecimal.calls (t108 ++ ((⟨#[120]⟩ : ByteArray) ++ (strOfNums l1))) t105 ((⟨#[120]⟩ : ByteArray) ++ (strOfNums l1)) t109 _ A14.out).mono ?_); rintro e w16 ⟨rfl, hb⟩; refine ⟨_, rfl, ?_⟩; have n0_ := Aside0.mk (below_step (by repeat (first | (with_reducible first | exact HB.out | apply below_alloc | apply pw_below_drewN | apply below_drew1) | exact HB.out)) hb); clear HB; have HB := n0_; clear n0_; (try clear hb); (try clear hb2); (try clear hk); (try clear hi)))
              go_ret
              exact ⟨by first | rfl | (simp [errW_none, errW_some] <;> rfl) | (simp [*, errW_none, errW_some] <;> rfl), by repeat (first | (with_reducible first | exact HB.out | apply below_alloc | apply pw_below_drewN | apply below_drew1) | exact HB.out)⟩
            · rw [if_neg c13] at H
              exact absurd H (by simp)
          · rw [if_neg c11] at H
            exact absurd H (by simp)
        · replace c10 := Bool.eq_false_iff.mpr c10
          subst c10
          have H1 : ((spec_AnNumber.f t105).bind fun t110 => (if t110.size + (strOfNums l1).size ≤ 9223372036854775807 then ((laws_doorDecimal.f (t110 ++ (strOfNums l1)) t105 (strOfNums l1)).bind fun t111 => (some t111)) else (none))) = some r := by rw [if_neg (show ¬ (false = true) by decide)] at H; exact H
          clear H
          have H := H1
          clear H1
          replace H := Option.bind_eq_some_iff.mp H
          obtain ⟨t110, A170, H⟩ := H
          replace H : (if t110.size + (strOfNums l1).size ≤ 9223372036854775807 then ((laws_doorDecimal.f (t110 ++ (strOfNums l1)) t105 (strOfNums l1)).bind fun t111 => (some t111)) else (none)) = some r := H
          have A17 := Aside0.mk A170
          clear A170
          by_cases c18 : t110.size + (strOfNums l1).size ≤ 9223372036854775807
          · rw [if_pos c18] at H
            have c18b0 := eq_true c18
            have c18b1 : decide (t110.size + (strOfNums l1).size ≤ 9223372036854775807) = true := decide_eq_true c18
            try have c18b2 : (9223372036854775807 < t110.size + (strOfNums l1).size) = False := eq_false (Nat.not_lt.2 c18)
            replace H := Option.bind_eq_some_iff.mp H
            obtain ⟨t111, A190, H⟩ := H
            replace H : (some t111) = some r := H
            have A19 := Aside0.mk A190
            clear A190
            obtain rfl := Option.some.inj H
            go_wp2_with (first | ((with_reducible refine gate_callee (f := 16) rfl ?_); refine goesL_ (some 32) rfl rfl Tryd.func16 (by kernel_rfl) rfl #[.int .i64 t105] rfl (by (try simp only [List.map_toArray, List.map_cons, List.map_nil]); first | done | rfl | (simp only [List.length_drop, List.length_take]; rfl)) ?_; (with_reducible refine (spec_AnNumber.calls t105 t110 _ (show StrIs _ from ?side1) A17.out).mono ?_); (case side1 => exact Stays.below hT_ (by first | (repeat (first | (with_reducible first | exact HB.out | apply below_alloc | apply pw_below_drewN | apply below_drew1) | exact HB.out)) | (repeat (first | exact Below.refl _ _ | apply below_drew1 | apply pw_below_drewN)))); rintro e w20 ⟨rfl, hb⟩; refine ⟨_, rfl, ?_⟩; have n0_ := Aside0.mk (below_step (by repeat (first | (with_reducible first | exact HB.out | apply below_alloc | apply pw_below_drewN | apply below_drew1) | exact HB.out)) hb); clear HB; have HB := n0_; clear n0_; (try clear hb); (try clear hb2); (try clear hk); (try clear hi)) | ((with_reducible refine gate_callee (f := 15) rfl ?_); refine goesL_ (some 37) rfl rfl Tryd.func15 (by kernel_rfl) rfl #[.string (t110 ++ (strOfNums l1)), .int .i64 t105, .string (strOfNums l1)] rfl (by (try simp only [List.map_toArray, List.map_cons, List.map_nil]); first | done | rfl | (simp only [List.length_drop, List.length_take]; rfl)) ?_; (with_reducible refine (laws_doorDecimal.calls (t110 ++ (strOfNums l1)) t105 (strOfNums l1) t111 _ A19.out).mono ?_); rintro e w21 ⟨rfl, hb⟩; refine ⟨_, rfl, ?_⟩; have n0_ := Aside0.mk (below_step (by repeat (first | (with_reducible first | exact HB.out | apply below_alloc | apply pw_below_drewN | apply below_drew1) | exact HB.out)) hb); clear HB; have HB := n0_; clear n0_; (try clear hb); (try clear hb2); (try clear hk); (try clear hi)))
            go_ret
            exact ⟨by first | rfl | (simp [errW_none, errW_some] <;> rfl) | (simp [*, errW_none, errW_some] <;> rfl), by repeat (first | (with_reducible first | exact HB.out | apply below_alloc | apply pw_below_drewN | apply below_drew1) | exact HB.out)⟩
          · rw [if_neg c18] at H
            exact absurd H (by simp)

/-- THE ONE PURE STATEMENT of laws_FnDecimalRead: yours. -/
def laws_FnDecimalRead.Pure : Prop := ∀ (a0 : Int) (l1 : List Int), (Lit.int .i64 a0).wf = true → l1.length ≤ maxLen → l1.length * 1 ≤ 140737488351232 → (∀ x ∈ l1, (Lit.int .u8 x).wf = true) → ∃ k, laws_FnDecimalRead.f k a0 l1 = some true
theorem laws_FnDecimalRead.walk (P : laws_FnDecimalRead.Pure) (a0 : Int) (a1 : Option Addr) (len1 cap1 : Nat) (z1 : List Int) (w : World) (hT_ : StrIs w) (w0 : (Lit.int .i64 a0).wf = true) (w1 : (a1 = none ∧ len1 = 0 ∧ cap1 = 0 ∧ z1 = []) ∨ ∃ x, a1 = some x ∧ len1 ≤ cap1 ∧ cap1 ≤ maxLen ∧ z1.length = cap1 ∧ (∀ i, i < z1.length → w.cell? (x.add i) = some (.int .u8 (z1.getD i 0))) ∧ ∀ n ∈ z1, (Lit.int .u8 n).wf = true) (y1 : len1 * 1 ≤ 140737488351232) :
    Calls Tryd.prog 5 #[.int .i64 a0, .slice a1 len1 cap1] w fun e w' => e = .returned (.bool true) ∧ Below w.heap.size w w' := by
  obtain ⟨l1, rfl, hr1, hm1, hw1, hc1⟩ := ReadsInt.ofRowC w1
  obtain ⟨k, h⟩ := P a0 l1 w0 hm1 y1 hw1
  refine (laws_FnDecimalRead.calls k a0 _ _ l1 true w (Kd.C_of_reads (d := (0 : Int)) (h1 := fun _ => rfl) hr1) hc1 hT_ h).mono ?_
  rintro e w' ⟨rfl, hd⟩
  exact ⟨rfl, hd⟩

end Go.Proofs.YtfblehpiecialaaDoor.PFnDecimalRead
