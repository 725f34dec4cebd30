/- Written by a program of this session (wip/tools/myprint.py) with the kit's print: contracts of the functions that one statement reaches; functions that are proved by hand are taken as printed. Conditions: none. -/
import Derived.Test.YtkhbmkccbhkolaaDoorPFnPunycodeOnex0
import Derived.Test.YtkhbmkccbhkolaaDoorPFnPunycodeOnex1
import Derived.Test.YtkhbmkccbhkolaaDoorPFnPunycodeOnex2
namespace Go.Proofs.YtkhbmkccbhkolaaDoor.PFnPunycodeOne
open Go.RowKit Go.Proofs.YtkhbmkccbhkolaaDoorW.PrintWords Go.Proofs.YtkhbmkccbhkolaaDoorW.PrintLast Go.Proofs.YtkhbmkccbhkolaaDoorW.PrintMore
attribute [local go_sem] max2_int min2_int max_two min_two max_three min_three max_four min_four   -- for this text's walks alone
set_option linter.unusedVariables false
set_option linter.unusedSimpArgs false

/-! ### laws_FnPunycodeOne: function 3 -/
mutual
def laws_FnPunycodeOne.j0 : Nat → List Int → Int → List Int → Bool → Option (Bool)
  | 0, _, _, _, _ => none
  | k + 1, x0, x1, x2, x18 => if x18 = true then (some true) else (if (x0.length : Int) > 0 then (if 0 ≤ (mn (x0.length : Int) 1000) then (if (mn (x0.length : Int) 1000) ≤ (x0.length : Int) then ((spec_AnPlain.f k (x0.take ((mn (x0.length : Int) 1000) : Int).toNat)).bind fun t137 => (laws_FnPunycodeOne.j1 k x1 x2 t137 (⟨#[]⟩ : ByteArray))) else (none)) else (none)) else (laws_FnPunycodeOne.j1 k x1 x2 (⟨#[]⟩ : ByteArray) (⟨#[]⟩ : ByteArray)))
def laws_FnPunycodeOne.j1 : Nat → Int → List Int → ByteArray → ByteArray → Option (Bool)
  | 0, _, _, _, _ => none
  | k + 1, x1, x2, x7, x8 => if (x2.length : Int) > 0 then (if 0 ≤ (mn (x2.length : Int) 1000) then (if (mn (x2.length : Int) 1000) ≤ (x2.length : Int) then ((spec_AnPlain.f k (x2.take ((mn (x2.length : Int) 1000) : Int).toNat)).bind fun t139 => (laws_FnPunycodeOne.j2 k x1 x7 t139)) else (none)) else (none)) else (laws_FnPunycodeOne.j2 k x1 x7 x8)
def laws_FnPunycodeOne.j2 : Nat → Int → ByteArray → ByteArray → Option (Bool)
  | 0, _, _, _ => none
  | k + 1, x1, x7, x8 => (laws_idAt.f x1 1113952).bind fun t140 => ((spec_AnCharacters.f k (([wrap64 (160 + t140)] : List Int))).bind fun t144 => ((spec_AnString.f k t144).bind fun t147 => (if x7.size + t147.size ≤ 9223372036854775807 then (if (x7 ++ t147).size + x8.size ≤ 9223372036854775807 then ((spec_IdCharacters.f ((x7 ++ t147) ++ x8)).bind fun bt148 => ((spec_IdPunycode.f k bt148.1).bind fun t152 => ((spec_AnString.f k bt148.1).bind fun t153 => ((laws_doorPuny.f t152 t153).bind fun t154 => (some t154))))) else (none)) else (none))))
end
def laws_FnPunycodeOne.f (k : Nat) (l0 : List Int) (a1 : Int) (l2 : List Int) : Option (Bool) := if (l0.length : Int) > 2147483647 then (laws_FnPunycodeOne.j0 k l0 a1 l2 true) else (laws_FnPunycodeOne.j0 k l0 a1 l2 (decide ((l2.length : Int) > 2147483647)))
theorem laws_FnPunycodeOne.mono_l : ∀ k, (∀ y0 y1 y2 y3, LeO (laws_FnPunycodeOne.j0 k y0 y1 y2 y3) (laws_FnPunycodeOne.j0 (k + 1) y0 y1 y2 y3)) ∧ (∀ y0 y1 y2 y3, LeO (laws_FnPunycodeOne.j1 k y0 y1 y2 y3) (laws_FnPunycodeOne.j1 (k + 1) y0 y1 y2 y3)) ∧ (∀ y0 y1 y2, LeO (laws_FnPunycodeOne.j2 k y0 y1 y2) (laws_FnPunycodeOne.j2 (k + 1) y0 y1 y2))
  | 0 => ⟨fun _ _ _ _ r h => by simp [laws_FnPunycodeOne.j0] at h, fun _ _ _ _ r h => by simp [laws_FnPunycodeOne.j1] at h, fun _ _ _ r h => by simp [laws_FnPunycodeOne.j2] at h⟩
  | k + 1 => by
    obtain ⟨ih0, ih1, ih2⟩ := laws_FnPunycodeOne.mono_l k
    refine ⟨?_, ?_, ?_⟩
    · intro y0 y1 y2 y3
      unfold laws_FnPunycodeOne.j0
      repeat' first
      | (with_reducible exact ih0 _ _ _ _)
      | (with_reducible exact ih1 _ _ _ _)
      | (with_reducible exact ih2 _ _ _)
      | (with_reducible exact spec_AnCharacters.mono _ _)
      | (with_reducible exact spec_AnPlain.mono _ _)
      | (with_reducible exact spec_AnString.mono _ _)
      | (with_reducible exact spec_IdPunycode.mono _ _)
      | (with_reducible exact LeO.refl _)
      | (with_reducible exact LeO.none _)
      | (with_reducible refine LeO.ite ?_ ?_)
      | (with_reducible refine LeO.bind ?_ (fun _ => ?_))
      | exact ih0 _ _ _ _
      | exact ih1 _ _ _ _
      | exact ih2 _ _ _
      | exact spec_AnCharacters.mono _ _
      | exact spec_AnPlain.mono _ _
      | exact spec_AnString.mono _ _
      | exact spec_IdPunycode.mono _ _
      | exact LeO.none _
      | refine LeO.ite ?_ ?_
      | refine LeO.bind ?_ (fun _ => ?_)
    · intro y0 y1 y2 y3
      unfold laws_FnPunycodeOne.j1
      repeat' first
      | (with_reducible exact ih0 _ _ _ _)
      | (with_reducible exact ih1 _ _ _ _)
      | (with_reducible exact ih2 _ _ _)
      | (with_reducible exact spec_AnCharacters.mono _ _)
      | (with_reducible exact spec_AnPlain.mono _ _)
      | (with_reducible exact spec_AnString.mono _ _)
      | (with_reducible exact spec_IdPunycode.mono _ _)
      | (with_reducible exact LeO.refl _)
      | (with_reducible exact LeO.none _)
      | (with_reducible refine LeO.ite ?_ ?_)
      | (with_reducible refine LeO.bind ?_ (fun _ => ?_))
      | exact ih0 _ _ _ _
      | exact ih1 _ _ _ _
      | exact ih2 _ _ _
      | exact spec_AnCharacters.mono _ _
      | exact spec_AnPlain.mono _ _
      | exact spec_AnString.mono _ _
      | exact spec_IdPunycode.mono _ _
      | exact LeO.none _
      | refine LeO.ite ?_ ?_
      | refine LeO.bind ?_ (fun _ => ?_)
    · intro y0 y1 y2
      unfold laws_FnPunycodeOne.j2
      repeat' first
      | (with_reducible exact ih0 _ _ _ _)
      | (with_reducible exact ih1 _ _ _ _)
      | (with_reducible exact ih2 _ _ _)
      | (with_reducible exact spec_AnCharacters.mono _ _)
      | (with_reducible exact spec_AnPlain.mono _ _)
      | (with_reducible exact spec_AnString.mono _ _)
      | (with_reducible exact spec_IdPunycode.mono _ _)
      | (with_reducible exact LeO.refl _)
      | (with_reducible exact LeO.none _)
      | (with_reducible refine LeO.ite ?_ ?_)
      | (with_reducible refine LeO.bind ?_ (fun _ => ?_))
      | exact ih0 _ _ _ _
      | exact ih1 _ _ _ _
      | exact ih2 _ _ _
      | exact spec_AnCharacters.mono _ _
      | exact spec_AnPlain.mono _ _
      | exact spec_AnString.mono _ _
      | exact spec_IdPunycode.mono _ _
      | exact LeO.none _
      | refine LeO.ite ?_ ?_
      | refine LeO.bind ?_ (fun _ => ?_)
theorem laws_FnPunycodeOne.mono : ∀ a0 a1 a2 k, LeO (laws_FnPunycodeOne.f k a0 a1 a2) (laws_FnPunycodeOne.f (k + 1) a0 a1 a2) := by
  intro a0 a1 a2 k
  obtain ⟨ih0, ih1, ih2⟩ := laws_FnPunycodeOne.mono_l k
  unfold laws_FnPunycodeOne.f
  repeat' first
      | (with_reducible exact ih0 _ _ _ _)
      | (with_reducible exact ih1 _ _ _ _)
      | (with_reducible exact ih2 _ _ _)
      | (with_reducible exact spec_AnCharacters.mono _ _)
      | (with_reducible exact spec_AnPlain.mono _ _)
      | (with_reducible exact spec_AnString.mono _ _)
      | (with_reducible exact spec_IdPunycode.mono _ _)
      | (with_reducible exact LeO.refl _)
      | (with_reducible exact LeO.none _)
      | (with_reducible refine LeO.ite ?_ ?_)
      | (with_reducible refine LeO.bind ?_ (fun _ => ?_))
      | exact ih0 _ _ _ _
      | exact ih1 _ _ _ _
      | exact ih2 _ _ _
      | exact spec_AnCharacters.mono _ _
      | exact spec_AnPlain.mono _ _
      | exact spec_AnString.mono _ _
      | exact spec_IdPunycode.mono _ _
      | exact LeO.none _
      | refine LeO.ite ?_ ?_
      | refine LeO.bind ?_ (fun _ => ?_)
set_option maxHeartbeats 8000000 in
set_option maxRecDepth 100000 in
theorem laws_FnPunycodeOne.calls (k : Nat) (A0 : Option Addr) (c0 : Nat) (l0 : List Int) (a1 : Int) (A2 : Option Addr) (c2 : Nat) (l2 : List Int) (r : Bool) (w : World) (hr0 : Kd.C (Kd.int .u8) w A0 l0.length l0) (hc0 : l0.length ≤ c0) (hr2 : Kd.C (Kd.int .u8) w A2 l2.length l2) (hc2 : l2.length ≤ c2) (hT_ : UtfIs w) (h : laws_FnPunycodeOne.f k l0 a1 l2 = some r) :
    Calls Tryd.prog 3 #[.slice A0 l0.length c0, .int .i64 a1, .slice A2 l2.length c2] w fun e w' => e = .returned (.bool r) ∧ Below w.heap.size w w' := by
  have HR0 := Aside0.mk hr0
  have HC0 := Aside0.mk hc0
  clear hr0 hc0
  have HR2 := Aside0.mk hr2
  have HC2 := Aside0.mk hc2
  clear hr2 hc2
  have HB := Aside0.mk (Below.refl w.heap.size w)
  have H : (if (l0.length : Int) > 2147483647 then (laws_FnPunycodeOne.j0 k l0 a1 l2 true) else (laws_FnPunycodeOne.j0 k l0 a1 l2 (decide ((l2.length : Int) > 2147483647)))) = some r := h
  clear h
  have HC4 := Aside0.mk H
  clear H
  go_enter Tryd.func3, Tryd.ntmps3
  go_upto_region 1 with (fail)
  go_cut [18] (fun v18 wc => ∃ (kq : Nat) (x18_3 : Bool), v18 = .bool x18_3 ∧ Aside0 (laws_FnPunycodeOne.j0 kq l0 a1 l2 x18_3 = some r) ∧ Aside0 (kq ≤ k) ∧ Aside0 (Below w.heap.size w wc))
  case first =>
    have H := HC4.out
    clear HC4
    by_cases c5 : (l0.length : Int) > 2147483647
    · rw [if_pos c5] at H
      have c5b0 : decide (2147483647 < (l0.length : Int)) = true := decide_eq_true c5
      have c5b1 : decide (2147483647 < l0.length) = true := decide_eq_true (by omega)
      clear c5
      (first | rw [c5b0] | (simp only [i64_w, i32_w]; rw [c5b0]) | rw [c5b1] | skip)
      have H' := Aside0.mk H
      clear H
      go_wp2
      go_meet
      case rel => exact ⟨_, (true), (by first | rfl | (simp; done) | (simp [*]; done)), H', ⟨by first | omega | exact Nat.le_refl _⟩, ⟨by repeat (first | (with_reducible first | exact HB.out | apply below_alloc | apply pw_below_drewN | apply below_drew1) | exact HB.out)⟩⟩
    · rw [if_neg c5] at H
      have c5b0 : decide (2147483647 < (l0.length : Int)) = false := decide_eq_false c5
      have c5b1 : decide (2147483647 < l0.length) = false := decide_eq_false (by omega)
      clear c5
      (first | rw [c5b0] | (simp only [i64_w, i32_w]; rw [c5b0]) | rw [c5b1] | skip)
      have H' := Aside0.mk H
      clear H
      go_wp2
      go_meet
      case rel => exact ⟨_, (decide ((l2.length : Int) > 2147483647)), (by first | rfl | (simp; done) | (simp [*]; done)), H', ⟨by first | omega | exact Nat.le_refl _⟩, ⟨by repeat (first | (with_reducible first | exact HB.out | apply below_alloc | apply pw_below_drewN | apply below_drew1) | exact HB.out)⟩⟩
  case rest =>
    clear HC4
    try clear c2
    try clear p2
    try clear c3
    try clear c5
    try clear c5b0
    try clear c5b1
    obtain ⟨kq, x18_3, rfl, HA, HJ3, HB⟩ := hcut
    cases kq with
    | zero => exact absurd HA.out (by simp [laws_FnPunycodeOne.j0])
    | succ kj3 =>
      have H := HA.out
      clear HA
      simp only [laws_FnPunycodeOne.j0] at H
      by_cases c6 : x18_3 = true
      · subst c6
        have H1 : (some true) = some r := by rw [if_pos rfl] at H; exact H
        clear H
        have H := H1
        clear H1
        obtain rfl := Option.some.inj H
        go_wp2
        go_ret
        exact ⟨by first | rfl | (simp [errW_none, errW_some] <;> rfl) | (simp [*, errW_none, errW_some] <;> rfl), by repeat (first | (with_reducible first | exact HB.out | apply below_alloc | apply pw_below_drewN | apply below_drew1) | exact HB.out)⟩
      · replace c6 := Bool.eq_false_iff.mpr c6
        subst c6
        have H1 : (if (l0.length : Int) > 0 then (if 0 ≤ (mn (l0.length : Int) 1000) then (if (mn (l0.length : Int) 1000) ≤ (l0.length : Int) then ((spec_AnPlain.f kj3 (l0.take ((mn (l0.length : Int) 1000) : Int).toNat)).bind fun t137 => (laws_FnPunycodeOne.j1 kj3 a1 l2 t137 (⟨#[]⟩ : ByteArray))) else (none)) else (none)) else (laws_FnPunycodeOne.j1 kj3 a1 l2 (⟨#[]⟩ : ByteArray) (⟨#[]⟩ : ByteArray))) = some r := by rw [if_neg (show ¬ (false = true) by decide)] at H; exact H
        clear H
        have H := H1
        clear H1
        have HC7 := Aside0.mk H
        clear H
        go_upto_if 21 with (fail)
        go_cut [7] (fun v7 wc => ∃ (kq : Nat) (x7_6 : ByteArray), v7 = .string x7_6 ∧ Aside0 (laws_FnPunycodeOne.j1 kq a1 l2 x7_6 (⟨#[]⟩ : ByteArray) = some r) ∧ Aside0 (kq ≤ kj3) ∧ Aside0 (Below w.heap.size w wc))
        case first =>
          have H := HC7.out
          clear HC7
          by_cases c8 : (l0.length : Int) > 0
          · rw [if_pos c8] at H
            have c8b0 : decide (0 < (l0.length : Int)) = true := decide_eq_true c8
            have c8b1 : decide (0 < l0.length) = true := decide_eq_true (by omega)
            clear c8
            (first | rw [c8b0] | (simp only [i64_w, i32_w]; rw [c8b0]) | rw [c8b1] | skip)
            obtain ⟨ji9, hji9⟩ : ∃ j_ : Int, (mn (l0.length : Int) 1000) = j_ := ⟨_, rfl⟩
            replace H : (if 0 ≤ (ji9) then (if (ji9) ≤ (l0.length : Int) then ((spec_AnPlain.f kj3 (l0.take ((ji9) : Int).toNat)).bind fun t137 => (laws_FnPunycodeOne.j1 kj3 a1 l2 t137 (⟨#[]⟩ : ByteArray))) else (none)) else (none)) = some r := by first | (rw [hji9] at H; exact H) | (simp only [hji9] at H ⊢; exact H)
            (try (have hji9h : ji9 ≤ 1000 := by (rw [← hji9]; unfold mn; (repeat' split) <;> omega)))
            (try (have hji9g : ji9 ≤ 64 := by omega))
            (try (have hji9l : 0 ≤ ji9 := by (rw [← hji9]; unfold mn; (repeat' split) <;> omega)))
            (try (have hji9m : 0 ≤ ji9 := by omega))
            have hji9_ : (if 1000 < (l0.length : Int) then 1000 else (l0.length : Int)) = ji9 := hji9
            by_cases c10 : 0 ≤ (ji9)
            · rw [if_pos c10] at H
              have c10b0 := eq_true c10
              have c10b1 : decide (0 ≤ (ji9)) = true := decide_eq_true c10
              clear c10
              by_cases c11 : (ji9) ≤ (l0.length : Int)
              · rw [if_pos c11] at H
                have c11b0 := eq_true c11
                have c11b1 : decide ((ji9) ≤ (l0.length : Int)) = true := decide_eq_true c11
                clear c11
                replace H := Option.bind_eq_some_iff.mp H
                obtain ⟨t137, A120, H⟩ := H
                replace H : (laws_FnPunycodeOne.j1 kj3 a1 l2 t137 (⟨#[]⟩ : ByteArray)) = some r := H
                have A12 := Aside0.mk A120
                clear A120
                have H' := Aside0.mk H
                clear H
                obtain ⟨i013, hi013, _, hsz13, _⟩ := info_parts info5
                obtain ⟨hcut13, hA13, hC13⟩ := print_take_of (P := Tryd.prog) (Value.int .u8) 0 22 5 .i64 Tryd.underlying22 hi013 hsz13 A0 c0 l0 (ji9) (of_decide_eq_true (by first | (with_reducible assumption) | assumption)) (of_decide_eq_true (by first | (with_reducible assumption) | assumption)) HC0.out
                have HR136 := Aside0.mk (Kd.C_of_reads (h1 := fun _ => rfl) (hA13 _ (Kd.reads_of_C HR0.out)))
                have HC136 := Aside0.mk hC13
                clear hA13 hC13 hi013 hsz13
                go_wp2_with (first | (go_at_call 6; refine (idCut_at _ _ _ _ _ _ (by assumption) (by assumption)).mono ?_; rintro e w_ ⟨rfl, rfl⟩) | ((with_reducible refine gate_callee (f := 5) rfl ?_); refine goesL_ (some 24) rfl rfl Tryd.func5 (by kernel_rfl) rfl #[.slice A0 (l0.take ((ji9) : Int).toNat).length c0] rfl (by (try simp only [List.map_toArray, List.map_cons, List.map_nil]); first | done | (rw [show (l0.take ((ji9) : Int).toNat).length = (ji9).toNat from (by rw [List.length_take]; have h_ : ((ji9) : Int) ≤ (l0.length : Int) := of_decide_eq_true (by first | (with_reducible assumption) | assumption); omega)] <;> rfl) | (simp only [hji9]; rfl) | rfl | (simp only [List.length_drop, List.length_take]; rfl)) ?_; (with_reducible refine (spec_AnPlain.calls kj3 _ _ (l0.take ((ji9) : Int).toNat) t137 _ ?side1 ?side2 A12.out).mono ?_); (case side1 => repeat (first | exact (Kd.C_below HR136.out HB.out) | (with_reducible refine Kd.C_alloc ?_ _) | (with_reducible refine Kd.C_drewN ?_ _) | (with_reducible refine Kd.C_drew ?_))); (case side2 => exact HC136.out); rintro e w14 ⟨rfl, hb⟩; refine ⟨_, rfl, ?_⟩; have n0_ := Aside0.mk (below_step (by repeat (first | (with_reducible first | exact HB.out | apply below_alloc | apply pw_below_drewN | apply below_drew1) | exact HB.out)) hb); clear HB; have HB := n0_; clear n0_; (try clear hb); (try clear hb2); (try clear hk); (try clear hi)))
                go_meet
                case rel => exact ⟨_, (t137), (by first | rfl | (simp; done) | (simp [*]; done)), H', ⟨by have := HJ3.out; first | omega | exact Nat.le_refl _⟩, ⟨by repeat (first | (with_reducible first | exact HB.out | apply below_alloc | apply pw_below_drewN | apply below_drew1) | exact HB.out)⟩⟩
              · rw [if_neg c11] at H
                exact absurd H (by simp)
            · rw [if_neg c10] at H
              exact absurd H (by simp)
          · rw [if_neg c8] at H
            have c8b0 : decide (0 < (l0.length : Int)) = false := decide_eq_false c8
            have c8b1 : decide (0 < l0.length) = false := decide_eq_false (by omega)
            clear c8
            (first | rw [c8b0] | (simp only [i64_w, i32_w]; rw [c8b0]) | rw [c8b1] | skip)
            have H' := Aside0.mk H
            clear H
            go_wp2
            go_meet
            case rel => exact ⟨_, ((⟨#[]⟩ : ByteArray)), (by first | rfl | (simp; done) | (simp [*]; done)), H', ⟨by have := HJ3.out; first | omega | exact Nat.le_refl _⟩, ⟨by repeat (first | (with_reducible first | exact HB.out | apply below_alloc | apply pw_below_drewN | apply below_drew1) | exact HB.out)⟩⟩
        case rest =>
          clear HC7
          try clear c1
          try clear c2
          try clear p2
          try clear c3
          try clear c5
          try clear c5b0
          try clear c5b1
          try clear c6
          try clear c8
          try clear c8b0
          try clear c8b1
          try clear c10
          try clear c10b0
          try clear c10b1
          try clear c11
          try clear c11b0
          try clear c11b1
          try clear p2
          obtain ⟨kq, x7_6, rfl, HA, HJ6, HB⟩ := hcut
          cases kq with
          | zero => exact absurd HA.out (by simp [laws_FnPunycodeOne.j1])
          | succ kj6 =>
            have H := HA.out
            clear HA
            simp only [laws_FnPunycodeOne.j1] at H
            have HC15 := Aside0.mk H
            clear H
            go_upto_if 27 with (fail)
            go_cut [8] (fun v8 wc => ∃ (kq : Nat) (x8_14 : ByteArray), v8 = .string x8_14 ∧ Aside0 (laws_FnPunycodeOne.j2 kq a1 x7_6 x8_14 = some r) ∧ Aside0 (kq ≤ kj6) ∧ Aside0 (Below w.heap.size w wc))
            case first =>
              have H := HC15.out
              clear HC15
              by_cases c16 : (l2.length : Int) > 0
              · rw [if_pos c16] at H
                have c16b0 : decide (0 < (l2.length : Int)) = true := decide_eq_true c16
                have c16b1 : decide (0 < l2.length) = true := decide_eq_true (by omega)
                clear c16
                (first | rw [c16b0] | (simp only [i64_w, i32_w]; rw [c16b0]) | rw [c16b1] | skip)
                obtain ⟨ji17, hji17⟩ : ∃ j_ : Int, (mn (l2.length : Int) 1000) = j_ := ⟨_, rfl⟩
                replace H : (if 0 ≤ (ji17) then (if (ji17) ≤ (l2.length : Int) then ((spec_AnPlain.f kj6 (l2.take ((ji17) : Int).toNat)).bind fun t139 => (laws_FnPunycodeOne.j2 kj6 a1 x7_6 t139)) else (none)) else (none)) = some r := by first | (rw [hji17] at H; exact H) | (simp only [hji17] at H ⊢; exact H)
                have hji17_ : (if 1000 < (l2.length : Int) then 1000 else (l2.length : Int)) = ji17 := hji17
                by_cases c18 : 0 ≤ (ji17)
                · rw [if_pos c18] at H
                  have c18b0 := eq_true c18
                  have c18b1 : decide (0 ≤ (ji17)) = true := decide_eq_true c18
                  clear c18
                  by_cases c19 : (ji17) ≤ (l2.length : Int)
                  · rw [if_pos c19] at H
                    have c19b0 := eq_true c19
                    have c19b1 : decide ((ji17) ≤ (l2.length : Int)) = true := decide_eq_true c19
                    clear c19
                    replace H := Option.bind_eq_some_iff.mp H
                    obtain ⟨t139, A200, H⟩ := H
                    replace H : (laws_FnPunycodeOne.j2 kj6 a1 x7_6 t139) = some r := H
                    have A20 := Aside0.mk A200
                    clear A200
                    have H' := Aside0.mk H
                    clear H
                    obtain ⟨i021, hi021, _, hsz21, _⟩ := info_parts info5
                    obtain ⟨hcut21, hA21, hC21⟩ := print_take_of (P := Tryd.prog) (Value.int .u8) 0 22 5 .i64 Tryd.underlying22 hi021 hsz21 A2 c2 l2 (ji17) (of_decide_eq_true (by first | (with_reducible assumption) | assumption)) (of_decide_eq_true (by first | (with_reducible assumption) | assumption)) HC2.out
                    have HR138 := Aside0.mk (Kd.C_of_reads (h1 := fun _ => rfl) (hA21 _ (Kd.reads_of_C HR2.out)))
                    have HC138 := Aside0.mk hC21
                    clear hA21 hC21 hi021 hsz21
                    go_wp2_with (first | (go_at_call 6; refine (idCut_at _ _ _ _ _ _ (by assumption) (by assumption)).mono ?_; rintro e w_ ⟨rfl, rfl⟩) | ((with_reducible refine gate_callee (f := 5) rfl ?_); refine goesL_ (some 30) rfl rfl Tryd.func5 (by kernel_rfl) rfl #[.slice A2 (l2.take ((ji17) : Int).toNat).length c2] rfl (by (try simp only [List.map_toArray, List.map_cons, List.map_nil]); first | done | (rw [show (l2.take ((ji17) : Int).toNat).length = (ji17).toNat from (by rw [List.length_take]; have h_ : ((ji17) : Int) ≤ (l2.length : Int) := of_decide_eq_true (by first | (with_reducible assumption) | assumption); omega)] <;> rfl) | (simp only [hji17]; rfl) | rfl | (simp only [List.length_drop, List.length_take]; rfl)) ?_; (with_reducible refine (spec_AnPlain.calls kj6 _ _ (l2.take ((ji17) : Int).toNat) t139 _ ?side1 ?side2 A20.out).mono ?_); (case side1 => repeat (first | exact (Kd.C_below HR138.out HB.out) | (with_reducible refine Kd.C_alloc ?_ _) | (with_reducible refine Kd.C_drewN ?_ _) | (with_reducible refine Kd.C_drew ?_))); (case side2 => exact HC138.out); rintro e w22 ⟨rfl, hb⟩; refine ⟨_, rfl, ?_⟩; have n0_ := Aside0.mk (below_step (by repeat (first | (with_reducible first | exact HB.out | apply below_alloc | apply pw_below_drewN | apply below_drew1) | exact HB.out)) hb); clear HB; have HB := n0_; clear n0_; (try clear hb); (try clear hb2); (try clear hk); (try clear hi)))
                    go_meet
                    case rel => exact ⟨_, (t139), (by first | rfl | (simp; done) | (simp [*]; done)), H', ⟨by have := HJ3.out; have := HJ6.out; first | omega | exact Nat.le_refl _⟩, ⟨by repeat (first | (with_reducible first | exact HB.out | apply below_alloc | apply pw_below_drewN | apply below_drew1) | exact HB.out)⟩⟩
                  · rw [if_neg c19] at H
                    exact absurd H (by simp)
                · rw [if_neg c18] at H
                  exact absurd H (by simp)
              · rw [if_neg c16] at H
                have c16b0 : decide (0 < (l2.length : Int)) = false := decide_eq_false c16
                have c16b1 : decide (0 < l2.length) = false := decide_eq_false (by omega)
                clear c16
                (first | rw [c16b0] | (simp only [i64_w, i32_w]; rw [c16b0]) | rw [c16b1] | skip)
                have H' := Aside0.mk H
                clear H
                go_wp2
                go_meet
                case rel => exact ⟨_, ((⟨#[]⟩ : ByteArray)), (by first | rfl | (simp; done) | (simp [*]; done)), H', ⟨by have := HJ3.out; have := HJ6.out; first | omega | exact Nat.le_refl _⟩, ⟨by repeat (first | (with_reducible first | exact HB.out | apply below_alloc | apply pw_below_drewN | apply below_drew1) | exact HB.out)⟩⟩
            case rest =>
              clear HC15
              try clear c1
              try clear c2
              try clear p2
              try clear c3
              try clear c5
              try clear c5b0
              try clear c5b1
              try clear c6
              try clear c8
              try clear c8b0
              try clear c8b1
              try clear c10
              try clear c10b0
              try clear c10b1
              try clear c11
              try clear c11b0
              try clear c11b1
              try clear c16
              try clear c16b0
              try clear c16b1
              try clear c18
              try clear c18b0
              try clear c18b1
              try clear c19
              try clear c19b0
              try clear c19b1
              try clear p2
              obtain ⟨kq, x8_14, rfl, HA, HJ14, HB⟩ := hcut
              cases kq with
              | zero => exact absurd HA.out (by simp [laws_FnPunycodeOne.j2])
              | succ kj14 =>
                have H := HA.out
                clear HA
                simp only [laws_FnPunycodeOne.j2] at H
                replace H := Option.bind_eq_some_iff.mp H
                obtain ⟨t140, A230, H⟩ := H
                replace H : ((spec_AnCharacters.f kj14 (([wrap64 (160 + t140)] : List Int))).bind fun t144 => ((spec_AnString.f kj14 t144).bind fun t147 => (if x7_6.size + t147.size ≤ 9223372036854775807 then (if (x7_6 ++ t147).size + x8_14.size ≤ 9223372036854775807 then ((spec_IdCharacters.f ((x7_6 ++ t147) ++ x8_14)).bind fun bt148 => ((spec_IdPunycode.f kj14 bt148.1).bind fun t152 => ((spec_AnString.f kj14 bt148.1).bind fun t153 => ((laws_doorPuny.f t152 t153).bind fun t154 => (some t154))))) else (none)) else (none)))) = some r := H
                have A23 := Aside0.mk A230
                clear A230
                obtain ⟨y141, hy141⟩ : ∃ y_ : List Int, y_ = (([wrap64 (160 + t140)] : List Int)) := ⟨_, rfl⟩
                replace H : ((spec_AnCharacters.f kj14 y141).bind fun t144 => ((spec_AnString.f kj14 t144).bind fun t147 => (if x7_6.size + t147.size ≤ 9223372036854775807 then (if (x7_6 ++ t147).size + x8_14.size ≤ 9223372036854775807 then ((spec_IdCharacters.f ((x7_6 ++ t147) ++ x8_14)).bind fun bt148 => ((spec_IdPunycode.f kj14 bt148.1).bind fun t152 => ((spec_AnString.f kj14 bt148.1).bind fun t153 => ((laws_doorPuny.f t152 t153).bind fun t154 => (some t154))))) else (none)) else (none)))) = some r := by first | (rw [hy141]; with_reducible exact H) | (have H2_ := (Option.bind_some _ _).symm.trans H; rw [hy141]; with_reducible exact H2_) | (have H2_ := (Option.bind_some _ _).symm.trans H; with_reducible exact H2_) | with_reducible exact H | (rw [hy141]; exact H) | exact H
                have Ny141 := Aside0.mk hy141
                clear hy141
                replace H := Option.bind_eq_some_iff.mp H
                obtain ⟨t144, A240, H⟩ := H
                replace H : ((spec_AnString.f kj14 t144).bind fun t147 => (if x7_6.size + t147.size ≤ 9223372036854775807 then (if (x7_6 ++ t147).size + x8_14.size ≤ 9223372036854775807 then ((spec_IdCharacters.f ((x7_6 ++ t147) ++ x8_14)).bind fun bt148 => ((spec_IdPunycode.f kj14 bt148.1).bind fun t152 => ((spec_AnString.f kj14 bt148.1).bind fun t153 => ((laws_doorPuny.f t152 t153).bind fun t154 => (some t154))))) else (none)) else (none))) = some r := H
                have A24 := Aside0.mk A240
                clear A240
                replace H := Option.bind_eq_some_iff.mp H
                obtain ⟨t147, A250, H⟩ := H
                replace H : (if x7_6.size + t147.size ≤ 9223372036854775807 then (if (x7_6 ++ t147).size + x8_14.size ≤ 9223372036854775807 then ((spec_IdCharacters.f ((x7_6 ++ t147) ++ x8_14)).bind fun bt148 => ((spec_IdPunycode.f kj14 bt148.1).bind fun t152 => ((spec_AnString.f kj14 bt148.1).bind fun t153 => ((laws_doorPuny.f t152 t153).bind fun t154 => (some t154))))) else (none)) else (none)) = some r := H
                have A25 := Aside0.mk A250
                clear A250
                by_cases c26 : x7_6.size + t147.size ≤ 9223372036854775807
                · rw [if_pos c26] at H
                  have c26b0 := eq_true c26
                  have c26b1 : decide (x7_6.size + t147.size ≤ 9223372036854775807) = true := decide_eq_true c26
                  try have c26b2 : (9223372036854775807 < x7_6.size + t147.size) = False := eq_false (Nat.not_lt.2 c26)
                  by_cases c27 : (x7_6 ++ t147).size + x8_14.size ≤ 9223372036854775807
                  · rw [if_pos c27] at H
                    have c27b0 := eq_true c27
                    have c27b1 : decide ((x7_6 ++ t147).size + x8_14.size ≤ 9223372036854775807) = true := decide_eq_true c27
                    try have c27b2 : (9223372036854775807 < (x7_6 ++ t147).size + x8_14.size) = False := eq_false (Nat.not_lt.2 c27)
                    try have c27b4 : (9223372036854775807 < x7_6.size + t147.size + x8_14.size) = False := eq_false (by have h_ := c27; (repeat rw [ByteArray.size_append] at h_); exact Nat.not_lt.2 h_)
                    replace H := Option.bind_eq_some_iff.mp H
                    obtain ⟨⟨t148, t149⟩, A280, H⟩ := H
                    replace H : ((spec_IdPunycode.f kj14 t148).bind fun t152 => ((spec_AnString.f kj14 t148).bind fun t153 => ((laws_doorPuny.f t152 t153).bind fun t154 => (some t154)))) = some r := H
                    have A28 := Aside0.mk A280
                    clear A280
                    replace H := Option.bind_eq_some_iff.mp H
                    obtain ⟨t152, A290, H⟩ := H
                    replace H : ((spec_AnString.f kj14 t148).bind fun t153 => ((laws_doorPuny.f t152 t153).bind fun t154 => (some t154))) = some r := H
                    have A29 := Aside0.mk A290
                    clear A290
                    replace H := Option.bind_eq_some_iff.mp H
                    obtain ⟨t153, A300, H⟩ := H
                    replace H : ((laws_doorPuny.f t152 t153).bind fun t154 => (some t154)) = some r := H
                    have A30 := Aside0.mk A300
                    clear A300
                    replace H := Option.bind_eq_some_iff.mp H
                    obtain ⟨t154, A310, H⟩ := H
                    replace H : (some t154) = some r := H
                    have A31 := Aside0.mk A310
                    clear A310
                    obtain rfl := Option.some.inj H
                    go_wp2_with (first | (go_at_call 6; refine (idCut_at _ _ _ _ _ _ (by assumption) (by assumption)).mono ?_; rintro e w_ ⟨rfl, rfl⟩) | ((with_reducible refine gate_callee (f := 10) rfl ?_); refine goesL_ (some 34) rfl rfl Tryd.func10 (by kernel_rfl) rfl #[.int .i64 a1, .int .i64 1113952] rfl (by (try simp only [List.map_toArray, List.map_cons, List.map_nil]); first | done | rfl | (simp only [List.length_drop, List.length_take]; rfl)) ?_; (with_reducible refine (laws_idAt.calls a1 1113952 t140 _ A23.out).mono ?_); rintro e w' ⟨rfl, ⟨nd, rfl⟩⟩; refine ⟨_, rfl, ?_⟩) | ((with_reducible refine gate_dst (N := 36) rfl ?_); (try (refine gate_guard (by rfl) ?_; dsimp only)); refine Kd.R_lit (Kd.int .i64) _ 3 ?hg (N := 36) ?hd (xs := ([wrap64 (160 + t140)] : List Int)) (inner := [.int .i64 (wrap64 (160 + t140))]) (ok := fun _ => True) (okp := fun _ => True) ?hr ?hp (fun _ hk => hk) trivial (Below.refl _ _) (Nat.le_refl _) (by simp) ?_; (case hd => rfl); (case hg => rfl); (case hr => first | (go_simp; done) | (go_simp; rfl)); (case hp => exact (Reps.one (show Kd.M (Kd.int .i64) _ _ _ (wrap64 (160 + t140)) [.int .i64 (wrap64 (160 + t140))] from rfl) (Reps.none _ _))); intro v142 w32 ho33 hb hg_ hnew_; clear hg_ hnew_; (first | rw [← Ny141.out] at ho33 | (simp only [Int.reduceToNat] at ho33; rw [← Ny141.out] at ho33)); have n0_ := Aside0.mk (Kd.R_lower ho33 (below_size (by repeat (first | (with_reducible first | exact HB.out | apply below_alloc | apply pw_below_drewN | apply below_drew1) | exact HB.out)))); have n1_ := Aside0.mk (below_step (by repeat (first | (with_reducible first | exact HB.out | apply below_alloc | apply pw_below_drewN | apply below_drew1) | exact HB.out)) hb); clear HB; have HO143 := n0_; have HB := n1_; clear n0_ n1_; clear hb ho33; obtain ⟨Ao34, co34, eo34⟩ := Kd.R_slice HO143.out; subst eo34) | ((with_reducible refine gate_callee (f := 9) rfl ?_); refine goesL_ (some 37) rfl rfl Tryd.func9 (by kernel_rfl) rfl #[.slice Ao34 y141.length co34] rfl (by (try simp only [List.map_toArray, List.map_cons, List.map_nil]); first | done | rfl | (simp only [List.length_drop, List.length_take]; rfl)) ?_; (with_reducible refine (spec_AnCharacters.calls kj14 _ _ y141 t144 _ ?side1 ?side2 A24.out).mono ?_); (case side1 => repeat (first | exact (Kd.R_reads' HO143.out).2.2 | (with_reducible refine Kd.C_alloc ?_ _) | (with_reducible refine Kd.C_drewN ?_ _) | (with_reducible refine Kd.C_drew ?_))); (case side2 => exact (Kd.R_reads' HO143.out).2.1); rintro e w35 ⟨v145, rfl, ho0, hb⟩; refine ⟨_, rfl, ?_⟩; have n0_ := Aside0.mk (Kd.R_elder' (by (with_reducible repeat (first | apply Kd.R_alloc | apply Kd.R_drewN | apply Kd.R_drew)); exact HO143.out) (Kd.R_base ho0) hb); have n1_ := Aside0.mk (Kd.R_lower (Kd.R_new' ho0 (Kd.R_lt (by (with_reducible repeat (first | apply Kd.R_alloc | apply Kd.R_drewN | apply Kd.R_drew)); exact HO143.out))) (below_size (by repeat (first | (with_reducible first | exact HB.out | apply below_alloc | apply pw_below_drewN | apply below_drew1) | exact HB.out)))); have n2_ := Aside0.mk (below_step (by repeat (first | (with_reducible first | exact HB.out | apply below_alloc | apply pw_below_drewN | apply below_drew1) | exact HB.out)) hb); clear HO143; clear HB; have HO143 := n0_; have HO146 := n1_; have HB := n2_; clear n0_ n1_ n2_; (try clear hb); (try clear hb2); (try clear hk); (try clear hi); (try clear ho0); obtain ⟨Ao36, co36, eo36⟩ := Kd.R_slice HO146.out; subst eo36) | ((with_reducible refine gate_callee (f := 8) rfl ?_); refine goesL_ (some 38) rfl rfl Tryd.func8 (by kernel_rfl) rfl #[.slice Ao36 t144.length co36] rfl (by (try simp only [List.map_toArray, List.map_cons, List.map_nil]); first | done | rfl | (simp only [List.length_drop, List.length_take]; rfl)) ?_; (with_reducible refine (spec_AnString.calls kj14 _ _ t144 t147 _ ?side1 ?side2 A25.out).mono ?_); (case side1 => repeat (first | exact (Kd.R_reads' HO146.out).2.2 | (with_reducible refine Kd.C_alloc ?_ _) | (with_reducible refine Kd.C_drewN ?_ _) | (with_reducible refine Kd.C_drew ?_))); (case side2 => exact (Kd.R_reads' HO146.out).2.1); rintro e w' ⟨rfl, ⟨nd, rfl⟩⟩; refine ⟨_, rfl, ?_⟩) | ((with_reducible refine gate_callee (f := 7) rfl ?_); refine goesL_ (some 42) rfl rfl Tryd.func7 (by kernel_rfl) rfl #[.string ((x7_6 ++ t147) ++ x8_14)] rfl (by (try simp only [List.map_toArray, List.map_cons, List.map_nil]); first | done | rfl | (simp only [List.length_drop, List.length_take]; rfl)) ?_; (with_reducible refine (spec_IdCharacters.calls ((x7_6 ++ t147) ++ x8_14) t148 t149 _ (show UtfIs _ from ?side1) A28.out).mono ?_); (case side1 => exact Stays.below hT_ (by first | (repeat (first | (with_reducible first | exact HB.out | apply below_alloc | apply pw_below_drewN | apply below_drew1) | exact HB.out)) | (repeat (first | exact Below.refl _ _ | apply below_drew1 | apply pw_below_drewN)))); rintro e w37 ⟨v150, rfl, ho0, hb⟩; refine ⟨_, rfl, ?_⟩; have n0_ := Aside0.mk (Kd.R_below (by (with_reducible repeat (first | apply Kd.R_alloc | apply Kd.R_drewN | apply Kd.R_drew)); exact HO143.out) hb); have n1_ := Aside0.mk (Kd.R_below (by (with_reducible repeat (first | apply Kd.R_alloc | apply Kd.R_drewN | apply Kd.R_drew)); exact HO146.out) hb); have n2_ := Aside0.mk (Kd.R_lower ho0 (below_size (by repeat (first | (with_reducible first | exact HB.out | apply below_alloc | apply pw_below_drewN | apply below_drew1) | exact HB.out)))); have n3_ := Aside0.mk (below_step (by repeat (first | (with_reducible first | exact HB.out | apply below_alloc | apply pw_below_drewN | apply below_drew1) | exact HB.out)) hb); clear HO143; clear HO146; clear HB; have HO143 := n0_; have HO146 := n1_; have HO151 := n2_; have HB := n3_; clear n0_ n1_ n2_ n3_; (try clear hb); (try clear hb2); (try clear hk); (try clear hi); (try clear ho0); obtain ⟨Ao38, co38, eo38⟩ := Kd.R_slice HO151.out; subst eo38) | ((with_reducible refine gate_callee (f := 12) rfl ?_); refine goesL_ (some 46) rfl rfl Tryd.func12 (by kernel_rfl) rfl #[.slice Ao38 t148.length co38] rfl (by (try simp only [List.map_toArray, List.map_cons, List.map_nil]); first | done | rfl | (simp only [List.length_drop, List.length_take]; rfl)) ?_; (with_reducible refine (spec_IdPunycode.calls kj14 _ _ t148 t152 _ ?side1 ?side2 A29.out).mono ?_); (case side1 => repeat (first | exact (Kd.R_reads' HO151.out).2.2 | (with_reducible refine Kd.C_alloc ?_ _) | (with_reducible refine Kd.C_drewN ?_ _) | (with_reducible refine Kd.C_drew ?_))); (case side2 => exact (Kd.R_reads' HO151.out).2.1); rintro e w39 ⟨rfl, hb⟩; refine ⟨_, rfl, ?_⟩; have n0_ := Aside0.mk (Kd.R_below (by (with_reducible repeat (first | apply Kd.R_alloc | apply Kd.R_drewN | apply Kd.R_drew)); exact HO143.out) hb); have n1_ := Aside0.mk (Kd.R_below (by (with_reducible repeat (first | apply Kd.R_alloc | apply Kd.R_drewN | apply Kd.R_drew)); exact HO146.out) hb); have n2_ := Aside0.mk (Kd.R_below (by (with_reducible repeat (first | apply Kd.R_alloc | apply Kd.R_drewN | apply Kd.R_drew)); exact HO151.out) hb); have n3_ := Aside0.mk (below_step (by repeat (first | (with_reducible first | exact HB.out | apply below_alloc | apply pw_below_drewN | apply below_drew1) | exact HB.out)) hb); clear HO143; clear HO146; clear HO151; clear HB; have HO143 := n0_; have HO146 := n1_; have HO151 := n2_; have HB := n3_; clear n0_ n1_ n2_ n3_; (try clear hb); (try clear hb2); (try clear hk); (try clear hi)) | ((with_reducible refine gate_callee (f := 8) rfl ?_); refine goesL_ (some 48) rfl rfl Tryd.func8 (by kernel_rfl) rfl #[.slice Ao38 t148.length co38] rfl (by (try simp only [List.map_toArray, List.map_cons, List.map_nil]); first | done | rfl | (simp only [List.length_drop, List.length_take]; rfl)) ?_; (with_reducible refine (spec_AnString.calls kj14 _ _ t148 t153 _ ?side1 ?side2 A30.out).mono ?_); (case side1 => repeat (first | exact (Kd.R_reads' HO151.out).2.2 | (with_reducible refine Kd.C_alloc ?_ _) | (with_reducible refine Kd.C_drewN ?_ _) | (with_reducible refine Kd.C_drew ?_))); (case side2 => exact (Kd.R_reads' HO151.out).2.1); rintro e w' ⟨rfl, ⟨nd, rfl⟩⟩; refine ⟨_, rfl, ?_⟩) | ((with_reducible refine gate_callee (f := 11) rfl ?_); refine goesL_ (some 49) rfl rfl Tryd.func11 (by kernel_rfl) rfl #[.string t152, .string t153] rfl (by (try simp only [List.map_toArray, List.map_cons, List.map_nil]); first | done | rfl | (simp only [List.length_drop, List.length_take]; rfl)) ?_; (with_reducible refine (laws_doorPuny.calls t152 t153 t154 _ A31.out).mono ?_); rintro e w40 ⟨rfl, hb⟩; refine ⟨_, rfl, ?_⟩; have n0_ := Aside0.mk (Kd.R_below (by (with_reducible repeat (first | apply Kd.R_alloc | apply Kd.R_drewN | apply Kd.R_drew)); exact HO143.out) hb); have n1_ := Aside0.mk (Kd.R_below (by (with_reducible repeat (first | apply Kd.R_alloc | apply Kd.R_drewN | apply Kd.R_drew)); exact HO146.out) hb); have n2_ := Aside0.mk (Kd.R_below (by (with_reducible repeat (first | apply Kd.R_alloc | apply Kd.R_drewN | apply Kd.R_drew)); exact HO151.out) hb); have n3_ := Aside0.mk (below_step (by repeat (first | (with_reducible first | exact HB.out | apply below_alloc | apply pw_below_drewN | apply below_drew1) | exact HB.out)) hb); clear HO143; clear HO146; clear HO151; clear HB; have HO143 := n0_; have HO146 := n1_; have HO151 := n2_; have HB := n3_; clear n0_ n1_ n2_ n3_; (try clear hb); (try clear hb2); (try clear hk); (try clear hi)))
                    go_ret
                    exact ⟨by first | rfl | (simp [errW_none, errW_some] <;> rfl) | (simp [*, errW_none, errW_some] <;> rfl), by repeat (first | (with_reducible first | exact HB.out | apply below_alloc | apply pw_below_drewN | apply below_drew1) | exact HB.out)⟩
                  · rw [if_neg c27] at H
                    exact absurd H (by simp)
                · rw [if_neg c26] at H
                  exact absurd H (by simp)

/-- THE ONE PURE STATEMENT of laws_FnPunycodeOne: yours. -/
def laws_FnPunycodeOne.Pure : Prop := ∀ (l0 : List Int) (a1 : Int) (l2 : List Int), l0.length ≤ maxLen → l0.length * 1 ≤ 140737488351232 → (∀ x ∈ l0, (Lit.int .u8 x).wf = true) → (Lit.int .i64 a1).wf = true → l2.length ≤ maxLen → l2.length * 1 ≤ 140737488351232 → (∀ x ∈ l2, (Lit.int .u8 x).wf = true) → ∃ k, laws_FnPunycodeOne.f k l0 a1 l2 = some true
theorem laws_FnPunycodeOne.walk (P : laws_FnPunycodeOne.Pure) (a0 : Option Addr) (len0 cap0 : Nat) (z0 : List Int) (a1 : Int) (a2 : Option Addr) (len2 cap2 : Nat) (z2 : List Int) (w : World) (hT_ : UtfIs w) (w0 : (a0 = none ∧ len0 = 0 ∧ cap0 = 0 ∧ z0 = []) ∨ ∃ x, a0 = some x ∧ len0 ≤ cap0 ∧ cap0 ≤ maxLen ∧ z0.length = cap0 ∧ (∀ i, i < z0.length → w.cell? (x.add i) = some (.int .u8 (z0.getD i 0))) ∧ ∀ n ∈ z0, (Lit.int .u8 n).wf = true) (y0 : len0 * 1 ≤ 140737488351232) (w1 : (Lit.int .i64 a1).wf = true) (w2 : (a2 = none ∧ len2 = 0 ∧ cap2 = 0 ∧ z2 = []) ∨ ∃ x, a2 = some x ∧ len2 ≤ cap2 ∧ cap2 ≤ maxLen ∧ z2.length = cap2 ∧ (∀ i, i < z2.length → w.cell? (x.add i) = some (.int .u8 (z2.getD i 0))) ∧ ∀ n ∈ z2, (Lit.int .u8 n).wf = true) (y2 : len2 * 1 ≤ 140737488351232) :
    Calls Tryd.prog 3 #[.slice a0 len0 cap0, .int .i64 a1, .slice a2 len2 cap2] w fun e w' => e = .returned (.bool true) ∧ Below w.heap.size w w' := by
  obtain ⟨l0, rfl, hr0, hm0, hw0, hc0⟩ := ReadsInt.ofRowC w0
  obtain ⟨l2, rfl, hr2, hm2, hw2, hc2⟩ := ReadsInt.ofRowC w2
  obtain ⟨k, h⟩ := P l0 a1 l2 hm0 y0 hw0 w1 hm2 y2 hw2
  refine (laws_FnPunycodeOne.calls k _ _ l0 a1 _ _ l2 true w (Kd.C_of_reads (d := (0 : Int)) (h1 := fun _ => rfl) hr0) hc0 (Kd.C_of_reads (d := (0 : Int)) (h1 := fun _ => rfl) hr2) hc2 hT_ h).mono ?_
  rintro e w' ⟨rfl, hd⟩
  exact ⟨rfl, hd⟩

end Go.Proofs.YtkhbmkccbhkolaaDoor.PFnPunycodeOne
