/- Written by a program of this session (wip/tools/myprint.py) with the kit's print: contracts of the functions that one statement reaches; functions that are proved by hand are taken as printed. Conditions: none. -/
import Derived.Test.YtkhbmkccbhkolaaDoorPFnIdentifierUnicodex0
import Derived.Test.YtkhbmkccbhkolaaDoorPFnIdentifierUnicodex2
namespace Go.Proofs.YtkhbmkccbhkolaaDoor.PFnIdentifierUnicode
open Go.RowKit Go.Proofs.YtkhbmkccbhkolaaDoorW.PrintWords Go.Proofs.YtkhbmkccbhkolaaDoorW.PrintLast Go.Proofs.YtkhbmkccbhkolaaDoorW.PrintMore
attribute [local go_sem] max2_int min2_int max_two min_two max_three min_three max_four min_four   -- for this text's walks alone
set_option linter.unusedVariables false
set_option linter.unusedSimpArgs false

/-! ### spec_idIsDigit: function 31 -/
def spec_idIsDigit.f (a0 : Int) : Option (Bool) := if a0 ≥ 48 then (some (decide (a0 ≤ 57))) else (some false)
set_option maxHeartbeats 8000000 in
set_option maxRecDepth 100000 in
theorem spec_idIsDigit.calls (a0 : Int) (r : Bool) (w : World) (h : spec_idIsDigit.f a0 = some r) :
    Calls Tryd.prog 31 #[.int .u8 a0] w fun e w' => e = .returned (.bool r) ∧ Drawn0 w w' := by
  have H : (if a0 ≥ 48 then (some (decide (a0 ≤ 57))) else (some false)) = some r := h
  clear h
  by_cases c2 : a0 ≥ 48
  · rw [if_pos c2] at H
    have c2b0 : decide (48 ≤ a0) = true := decide_eq_true c2
    clear c2
    obtain rfl := Option.some.inj H
    go_enter Tryd.func31, Tryd.ntmps31
    go_wp2
    go_ret
    exact ⟨by first | rfl | (simp; done) | (simp [*]; done), by repeat (first | exact Drawn0.refl _ | apply Drawn0.step)⟩
  · rw [if_neg c2] at H
    have c2b0 : decide (48 ≤ a0) = false := decide_eq_false c2
    clear c2
    obtain rfl := Option.some.inj H
    go_enter Tryd.func31, Tryd.ntmps31
    go_wp2
    go_ret
    exact ⟨by first | rfl | (simp; done) | (simp [*]; done), by repeat (first | exact Drawn0.refl _ | apply Drawn0.step)⟩

/-! ### spec_idIsLetter: function 32 -/
def spec_idIsLetter.f (a0 : Int) : Option (Bool) := if a0 ≥ 65 then (if a0 ≤ 90 then (some true) else (if a0 ≥ 97 then (some (decide (a0 ≤ 122))) else (some false))) else (if a0 ≥ 97 then (some (decide (a0 ≤ 122))) else (some false))
set_option maxHeartbeats 8000000 in
set_option maxRecDepth 100000 in
theorem spec_idIsLetter.calls (a0 : Int) (r : Bool) (w : World) (h : spec_idIsLetter.f a0 = some r) :
    Calls Tryd.prog 32 #[.int .u8 a0] w fun e w' => e = .returned (.bool r) ∧ Drawn0 w w' := by
  have H : (if a0 ≥ 65 then (if a0 ≤ 90 then (some true) else (if a0 ≥ 97 then (some (decide (a0 ≤ 122))) else (some false))) else (if a0 ≥ 97 then (some (decide (a0 ≤ 122))) else (some false))) = some r := h
  clear h
  by_cases c2 : a0 ≥ 65
  · rw [if_pos c2] at H
    have c2b0 : decide (65 ≤ a0) = true := decide_eq_true c2
    clear c2
    by_cases c3 : a0 ≤ 90
    · rw [if_pos c3] at H
      have c3b0 : decide (a0 ≤ 90) = true := decide_eq_true c3
      clear c3
      obtain rfl := Option.some.inj H
      go_enter Tryd.func32, Tryd.ntmps32
      go_wp2
      go_ret
      exact ⟨by first | rfl | (simp; done) | (simp [*]; done), by repeat (first | exact Drawn0.refl _ | apply Drawn0.step)⟩
    · rw [if_neg c3] at H
      have c3b0 : decide (a0 ≤ 90) = false := decide_eq_false c3
      clear c3
      by_cases c4 : a0 ≥ 97
      · rw [if_pos c4] at H
        have c4b0 : decide (97 ≤ a0) = true := decide_eq_true c4
        clear c4
        obtain rfl := Option.some.inj H
        go_enter Tryd.func32, Tryd.ntmps32
        go_wp2
        go_ret
        exact ⟨by first | rfl | (simp; done) | (simp [*]; done), by repeat (first | exact Drawn0.refl _ | apply Drawn0.step)⟩
      · rw [if_neg c4] at H
        have c4b0 : decide (97 ≤ a0) = false := decide_eq_false c4
        clear c4
        obtain rfl := Option.some.inj H
        go_enter Tryd.func32, Tryd.ntmps32
        go_wp2
        go_ret
        exact ⟨by first | rfl | (simp; done) | (simp [*]; done), by repeat (first | exact Drawn0.refl _ | apply Drawn0.step)⟩
  · rw [if_neg c2] at H
    have c2b0 : decide (65 ≤ a0) = false := decide_eq_false c2
    clear c2
    by_cases c5 : a0 ≥ 97
    · rw [if_pos c5] at H
      have c5b0 : decide (97 ≤ a0) = true := decide_eq_true c5
      clear c5
      obtain rfl := Option.some.inj H
      go_enter Tryd.func32, Tryd.ntmps32
      go_wp2
      go_ret
      exact ⟨by first | rfl | (simp; done) | (simp [*]; done), by repeat (first | exact Drawn0.refl _ | apply Drawn0.step)⟩
    · rw [if_neg c5] at H
      have c5b0 : decide (97 ≤ a0) = false := decide_eq_false c5
      clear c5
      obtain rfl := Option.some.inj H
      go_enter Tryd.func32, Tryd.ntmps32
      go_wp2
      go_ret
      exact ⟨by first | rfl | (simp; done) | (simp [*]; done), by repeat (first | exact Drawn0.refl _ | apply Drawn0.step)⟩

/-! ### spec_IdIsPlain: function 24 -/
def spec_IdIsPlain.l0 : Nat → ByteArray → Int → Int → Option (Bool)
  | 0, _, _, _ => none
  | k + 1, x0, x5, x6 => if x6 < x5 then (if 0 ≤ x6 then (if x6 < (x0.size : Int) then ((spec_idIsDigit.f (bt x0 x6)).bind fun t131 => (if t131 = true then (spec_IdIsPlain.l0 k x0 x5 (wrap64 (x6 + 1))) else (if (bt x0 x6) = 95 then (spec_IdIsPlain.l0 k x0 x5 (wrap64 (x6 + 1))) else ((spec_idIsLetter.f (bt x0 x6)).bind fun t132 => (if t132 = true then (spec_IdIsPlain.l0 k x0 x5 (wrap64 (x6 + 1))) else (some false)))))) else (none)) else (none)) else (some true)
def spec_IdIsPlain.f (k : Nat) (a0 : ByteArray) : Option (Bool) := spec_IdIsPlain.l0 k a0 (a0.size : Int) 0
theorem spec_IdIsPlain.mono_l : ∀ k, (∀ y0 y1 y2, LeO (spec_IdIsPlain.l0 k y0 y1 y2) (spec_IdIsPlain.l0 (k + 1) y0 y1 y2))
  | 0 => fun _ _ _ r h => by simp [spec_IdIsPlain.l0] at h
  | k + 1 => by
    have ih0 := spec_IdIsPlain.mono_l k
    · intro y0 y1 y2
      unfold spec_IdIsPlain.l0
      repeat' first
      | (with_reducible exact ih0 _ _ _)
      | (with_reducible exact LeO.refl _)
      | (with_reducible exact LeO.none _)
      | (with_reducible refine LeO.ite ?_ ?_)
      | (with_reducible refine LeO.bind ?_ (fun _ => ?_))
      | exact ih0 _ _ _
      | exact LeO.none _
      | refine LeO.ite ?_ ?_
      | refine LeO.bind ?_ (fun _ => ?_)
theorem spec_IdIsPlain.mono : ∀ a0 k, LeO (spec_IdIsPlain.f k a0) (spec_IdIsPlain.f (k + 1) a0) := by
  intro a0 k
  have ih0 := spec_IdIsPlain.mono_l k
  unfold spec_IdIsPlain.f
  repeat' first
      | (with_reducible exact ih0 _ _ _)
      | (with_reducible exact LeO.refl _)
      | (with_reducible exact LeO.none _)
      | (with_reducible refine LeO.ite ?_ ?_)
      | (with_reducible refine LeO.bind ?_ (fun _ => ?_))
      | exact ih0 _ _ _
      | exact LeO.none _
      | refine LeO.ite ?_ ?_
      | refine LeO.bind ?_ (fun _ => ?_)
set_option maxHeartbeats 8000000 in
set_option maxRecDepth 100000 in
theorem spec_IdIsPlain.calls (k : Nat) (a0 : ByteArray) (r : Bool) (w : World) (h : spec_IdIsPlain.f k a0 = some r) :
    Calls Tryd.prog 24 #[.string a0] w fun e w' => e = .returned (.bool r) ∧ Drawn0 w w' := by
  have H : (spec_IdIsPlain.l0 k a0 (a0.size : Int) 0) = some r := h
  clear h
  have H' := Aside0.mk H
  clear H
  go_enter Tryd.func24, Tryd.ntmps24
  go_wp2
  go_loopg [6] k (fun kq v6 w' => ∃ (x6_1 : Int), v6 = .int .i64 x6_1 ∧ Aside0 (spec_IdIsPlain.l0 kq a0 (a0.size : Int) x6_1 = some r) ∧ Aside0 (kq ≤ k) ∧ Drawn0 w w')
  case atStart => exact ⟨(0), (by first | rfl | (simp; done) | (simp [*]; done)), H', ⟨Nat.le_refl _⟩, by repeat (first | exact Drawn0.refl _ | apply Drawn0.step)⟩
  case round =>
    clear H'
    obtain ⟨x6_1, rfl, HA, HK1, ⟨m1, rfl⟩⟩ := hrel
    cases gk with
    | zero => exact absurd HA.out (by simp [spec_IdIsPlain.l0])
    | succ k1 =>
      have H := HA.out
      clear HA
      simp only [spec_IdIsPlain.l0] at H
      by_cases c2 : x6_1 < (a0.size : Int)
      · rw [if_pos c2] at H
        have c2b0 : decide (x6_1 < (a0.size : Int)) = true := decide_eq_true c2
        clear c2
        by_cases c3 : 0 ≤ x6_1
        · rw [if_pos c3] at H
          have c3b0 : decide (0 ≤ x6_1) = true := decide_eq_true c3
          clear c3
          by_cases c4 : x6_1 < (a0.size : Int)
          · rw [if_pos c4] at H
            have c4b0 : decide (x6_1 < (a0.size : Int)) = true := decide_eq_true c4
            clear c4
            replace H := Option.bind_eq_some_iff.mp H
            obtain ⟨t131, A60, H⟩ := H
            replace H : (if t131 = true then (spec_IdIsPlain.l0 k1 a0 (a0.size : Int) (wrap64 (x6_1 + 1))) else (if (bt a0 x6_1) = 95 then (spec_IdIsPlain.l0 k1 a0 (a0.size : Int) (wrap64 (x6_1 + 1))) else ((spec_idIsLetter.f (bt a0 x6_1)).bind fun t132 => (if t132 = true then (spec_IdIsPlain.l0 k1 a0 (a0.size : Int) (wrap64 (x6_1 + 1))) else (some false))))) = some r := H
            have A6 := Aside0.mk A60
            clear A60
            by_cases c7 : t131 = true
            · subst c7
              have H1 : (spec_IdIsPlain.l0 k1 a0 (a0.size : Int) (wrap64 (x6_1 + 1))) = some r := by rw [if_pos rfl] at H; exact H
              clear H
              have H := H1
              clear H1
              have H' := Aside0.mk H
              clear H
              have p5 : 0 ≤ (x6_1 : Int) := of_decide_eq_true (by first | (with_reducible assumption) | assumption)
              have q5 : x6_1 < (a0.size : Int) := of_decide_eq_true (by first | (with_reducible assumption) | assumption)
              have hx5 := bt_at a0 x6_1
              replace p5 := eq_true p5
              replace q5 := eq_true q5
              go_wp2_with (first | (go_at_call 6; refine (idCut_at _ _ _ _ _ _ (by assumption) (by assumption)).mono ?_; rintro e w_ ⟨rfl, rfl⟩) | ((with_reducible refine gate_callee (f := 31) rfl ?_); refine goesL_ (some 12) rfl rfl Tryd.func31 (by kernel_rfl) rfl #[.int .u8 (bt a0 x6_1)] rfl (by (try simp only [List.map_toArray, List.map_cons, List.map_nil]); first | done | rfl | (simp only [List.length_drop, List.length_take]; rfl)) ?_; (with_reducible refine (spec_idIsDigit.calls (bt a0 x6_1) true _ A6.out).mono ?_); rintro e w' ⟨rfl, ⟨nd, rfl⟩⟩; refine ⟨_, rfl, ?_⟩))
              go_roundg k1
              case measure => have := HK1.out; omega
              case rel => exact ⟨(wrap64 (x6_1 + 1)), (by first | rfl | (simp; done) | (simp [*]; done)), H', ⟨by have := HK1.out; omega⟩, by repeat (first | exact Drawn0.refl _ | apply Drawn0.step)⟩
            · replace c7 := Bool.eq_false_iff.mpr c7
              subst c7
              have H1 : (if (bt a0 x6_1) = 95 then (spec_IdIsPlain.l0 k1 a0 (a0.size : Int) (wrap64 (x6_1 + 1))) else ((spec_idIsLetter.f (bt a0 x6_1)).bind fun t132 => (if t132 = true then (spec_IdIsPlain.l0 k1 a0 (a0.size : Int) (wrap64 (x6_1 + 1))) else (some false)))) = some r := by rw [if_neg (show ¬ (false = true) by decide)] at H; exact H
              clear H
              have H := H1
              clear H1
              by_cases c9 : (bt a0 x6_1) = 95
              · rw [if_pos c9] at H
                have c9b0 : ((bt a0 x6_1) == 95) = true := beq_iff_eq.mpr c9
                have c9b1 : ((bt a0 x6_1) != 95) = false := bne_eq_false_iff_eq.mpr c9
                clear c9
                have H' := Aside0.mk H
                clear H
                have p5 : 0 ≤ (x6_1 : Int) := of_decide_eq_true (by first | (with_reducible assumption) | assumption)
                have q5 : x6_1 < (a0.size : Int) := of_decide_eq_true (by first | (with_reducible assumption) | assumption)
                have hx5 := bt_at a0 x6_1
                replace p5 := eq_true p5
                replace q5 := eq_true q5
                go_wp2_with (first | (go_at_call 6; refine (idCut_at _ _ _ _ _ _ (by assumption) (by assumption)).mono ?_; rintro e w_ ⟨rfl, rfl⟩) | ((with_reducible refine gate_callee (f := 31) rfl ?_); refine goesL_ (some 12) rfl rfl Tryd.func31 (by kernel_rfl) rfl #[.int .u8 (bt a0 x6_1)] rfl (by (try simp only [List.map_toArray, List.map_cons, List.map_nil]); first | done | rfl | (simp only [List.length_drop, List.length_take]; rfl)) ?_; (with_reducible refine (spec_idIsDigit.calls (bt a0 x6_1) false _ A6.out).mono ?_); rintro e w' ⟨rfl, ⟨nd, rfl⟩⟩; refine ⟨_, rfl, ?_⟩; have p8 : 0 ≤ (x6_1 : Int) := of_decide_eq_true (by first | (with_reducible assumption) | assumption); have q8 : x6_1 < (a0.size : Int) := of_decide_eq_true (by first | (with_reducible assumption) | assumption); have hx8 := bt_at a0 x6_1; replace p8 := eq_true p8; replace q8 := eq_true q8))
                go_roundg k1
                case measure => have := HK1.out; omega
                case rel => exact ⟨(wrap64 (x6_1 + 1)), (by first | rfl | (simp; done) | (simp [*]; done)), H', ⟨by have := HK1.out; omega⟩, by repeat (first | exact Drawn0.refl _ | apply Drawn0.step)⟩
              · rw [if_neg c9] at H
                have c9b0 : ((bt a0 x6_1) == 95) = false := beq_eq_false_iff_ne.mpr c9
                have c9b1 : ((bt a0 x6_1) != 95) = true := bne_iff_ne.mpr c9
                replace H := Option.bind_eq_some_iff.mp H
                obtain ⟨t132, A110, H⟩ := H
                replace H : (if t132 = true then (spec_IdIsPlain.l0 k1 a0 (a0.size : Int) (wrap64 (x6_1 + 1))) else (some false)) = some r := H
                have A11 := Aside0.mk A110
                clear A110
                by_cases c12 : t132 = true
                · subst c12
                  have H1 : (spec_IdIsPlain.l0 k1 a0 (a0.size : Int) (wrap64 (x6_1 + 1))) = some r := by rw [if_pos rfl] at H; exact H
                  clear H
                  have H := H1
                  clear H1
                  have H' := Aside0.mk H
                  clear H
                  have p5 : 0 ≤ (x6_1 : Int) := of_decide_eq_true (by first | (with_reducible assumption) | assumption)
                  have q5 : x6_1 < (a0.size : Int) := of_decide_eq_true (by first | (with_reducible assumption) | assumption)
                  have hx5 := bt_at a0 x6_1
                  replace p5 := eq_true p5
                  replace q5 := eq_true q5
                  go_wp2_with (first | (go_at_call 6; refine (idCut_at _ _ _ _ _ _ (by assumption) (by assumption)).mono ?_; rintro e w_ ⟨rfl, rfl⟩) | ((with_reducible refine gate_callee (f := 31) rfl ?_); refine goesL_ (some 12) rfl rfl Tryd.func31 (by kernel_rfl) rfl #[.int .u8 (bt a0 x6_1)] rfl (by (try simp only [List.map_toArray, List.map_cons, List.map_nil]); first | done | rfl | (simp only [List.length_drop, List.length_take]; rfl)) ?_; (with_reducible refine (spec_idIsDigit.calls (bt a0 x6_1) false _ A6.out).mono ?_); rintro e w' ⟨rfl, ⟨nd, rfl⟩⟩; refine ⟨_, rfl, ?_⟩; have p8 : 0 ≤ (x6_1 : Int) := of_decide_eq_true (by first | (with_reducible assumption) | assumption); have q8 : x6_1 < (a0.size : Int) := of_decide_eq_true (by first | (with_reducible assumption) | assumption); have hx8 := bt_at a0 x6_1; replace p8 := eq_true p8; replace q8 := eq_true q8; have p10 : 0 ≤ (x6_1 : Int) := of_decide_eq_true (by first | (with_reducible assumption) | assumption); have q10 : x6_1 < (a0.size : Int) := of_decide_eq_true (by first | (with_reducible assumption) | assumption); have hx10 := bt_at a0 x6_1; replace p10 := eq_true p10; replace q10 := eq_true q10) | (go_at_call 32; (with_reducible refine (spec_idIsLetter.calls (bt a0 x6_1) true _ A11.out).mono ?_); rintro e w' ⟨rfl, ⟨nd, rfl⟩⟩))
                  go_roundg k1
                  case measure => have := HK1.out; omega
                  case rel => exact ⟨(wrap64 (x6_1 + 1)), (by first | rfl | (simp; done) | (simp [*]; done)), H', ⟨by have := HK1.out; omega⟩, by repeat (first | exact Drawn0.refl _ | apply Drawn0.step)⟩
                · replace c12 := Bool.eq_false_iff.mpr c12
                  subst c12
                  have H1 : (some false) = some r := by rw [if_neg (show ¬ (false = true) by decide)] at H; exact H
                  clear H
                  have H := H1
                  clear H1
                  obtain rfl := Option.some.inj H
                  have p5 : 0 ≤ (x6_1 : Int) := of_decide_eq_true (by first | (with_reducible assumption) | assumption)
                  have q5 : x6_1 < (a0.size : Int) := of_decide_eq_true (by first | (with_reducible assumption) | assumption)
                  have hx5 := bt_at a0 x6_1
                  replace p5 := eq_true p5
                  replace q5 := eq_true q5
                  go_wp2_with (first | (go_at_call 6; refine (idCut_at _ _ _ _ _ _ (by assumption) (by assumption)).mono ?_; rintro e w_ ⟨rfl, rfl⟩) | ((with_reducible refine gate_callee (f := 31) rfl ?_); refine goesL_ (some 12) rfl rfl Tryd.func31 (by kernel_rfl) rfl #[.int .u8 (bt a0 x6_1)] rfl (by (try simp only [List.map_toArray, List.map_cons, List.map_nil]); first | done | rfl | (simp only [List.length_drop, List.length_take]; rfl)) ?_; (with_reducible refine (spec_idIsDigit.calls (bt a0 x6_1) false _ A6.out).mono ?_); rintro e w' ⟨rfl, ⟨nd, rfl⟩⟩; refine ⟨_, rfl, ?_⟩; have p8 : 0 ≤ (x6_1 : Int) := of_decide_eq_true (by first | (with_reducible assumption) | assumption); have q8 : x6_1 < (a0.size : Int) := of_decide_eq_true (by first | (with_reducible assumption) | assumption); have hx8 := bt_at a0 x6_1; replace p8 := eq_true p8; replace q8 := eq_true q8; have p10 : 0 ≤ (x6_1 : Int) := of_decide_eq_true (by first | (with_reducible assumption) | assumption); have q10 : x6_1 < (a0.size : Int) := of_decide_eq_true (by first | (with_reducible assumption) | assumption); have hx10 := bt_at a0 x6_1; replace p10 := eq_true p10; replace q10 := eq_true q10) | (go_at_call 32; (with_reducible refine (spec_idIsLetter.calls (bt a0 x6_1) false _ A11.out).mono ?_); rintro e w' ⟨rfl, ⟨nd, rfl⟩⟩))
                  go_ret
                  exact ⟨by first | rfl | (simp; done) | (simp [*]; done), by repeat (first | exact Drawn0.refl _ | apply Drawn0.step)⟩
          · rw [if_neg c4] at H
            exact absurd H (by simp)
        · rw [if_neg c3] at H
          exact absurd H (by simp)
      · rw [if_neg c2] at H
        have c2b0 : decide (x6_1 < (a0.size : Int)) = false := decide_eq_false c2
        clear c2
        obtain rfl := Option.some.inj H
        go_wp2
        go_ret
        exact ⟨by first | rfl | (simp; done) | (simp [*]; done), by repeat (first | exact Drawn0.refl _ | apply Drawn0.step)⟩

/-! ### spec_idCounted: function 25 -/
def spec_idCounted.f (a0 : ByteArray) : Option (ByteArray) := if a0.toList = ([] : List UInt8) then ((strconv_Itoa.f (a0.size : Int)).bind fun t133 => (if t133.size + 0 ≤ 9223372036854775807 then (if (t133 ++ (⟨#[]⟩ : ByteArray)).size + a0.size ≤ 9223372036854775807 then (some ((t133 ++ (⟨#[]⟩ : ByteArray)) ++ a0)) else (none)) else (none))) else (if 0 < (a0.size : Int) then ((spec_idIsDigit.f (bt a0 0)).bind fun t134 => (if t134 = true then ((strconv_Itoa.f (a0.size : Int)).bind fun t135 => (if t135.size + 1 ≤ 9223372036854775807 then (if (t135 ++ (⟨#[95]⟩ : ByteArray)).size + a0.size ≤ 9223372036854775807 then (some ((t135 ++ (⟨#[95]⟩ : ByteArray)) ++ a0)) else (none)) else (none))) else (if (bt a0 0) = 95 then ((strconv_Itoa.f (a0.size : Int)).bind fun t136 => (if t136.size + 1 ≤ 9223372036854775807 then (if (t136 ++ (⟨#[95]⟩ : ByteArray)).size + a0.size ≤ 9223372036854775807 then (some ((t136 ++ (⟨#[95]⟩ : ByteArray)) ++ a0)) else (none)) else (none))) else ((strconv_Itoa.f (a0.size : Int)).bind fun t137 => (if t137.size + 0 ≤ 9223372036854775807 then (if (t137 ++ (⟨#[]⟩ : ByteArray)).size + a0.size ≤ 9223372036854775807 then (some ((t137 ++ (⟨#[]⟩ : ByteArray)) ++ a0)) else (none)) else (none)))))) else (none))
set_option maxHeartbeats 8000000 in
set_option maxRecDepth 100000 in
theorem spec_idCounted.calls (a0 : ByteArray) (r : ByteArray) (w : World) (hT_ : UniIs w) (h : spec_idCounted.f a0 = some r) :
    Calls Tryd.prog 25 #[.string a0] w fun e w' => e = .returned (.string r) ∧ Below w.heap.size w w' := by
  have HB := Aside0.mk (Below.refl w.heap.size w)
  have H : (if a0.toList = ([] : List UInt8) then ((strconv_Itoa.f (a0.size : Int)).bind fun t133 => (if t133.size + 0 ≤ 9223372036854775807 then (if (t133 ++ (⟨#[]⟩ : ByteArray)).size + a0.size ≤ 9223372036854775807 then (some ((t133 ++ (⟨#[]⟩ : ByteArray)) ++ a0)) else (none)) else (none))) else (if 0 < (a0.size : Int) then ((spec_idIsDigit.f (bt a0 0)).bind fun t134 => (if t134 = true then ((strconv_Itoa.f (a0.size : Int)).bind fun t135 => (if t135.size + 1 ≤ 9223372036854775807 then (if (t135 ++ (⟨#[95]⟩ : ByteArray)).size + a0.size ≤ 9223372036854775807 then (some ((t135 ++ (⟨#[95]⟩ : ByteArray)) ++ a0)) else (none)) else (none))) else (if (bt a0 0) = 95 then ((strconv_Itoa.f (a0.size : Int)).bind fun t136 => (if t136.size + 1 ≤ 9223372036854775807 then (if (t136 ++ (⟨#[95]⟩ : ByteArray)).size + a0.size ≤ 9223372036854775807 then (some ((t136 ++ (⟨#[95]⟩ : ByteArray)) ++ a0)) else (none)) else (none))) else ((strconv_Itoa.f (a0.size : Int)).bind fun t137 => (if t137.size + 0 ≤ 9223372036854775807 then (if (t137 ++ (⟨#[]⟩ : ByteArray)).size + a0.size ≤ 9223372036854775807 then (some ((t137 ++ (⟨#[]⟩ : ByteArray)) ++ a0)) else (none)) else (none)))))) else (none))) = some r := h
  clear h
  by_cases c2 : a0.toList = ([] : List UInt8)
  · rw [if_pos c2] at H
    have c2b0 : (a0.toList == ([] : List UInt8)) = true := beq_iff_eq.mpr c2
    have c2b1 : (a0.toList != ([] : List UInt8)) = false := bne_eq_false_iff_eq.mpr c2
    clear c2
    replace H := Option.bind_eq_some_iff.mp H
    obtain ⟨t133, A30, H⟩ := H
    replace H : (if t133.size + 0 ≤ 9223372036854775807 then (if (t133 ++ (⟨#[]⟩ : ByteArray)).size + a0.size ≤ 9223372036854775807 then (some ((t133 ++ (⟨#[]⟩ : ByteArray)) ++ a0)) else (none)) else (none)) = some r := H
    have A3 := Aside0.mk A30
    clear A30
    by_cases c4 : t133.size + 0 ≤ 9223372036854775807
    · rw [if_pos c4] at H
      have c4b0 := eq_true c4
      have c4b1 : decide (t133.size + 0 ≤ 9223372036854775807) = true := decide_eq_true c4
      try have c4b2 : (9223372036854775807 < t133.size + 0) = False := eq_false (Nat.not_lt.2 c4)
      by_cases c5 : (t133 ++ (⟨#[]⟩ : ByteArray)).size + a0.size ≤ 9223372036854775807
      · rw [if_pos c5] at H
        have c5b0 := eq_true c5
        have c5b1 : decide ((t133 ++ (⟨#[]⟩ : ByteArray)).size + a0.size ≤ 9223372036854775807) = true := decide_eq_true c5
        try have c5b2 : (9223372036854775807 < (t133 ++ (⟨#[]⟩ : ByteArray)).size + a0.size) = False := eq_false (Nat.not_lt.2 c5)
        try have c5b4 : (9223372036854775807 < t133.size + 0 + a0.size) = False := eq_false (by have h_ := c5; (repeat rw [ByteArray.size_append] at h_); exact Nat.not_lt.2 h_)
        obtain rfl := Option.some.inj H
        go_enter Tryd.func25, Tryd.ntmps25
        go_wp2_with (first | (go_at_call 6; refine (idCut_at _ _ _ _ _ _ (by assumption) (by assumption)).mono ?_; rintro e w_ ⟨rfl, rfl⟩) | ((with_reducible refine gate_callee (f := 33) rfl ?_); refine goesL_ (some 18) rfl rfl Tryd.func33 (by kernel_rfl) rfl #[.int .i64 (a0.size : Int)] rfl (by (try simp only [List.map_toArray, List.map_cons, List.map_nil]); first | done | rfl | (simp only [List.length_drop, List.length_take]; rfl)) ?_; (with_reducible refine (strconv_Itoa.calls (a0.size : Int) t133 _ (show UniIs _ from ?side1) A3.out).mono ?_); (case side1 => exact Stays.below hT_ (by first | (repeat (first | (with_reducible first | exact HB.out | apply below_alloc | apply pw_below_drewN | apply below_drew1) | exact HB.out)) | (repeat (first | exact Below.refl _ _ | apply below_drew1 | apply pw_below_drewN)))); rintro e w6 ⟨rfl, hb⟩; refine ⟨_, rfl, ?_⟩; have n0_ := Aside0.mk (below_step (by repeat (first | (with_reducible first | exact HB.out | apply below_alloc | apply pw_below_drewN | apply below_drew1) | exact HB.out)) hb); clear HB; have HB := n0_; clear n0_; (try clear hb); (try clear hb2); (try clear hk); (try clear hi)))
        go_ret
        exact ⟨by first | rfl | (simp [errW_none, errW_some] <;> rfl) | (simp [*, errW_none, errW_some] <;> rfl), by repeat (first | (with_reducible first | exact HB.out | apply below_alloc | apply pw_below_drewN | apply below_drew1) | exact HB.out)⟩
      · rw [if_neg c5] at H
        exact absurd H (by simp)
    · rw [if_neg c4] at H
      exact absurd H (by simp)
  · rw [if_neg c2] at H
    have c2b0 : (a0.toList == ([] : List UInt8)) = false := beq_eq_false_iff_ne.mpr c2
    have c2b1 : (a0.toList != ([] : List UInt8)) = true := bne_iff_ne.mpr c2
    by_cases c7 : 0 < (a0.size : Int)
    · rw [if_pos c7] at H
      have c7b0 : decide (0 < (a0.size : Int)) = true := decide_eq_true c7
      have c7b1 : decide (0 < a0.size) = true := decide_eq_true (by omega)
      clear c7
      replace H := Option.bind_eq_some_iff.mp H
      obtain ⟨t134, A90, H⟩ := H
      replace H : (if t134 = true then ((strconv_Itoa.f (a0.size : Int)).bind fun t135 => (if t135.size + 1 ≤ 9223372036854775807 then (if (t135 ++ (⟨#[95]⟩ : ByteArray)).size + a0.size ≤ 9223372036854775807 then (some ((t135 ++ (⟨#[95]⟩ : ByteArray)) ++ a0)) else (none)) else (none))) else (if (bt a0 0) = 95 then ((strconv_Itoa.f (a0.size : Int)).bind fun t136 => (if t136.size + 1 ≤ 9223372036854775807 then (if (t136 ++ (⟨#[95]⟩ : ByteArray)).size + a0.size ≤ 9223372036854775807 then (some ((t136 ++ (⟨#[95]⟩ : ByteArray)) ++ a0)) else (none)) else (none))) else ((strconv_Itoa.f (a0.size : Int)).bind fun t137 => (if t137.size + 0 ≤ 9223372036854775807 then (if (t137 ++ (⟨#[]⟩ : ByteArray)).size + a0.size ≤ 9223372036854775807 then (some ((t137 ++ (⟨#[]⟩ : ByteArray)) ++ a0)) else (none)) else (none))))) = some r := H
      have A9 := Aside0.mk A90
      clear A90
      by_cases c10 : t134 = true
      · subst c10
        have H1 : ((strconv_Itoa.f (a0.size : Int)).bind fun t135 => (if t135.size + 1 ≤ 9223372036854775807 then (if (t135 ++ (⟨#[95]⟩ : ByteArray)).size + a0.size ≤ 9223372036854775807 then (some ((t135 ++ (⟨#[95]⟩ : ByteArray)) ++ a0)) else (none)) else (none))) = some r := by rw [if_pos rfl] at H; exact H
        clear H
        have H := H1
        clear H1
        replace H := Option.bind_eq_some_iff.mp H
        obtain ⟨t135, A110, H⟩ := H
        replace H : (if t135.size + 1 ≤ 9223372036854775807 then (if (t135 ++ (⟨#[95]⟩ : ByteArray)).size + a0.size ≤ 9223372036854775807 then (some ((t135 ++ (⟨#[95]⟩ : ByteArray)) ++ a0)) else (none)) else (none)) = some r := H
        have A11 := Aside0.mk A110
        clear A110
        by_cases c12 : t135.size + 1 ≤ 9223372036854775807
        · rw [if_pos c12] at H
          have c12b0 := eq_true c12
          have c12b1 : decide (t135.size + 1 ≤ 9223372036854775807) = true := decide_eq_true c12
          try have c12b2 : (9223372036854775807 < t135.size + 1) = False := eq_false (Nat.not_lt.2 c12)
          by_cases c13 : (t135 ++ (⟨#[95]⟩ : ByteArray)).size + a0.size ≤ 9223372036854775807
          · rw [if_pos c13] at H
            have c13b0 := eq_true c13
            have c13b1 : decide ((t135 ++ (⟨#[95]⟩ : ByteArray)).size + a0.size ≤ 9223372036854775807) = true := decide_eq_true c13
            try have c13b2 : (9223372036854775807 < (t135 ++ (⟨#[95]⟩ : ByteArray)).size + a0.size) = False := eq_false (Nat.not_lt.2 c13)
            try have c13b4 : (9223372036854775807 < t135.size + 1 + a0.size) = False := eq_false (by have h_ := c13; (repeat rw [ByteArray.size_append] at h_); exact Nat.not_lt.2 h_)
            obtain rfl := Option.some.inj H
            have p8 : 0 ≤ (0 : Int) := (by omega)
            have q8 : 0 < a0.size := (by have : (0 : Int) < (a0.size : Int) := of_decide_eq_true (by first | (with_reducible assumption) | assumption); omega)
            have hx8 : ∀ h : 0 < a0.size, ((a0[0]'h).toNat : Int) = bt a0 0 := bt_at a0 0
            clear p8
            have qi8 : (0 < (a0.size : Int)) = True := eq_true (of_decide_eq_true (by first | (with_reducible assumption) | assumption))
            replace q8 := eq_true q8
            go_enter Tryd.func25, Tryd.ntmps25
            go_wp2_with (first | (go_at_call 6; refine (idCut_at _ _ _ _ _ _ (by assumption) (by assumption)).mono ?_; rintro e w_ ⟨rfl, rfl⟩) | (go_at_call 31; (with_reducible refine (spec_idIsDigit.calls (bt a0 0) true _ A9.out).mono ?_); rintro e w' ⟨rfl, ⟨nd, rfl⟩⟩) | ((with_reducible refine gate_callee (f := 33) rfl ?_); refine goesL_ (some 18) rfl rfl Tryd.func33 (by kernel_rfl) rfl #[.int .i64 (a0.size : Int)] rfl (by (try simp only [List.map_toArray, List.map_cons, List.map_nil]); first | done | rfl | (simp only [List.length_drop, List.length_take]; rfl)) ?_; (with_reducible refine (strconv_Itoa.calls (a0.size : Int) t135 _ (show UniIs _ from ?side1) A11.out).mono ?_); (case side1 => exact Stays.below hT_ (by first | (repeat (first | (with_reducible first | exact HB.out | apply below_alloc | apply pw_below_drewN | apply below_drew1) | exact HB.out)) | (repeat (first | exact Below.refl _ _ | apply below_drew1 | apply pw_below_drewN)))); rintro e w14 ⟨rfl, hb⟩; refine ⟨_, rfl, ?_⟩; have n0_ := Aside0.mk (below_step (by repeat (first | (with_reducible first | exact HB.out | apply below_alloc | apply pw_below_drewN | apply below_drew1) | exact HB.out)) hb); clear HB; have HB := n0_; clear n0_; (try clear hb); (try clear hb2); (try clear hk); (try clear hi)))
            go_ret
            exact ⟨by first | rfl | (simp [errW_none, errW_some] <;> rfl) | (simp [*, errW_none, errW_some] <;> rfl), by repeat (first | (with_reducible first | exact HB.out | apply below_alloc | apply pw_below_drewN | apply below_drew1) | exact HB.out)⟩
          · rw [if_neg c13] at H
            exact absurd H (by simp)
        · rw [if_neg c12] at H
          exact absurd H (by simp)
      · replace c10 := Bool.eq_false_iff.mpr c10
        subst c10
        have H1 : (if (bt a0 0) = 95 then ((strconv_Itoa.f (a0.size : Int)).bind fun t136 => (if t136.size + 1 ≤ 9223372036854775807 then (if (t136 ++ (⟨#[95]⟩ : ByteArray)).size + a0.size ≤ 9223372036854775807 then (some ((t136 ++ (⟨#[95]⟩ : ByteArray)) ++ a0)) else (none)) else (none))) else ((strconv_Itoa.f (a0.size : Int)).bind fun t137 => (if t137.size + 0 ≤ 9223372036854775807 then (if (t137 ++ (⟨#[]⟩ : ByteArray)).size + a0.size ≤ 9223372036854775807 then (some ((t137 ++ (⟨#[]⟩ : ByteArray)) ++ a0)) else (none)) else (none)))) = some r := by rw [if_neg (show ¬ (false = true) by decide)] at H; exact H
        clear H
        have H := H1
        clear H1
        by_cases c16 : (bt a0 0) = 95
        · rw [if_pos c16] at H
          have c16b0 : ((bt a0 0) == 95) = true := beq_iff_eq.mpr c16
          have c16b1 : ((bt a0 0) != 95) = false := bne_eq_false_iff_eq.mpr c16
          clear c16
          replace H := Option.bind_eq_some_iff.mp H
          obtain ⟨t136, A170, H⟩ := H
          replace H : (if t136.size + 1 ≤ 9223372036854775807 then (if (t136 ++ (⟨#[95]⟩ : ByteArray)).size + a0.size ≤ 9223372036854775807 then (some ((t136 ++ (⟨#[95]⟩ : ByteArray)) ++ a0)) else (none)) else (none)) = some r := H
          have A17 := Aside0.mk A170
          clear A170
          by_cases c18 : t136.size + 1 ≤ 9223372036854775807
          · rw [if_pos c18] at H
            have c18b0 := eq_true c18
            have c18b1 : decide (t136.size + 1 ≤ 9223372036854775807) = true := decide_eq_true c18
            try have c18b2 : (9223372036854775807 < t136.size + 1) = False := eq_false (Nat.not_lt.2 c18)
            by_cases c19 : (t136 ++ (⟨#[95]⟩ : ByteArray)).size + a0.size ≤ 9223372036854775807
            · rw [if_pos c19] at H
              have c19b0 := eq_true c19
              have c19b1 : decide ((t136 ++ (⟨#[95]⟩ : ByteArray)).size + a0.size ≤ 9223372036854775807) = true := decide_eq_true c19
              try have c19b2 : (9223372036854775807 < (t136 ++ (⟨#[95]⟩ : ByteArray)).size + a0.size) = False := eq_false (Nat.not_lt.2 c19)
              try have c19b4 : (9223372036854775807 < t136.size + 1 + a0.size) = False := eq_false (by have h_ := c19; (repeat rw [ByteArray.size_append] at h_); exact Nat.not_lt.2 h_)
              obtain rfl := Option.some.inj H
              have p8 : 0 ≤ (0 : Int) := (by omega)
              have q8 : 0 < a0.size := (by have : (0 : Int) < (a0.size : Int) := of_decide_eq_true (by first | (with_reducible assumption) | assumption); omega)
              have hx8 : ∀ h : 0 < a0.size, ((a0[0]'h).toNat : Int) = bt a0 0 := bt_at a0 0
              clear p8
              have qi8 : (0 < (a0.size : Int)) = True := eq_true (of_decide_eq_true (by first | (with_reducible assumption) | assumption))
              replace q8 := eq_true q8
              go_enter Tryd.func25, Tryd.ntmps25
              go_wp2_with (first | (go_at_call 6; refine (idCut_at _ _ _ _ _ _ (by assumption) (by assumption)).mono ?_; rintro e w_ ⟨rfl, rfl⟩) | (go_at_call 31; (with_reducible refine (spec_idIsDigit.calls (bt a0 0) false _ A9.out).mono ?_); rintro e w' ⟨rfl, ⟨nd, rfl⟩⟩; have p15 : 0 ≤ (0 : Int) := (by omega); have q15 : 0 < a0.size := (by have : (0 : Int) < (a0.size : Int) := of_decide_eq_true (by first | (with_reducible assumption) | assumption); omega); have hx15 : ∀ h : 0 < a0.size, ((a0[0]'h).toNat : Int) = bt a0 0 := bt_at a0 0; clear p15; have qi15 : (0 < (a0.size : Int)) = True := eq_true (of_decide_eq_true (by first | (with_reducible assumption) | assumption)); replace q15 := eq_true q15) | ((with_reducible refine gate_callee (f := 33) rfl ?_); refine goesL_ (some 18) rfl rfl Tryd.func33 (by kernel_rfl) rfl #[.int .i64 (a0.size : Int)] rfl (by (try simp only [List.map_toArray, List.map_cons, List.map_nil]); first | done | rfl | (simp only [List.length_drop, List.length_take]; rfl)) ?_; (with_reducible refine (strconv_Itoa.calls (a0.size : Int) t136 _ (show UniIs _ from ?side1) A17.out).mono ?_); (case side1 => exact Stays.below hT_ (by first | (repeat (first | (with_reducible first | exact HB.out | apply below_alloc | apply pw_below_drewN | apply below_drew1) | exact HB.out)) | (repeat (first | exact Below.refl _ _ | apply below_drew1 | apply pw_below_drewN)))); rintro e w20 ⟨rfl, hb⟩; refine ⟨_, rfl, ?_⟩; have n0_ := Aside0.mk (below_step (by repeat (first | (with_reducible first | exact HB.out | apply below_alloc | apply pw_below_drewN | apply below_drew1) | exact HB.out)) hb); clear HB; have HB := n0_; clear n0_; (try clear hb); (try clear hb2); (try clear hk); (try clear hi)))
              go_ret
              exact ⟨by first | rfl | (simp [errW_none, errW_some] <;> rfl) | (simp [*, errW_none, errW_some] <;> rfl), by repeat (first | (with_reducible first | exact HB.out | apply below_alloc | apply pw_below_drewN | apply below_drew1) | exact HB.out)⟩
            · rw [if_neg c19] at H
              exact absurd H (by simp)
          · rw [if_neg c18] at H
            exact absurd H (by simp)
        · rw [if_neg c16] at H
          have c16b0 : ((bt a0 0) == 95) = false := beq_eq_false_iff_ne.mpr c16
          have c16b1 : ((bt a0 0) != 95) = true := bne_iff_ne.mpr c16
          replace H := Option.bind_eq_some_iff.mp H
          obtain ⟨t137, A210, H⟩ := H
          replace H : (if t137.size + 0 ≤ 9223372036854775807 then (if (t137 ++ (⟨#[]⟩ : ByteArray)).size + a0.size ≤ 9223372036854775807 then (some ((t137 ++ (⟨#[]⟩ : ByteArray)) ++ a0)) else (none)) else (none)) = some r := H
          have A21 := Aside0.mk A210
          clear A210
          by_cases c22 : t137.size + 0 ≤ 9223372036854775807
          · rw [if_pos c22] at H
            have c22b0 := eq_true c22
            have c22b1 : decide (t137.size + 0 ≤ 9223372036854775807) = true := decide_eq_true c22
            try have c22b2 : (9223372036854775807 < t137.size + 0) = False := eq_false (Nat.not_lt.2 c22)
            by_cases c23 : (t137 ++ (⟨#[]⟩ : ByteArray)).size + a0.size ≤ 9223372036854775807
            · rw [if_pos c23] at H
              have c23b0 := eq_true c23
              have c23b1 : decide ((t137 ++ (⟨#[]⟩ : ByteArray)).size + a0.size ≤ 9223372036854775807) = true := decide_eq_true c23
              try have c23b2 : (9223372036854775807 < (t137 ++ (⟨#[]⟩ : ByteArray)).size + a0.size) = False := eq_false (Nat.not_lt.2 c23)
              try have c23b4 : (9223372036854775807 < t137.size + 0 + a0.size) = False := eq_false (by have h_ := c23; (repeat rw [ByteArray.size_append] at h_); exact Nat.not_lt.2 h_)
              obtain rfl := Option.some.inj H
              have p8 : 0 ≤ (0 : Int) := (by omega)
              have q8 : 0 < a0.size := (by have : (0 : Int) < (a0.size : Int) := of_decide_eq_true (by first | (with_reducible assumption) | assumption); omega)
              have hx8 : ∀ h : 0 < a0.size, ((a0[0]'h).toNat : Int) = bt a0 0 := bt_at a0 0
              clear p8
              have qi8 : (0 < (a0.size : Int)) = True := eq_true (of_decide_eq_true (by first | (with_reducible assumption) | assumption))
              replace q8 := eq_true q8
              go_enter Tryd.func25, Tryd.ntmps25
              go_wp2_with (first | (go_at_call 6; refine (idCut_at _ _ _ _ _ _ (by assumption) (by assumption)).mono ?_; rintro e w_ ⟨rfl, rfl⟩) | (go_at_call 31; (with_reducible refine (spec_idIsDigit.calls (bt a0 0) false _ A9.out).mono ?_); rintro e w' ⟨rfl, ⟨nd, rfl⟩⟩; have p15 : 0 ≤ (0 : Int) := (by omega); have q15 : 0 < a0.size := (by have : (0 : Int) < (a0.size : Int) := of_decide_eq_true (by first | (with_reducible assumption) | assumption); omega); have hx15 : ∀ h : 0 < a0.size, ((a0[0]'h).toNat : Int) = bt a0 0 := bt_at a0 0; clear p15; have qi15 : (0 < (a0.size : Int)) = True := eq_true (of_decide_eq_true (by first | (with_reducible assumption) | assumption)); replace q15 := eq_true q15) | ((with_reducible refine gate_callee (f := 33) rfl ?_); refine goesL_ (some 18) rfl rfl Tryd.func33 (by kernel_rfl) rfl #[.int .i64 (a0.size : Int)] rfl (by (try simp only [List.map_toArray, List.map_cons, List.map_nil]); first | done | rfl | (simp only [List.length_drop, List.length_take]; rfl)) ?_; (with_reducible refine (strconv_Itoa.calls (a0.size : Int) t137 _ (show UniIs _ from ?side1) A21.out).mono ?_); (case side1 => exact Stays.below hT_ (by first | (repeat (first | (with_reducible first | exact HB.out | apply below_alloc | apply pw_below_drewN | apply below_drew1) | exact HB.out)) | (repeat (first | exact Below.refl _ _ | apply below_drew1 | apply pw_below_drewN)))); rintro e w24 ⟨rfl, hb⟩; refine ⟨_, rfl, ?_⟩; have n0_ := Aside0.mk (below_step (by repeat (first | (with_reducible first | exact HB.out | apply below_alloc | apply pw_below_drewN | apply below_drew1) | exact HB.out)) hb); clear HB; have HB := n0_; clear n0_; (try clear hb); (try clear hb2); (try clear hk); (try clear hi)))
              go_ret
              exact ⟨by first | rfl | (simp [errW_none, errW_some] <;> rfl) | (simp [*, errW_none, errW_some] <;> rfl), by repeat (first | (with_reducible first | exact HB.out | apply below_alloc | apply pw_below_drewN | apply below_drew1) | exact HB.out)⟩
            · rw [if_neg c23] at H
              exact absurd H (by simp)
          · rw [if_neg c22] at H
            exact absurd H (by simp)
    · rw [if_neg c7] at H
      exact absurd H (by simp)

/-! ### spec_IdWritten: function 15 -/
def spec_IdWritten.f (k : Nat) (a0 : ByteArray) : Option (ByteArray) := if a0.toList = ([] : List UInt8) then (some (⟨#[48, 95]⟩ : ByteArray)) else ((spec_IdIsPlain.f k a0).bind fun t138 => (if t138 = true then ((spec_idCounted.f a0).bind fun t139 => (some t139)) else ((spec_IdCharacters.f a0).bind fun bt140 => ((spec_IdPunycode.f k bt140.1).bind fun t144 => ((spec_idCounted.f t144).bind fun t145 => (if 1 + t145.size ≤ 9223372036854775807 then (some ((⟨#[117]⟩ : ByteArray) ++ t145)) else (none)))))))
theorem spec_IdWritten.mono : ∀ a0 k, LeO (spec_IdWritten.f k a0) (spec_IdWritten.f (k + 1) a0) := by
  intro a0 k
  unfold spec_IdWritten.f
  repeat' first
      | (with_reducible exact spec_IdIsPlain.mono _ _)
      | (with_reducible exact spec_IdPunycode.mono _ _)
      | (with_reducible exact LeO.refl _)
      | (with_reducible exact LeO.none _)
      | (with_reducible refine LeO.ite ?_ ?_)
      | (with_reducible refine LeO.bind ?_ (fun _ => ?_))
      | exact spec_IdIsPlain.mono _ _
      | exact spec_IdPunycode.mono _ _
      | exact LeO.none _
      | refine LeO.ite ?_ ?_
      | refine LeO.bind ?_ (fun _ => ?_)
set_option maxHeartbeats 8000000 in
set_option maxRecDepth 100000 in
theorem spec_IdWritten.calls (k : Nat) (a0 : ByteArray) (r : ByteArray) (w : World) (hT_ : UniIs w) (h : spec_IdWritten.f k a0 = some r) :
    Calls Tryd.prog 15 #[.string a0] w fun e w' => e = .returned (.string r) ∧ Below w.heap.size w w' := by
  have HB := Aside0.mk (Below.refl w.heap.size w)
  have H : (if a0.toList = ([] : List UInt8) then (some (⟨#[48, 95]⟩ : ByteArray)) else ((spec_IdIsPlain.f k a0).bind fun t138 => (if t138 = true then ((spec_idCounted.f a0).bind fun t139 => (some t139)) else ((spec_IdCharacters.f a0).bind fun bt140 => ((spec_IdPunycode.f k bt140.1).bind fun t144 => ((spec_idCounted.f t144).bind fun t145 => (if 1 + t145.size ≤ 9223372036854775807 then (some ((⟨#[117]⟩ : ByteArray) ++ t145)) else (none)))))))) = some r := h
  clear h
  by_cases c2 : a0.toList = ([] : List UInt8)
  · rw [if_pos c2] at H
    have c2b0 : (a0.toList == ([] : List UInt8)) = true := beq_iff_eq.mpr c2
    have c2b1 : (a0.toList != ([] : List UInt8)) = false := bne_eq_false_iff_eq.mpr c2
    clear c2
    obtain rfl := Option.some.inj H
    go_enter Tryd.func15, Tryd.ntmps15
    go_wp2
    go_ret
    exact ⟨by first | rfl | (simp [errW_none, errW_some] <;> rfl) | (simp [*, errW_none, errW_some] <;> rfl), by repeat (first | (with_reducible first | exact HB.out | apply below_alloc | apply pw_below_drewN | apply below_drew1) | exact HB.out)⟩
  · rw [if_neg c2] at H
    have c2b0 : (a0.toList == ([] : List UInt8)) = false := beq_eq_false_iff_ne.mpr c2
    have c2b1 : (a0.toList != ([] : List UInt8)) = true := bne_iff_ne.mpr c2
    replace H := Option.bind_eq_some_iff.mp H
    obtain ⟨t138, A30, H⟩ := H
    replace H : (if t138 = true then ((spec_idCounted.f a0).bind fun t139 => (some t139)) else ((spec_IdCharacters.f a0).bind fun bt140 => ((spec_IdPunycode.f k bt140.1).bind fun t144 => ((spec_idCounted.f t144).bind fun t145 => (if 1 + t145.size ≤ 9223372036854775807 then (some ((⟨#[117]⟩ : ByteArray) ++ t145)) else (none)))))) = some r := H
    have A3 := Aside0.mk A30
    clear A30
    by_cases c4 : t138 = true
    · subst c4
      have H1 : ((spec_idCounted.f a0).bind fun t139 => (some t139)) = some r := by rw [if_pos rfl] at H; exact H
      clear H
      have H := H1
      clear H1
      replace H := Option.bind_eq_some_iff.mp H
      obtain ⟨t139, A50, H⟩ := H
      replace H : (some t139) = some r := H
      have A5 := Aside0.mk A50
      clear A50
      obtain rfl := Option.some.inj H
      go_enter Tryd.func15, Tryd.ntmps15
      go_wp2_with (first | (go_at_call 6; refine (idCut_at _ _ _ _ _ _ (by assumption) (by assumption)).mono ?_; rintro e w_ ⟨rfl, rfl⟩) | ((with_reducible refine gate_callee (f := 24) rfl ?_); refine goesL_ (some 8) rfl rfl Tryd.func24 (by kernel_rfl) rfl #[.string a0] rfl (by (try simp only [List.map_toArray, List.map_cons, List.map_nil]); first | done | rfl | (simp only [List.length_drop, List.length_take]; rfl)) ?_; (with_reducible refine (spec_IdIsPlain.calls k a0 true _ A3.out).mono ?_); rintro e w' ⟨rfl, ⟨nd, rfl⟩⟩; refine ⟨_, rfl, ?_⟩) | ((with_reducible refine gate_callee (f := 25) rfl ?_); refine goesL_ (some 10) rfl rfl Tryd.func25 (by kernel_rfl) rfl #[.string a0] rfl (by (try simp only [List.map_toArray, List.map_cons, List.map_nil]); first | done | rfl | (simp only [List.length_drop, List.length_take]; rfl)) ?_; (with_reducible refine (spec_idCounted.calls a0 t139 _ (show UniIs _ from ?side1) A5.out).mono ?_); (case side1 => exact Stays.below hT_ (by first | (repeat (first | (with_reducible first | exact HB.out | apply below_alloc | apply pw_below_drewN | apply below_drew1) | exact HB.out)) | (repeat (first | exact Below.refl _ _ | apply below_drew1 | apply pw_below_drewN)))); rintro e w6 ⟨rfl, hb⟩; refine ⟨_, rfl, ?_⟩; have n0_ := Aside0.mk (below_step (by repeat (first | (with_reducible first | exact HB.out | apply below_alloc | apply pw_below_drewN | apply below_drew1) | exact HB.out)) hb); clear HB; have HB := n0_; clear n0_; (try clear hb); (try clear hb2); (try clear hk); (try clear hi)))
      go_ret
      exact ⟨by first | rfl | (simp [errW_none, errW_some] <;> rfl) | (simp [*, errW_none, errW_some] <;> rfl), by repeat (first | (with_reducible first | exact HB.out | apply below_alloc | apply pw_below_drewN | apply below_drew1) | exact HB.out)⟩
    · replace c4 := Bool.eq_false_iff.mpr c4
      subst c4
      have H1 : ((spec_IdCharacters.f a0).bind fun bt140 => ((spec_IdPunycode.f k bt140.1).bind fun t144 => ((spec_idCounted.f t144).bind fun t145 => (if 1 + t145.size ≤ 9223372036854775807 then (some ((⟨#[117]⟩ : ByteArray) ++ t145)) else (none))))) = some r := by rw [if_neg (show ¬ (false = true) by decide)] at H; exact H
      clear H
      have H := H1
      clear H1
      replace H := Option.bind_eq_some_iff.mp H
      obtain ⟨⟨t140, t141⟩, A70, H⟩ := H
      replace H : ((spec_IdPunycode.f k t140).bind fun t144 => ((spec_idCounted.f t144).bind fun t145 => (if 1 + t145.size ≤ 9223372036854775807 then (some ((⟨#[117]⟩ : ByteArray) ++ t145)) else (none)))) = some r := H
      have A7 := Aside0.mk A70
      clear A70
      replace H := Option.bind_eq_some_iff.mp H
      obtain ⟨t144, A80, H⟩ := H
      replace H : ((spec_idCounted.f t144).bind fun t145 => (if 1 + t145.size ≤ 9223372036854775807 then (some ((⟨#[117]⟩ : ByteArray) ++ t145)) else (none))) = some r := H
      have A8 := Aside0.mk A80
      clear A80
      replace H := Option.bind_eq_some_iff.mp H
      obtain ⟨t145, A90, H⟩ := H
      replace H : (if 1 + t145.size ≤ 9223372036854775807 then (some ((⟨#[117]⟩ : ByteArray) ++ t145)) else (none)) = some r := H
      have A9 := Aside0.mk A90
      clear A90
      by_cases c10 : 1 + t145.size ≤ 9223372036854775807
      · rw [if_pos c10] at H
        have c10b0 := eq_true c10
        have c10b1 : decide (1 + t145.size ≤ 9223372036854775807) = true := decide_eq_true c10
        try have c10b2 : (9223372036854775807 < 1 + t145.size) = False := eq_false (Nat.not_lt.2 c10)
        obtain rfl := Option.some.inj H
        go_enter Tryd.func15, Tryd.ntmps15
        go_wp2_with (first | (go_at_call 6; refine (idCut_at _ _ _ _ _ _ (by assumption) (by assumption)).mono ?_; rintro e w_ ⟨rfl, rfl⟩) | ((with_reducible refine gate_callee (f := 24) rfl ?_); refine goesL_ (some 8) rfl rfl Tryd.func24 (by kernel_rfl) rfl #[.string a0] rfl (by (try simp only [List.map_toArray, List.map_cons, List.map_nil]); first | done | rfl | (simp only [List.length_drop, List.length_take]; rfl)) ?_; (with_reducible refine (spec_IdIsPlain.calls k a0 false _ A3.out).mono ?_); rintro e w' ⟨rfl, ⟨nd, rfl⟩⟩; refine ⟨_, rfl, ?_⟩) | ((with_reducible refine gate_callee (f := 7) rfl ?_); refine goesL_ (some 13) rfl rfl Tryd.func7 (by kernel_rfl) rfl #[.string a0] rfl (by (try simp only [List.map_toArray, List.map_cons, List.map_nil]); first | done | rfl | (simp only [List.length_drop, List.length_take]; rfl)) ?_; (with_reducible refine (spec_IdCharacters.calls a0 t140 t141 _ (show UniIs _ from ?side1) A7.out).mono ?_); (case side1 => exact Stays.below hT_ (by first | (repeat (first | (with_reducible first | exact HB.out | apply below_alloc | apply pw_below_drewN | apply below_drew1) | exact HB.out)) | (repeat (first | exact Below.refl _ _ | apply below_drew1 | apply pw_below_drewN)))); rintro e w11 ⟨v142, rfl, ho0, hb⟩; refine ⟨_, rfl, ?_⟩; have n0_ := Aside0.mk (Kd.R_lower ho0 (below_size (by repeat (first | (with_reducible first | exact HB.out | apply below_alloc | apply pw_below_drewN | apply below_drew1) | exact HB.out)))); have n1_ := Aside0.mk (below_step (by repeat (first | (with_reducible first | exact HB.out | apply below_alloc | apply pw_below_drewN | apply below_drew1) | exact HB.out)) hb); clear HB; have HO143 := n0_; have HB := n1_; clear n0_ n1_; (try clear hb); (try clear hb2); (try clear hk); (try clear hi); (try clear ho0); obtain ⟨Ao12, co12, eo12⟩ := Kd.R_slice HO143.out; subst eo12) | ((with_reducible refine gate_callee (f := 12) rfl ?_); refine goesL_ (some 17) rfl rfl Tryd.func12 (by kernel_rfl) rfl #[.slice Ao12 t140.length co12] rfl (by (try simp only [List.map_toArray, List.map_cons, List.map_nil]); first | done | rfl | (simp only [List.length_drop, List.length_take]; rfl)) ?_; (with_reducible refine (spec_IdPunycode.calls k _ _ t140 t144 _ ?side1 ?side2 A8.out).mono ?_); (case side1 => repeat (first | exact (Kd.R_reads' HO143.out).2.2 | (with_reducible refine Kd.C_alloc ?_ _) | (with_reducible refine Kd.C_drewN ?_ _) | (with_reducible refine Kd.C_drew ?_))); (case side2 => exact (Kd.R_reads' HO143.out).2.1); rintro e w13 ⟨rfl, hb⟩; refine ⟨_, rfl, ?_⟩; have n0_ := Aside0.mk (Kd.R_below (by (with_reducible repeat (first | apply Kd.R_alloc | apply Kd.R_drewN | apply Kd.R_drew)); exact HO143.out) hb); have n1_ := Aside0.mk (below_step (by repeat (first | (with_reducible first | exact HB.out | apply below_alloc | apply pw_below_drewN | apply below_drew1) | exact HB.out)) hb); clear HO143; clear HB; have HO143 := n0_; have HB := n1_; clear n0_ n1_; (try clear hb); (try clear hb2); (try clear hk); (try clear hi)) | ((with_reducible refine gate_callee (f := 25) rfl ?_); refine goesL_ (some 18) rfl rfl Tryd.func25 (by kernel_rfl) rfl #[.string t144] rfl (by (try simp only [List.map_toArray, List.map_cons, List.map_nil]); first | done | rfl | (simp only [List.length_drop, List.length_take]; rfl)) ?_; (with_reducible refine (spec_idCounted.calls t144 t145 _ (show UniIs _ from ?side1) A9.out).mono ?_); (case side1 => exact Stays.below hT_ (by first | (repeat (first | (with_reducible first | exact HB.out | apply below_alloc | apply pw_below_drewN | apply below_drew1) | exact HB.out)) | (repeat (first | exact Below.refl _ _ | apply below_drew1 | apply pw_below_drewN)))); rintro e w14 ⟨rfl, hb⟩; refine ⟨_, rfl, ?_⟩; have n0_ := Aside0.mk (Kd.R_below (by (with_reducible repeat (first | apply Kd.R_alloc | apply Kd.R_drewN | apply Kd.R_drew)); exact HO143.out) hb); have n1_ := Aside0.mk (below_step (by repeat (first | (with_reducible first | exact HB.out | apply below_alloc | apply pw_below_drewN | apply below_drew1) | exact HB.out)) hb); clear HO143; clear HB; have HO143 := n0_; have HB := n1_; clear n0_ n1_; (try clear hb); (try clear hb2); (try clear hk); (try clear hi)))
        go_ret
        exact ⟨by first | rfl | (simp [errW_none, errW_some] <;> rfl) | (simp [*, errW_none, errW_some] <;> rfl), by repeat (first | (with_reducible first | exact HB.out | apply below_alloc | apply pw_below_drewN | apply below_drew1) | exact HB.out)⟩
      · rw [if_neg c10] at H
        exact absurd H (by simp)

end Go.Proofs.YtkhbmkccbhkolaaDoor.PFnIdentifierUnicode
