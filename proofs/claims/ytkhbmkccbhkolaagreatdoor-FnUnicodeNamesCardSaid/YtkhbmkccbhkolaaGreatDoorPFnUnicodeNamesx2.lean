/- Written by a program of this session (wip/tools/myprint.py) with the kit's print: contracts of the functions that one statement reaches; functions that are proved by hand are taken as printed. Conditions: none. -/
import Derived.Test.YtkhbmkccbhkolaaGreatDoorPFnUnicodeNamesx0
import Derived.Test.YtkhbmkccbhkolaaGreatDoorPFnUnicodeNamesx1
namespace Go.Proofs.YtkhbmkccbhkolaaGreatDoor.PFnUnicodeNames
open Go.RowKit Go.Proofs.YtkhbmkccbhkolaaGreatDoorW.PrintWords Go.Proofs.YtkhbmkccbhkolaaGreatDoorW.PrintLast Go.Proofs.YtkhbmkccbhkolaaGreatDoorW.PrintMore
attribute [local go_sem] max2_int min2_int max_two min_two max_three min_three max_four min_four   -- for this text's walks alone
set_option linter.unusedVariables false
set_option linter.unusedSimpArgs false

/-! ### spec_IdIsPlain: function 23 -/
def spec_IdIsPlain.l0 : Nat → ByteArray → Int → Int → Option (Bool)
  | 0, _, _, _ => none
  | k + 1, x0, x5, x6 => if x6 < x5 then (if 0 ≤ x6 then (if x6 < (x0.size : Int) then ((spec_idIsDigit.f (bt x0 x6)).bind fun t120 => (if t120 = true then (spec_IdIsPlain.l0 k x0 x5 (wrap64 (x6 + 1))) else (if (bt x0 x6) = 95 then (spec_IdIsPlain.l0 k x0 x5 (wrap64 (x6 + 1))) else ((spec_idIsLetter.f (bt x0 x6)).bind fun t121 => (if t121 = true then (spec_IdIsPlain.l0 k x0 x5 (wrap64 (x6 + 1))) else (some false)))))) else (none)) else (none)) else (some true)
def spec_IdIsPlain.f (k : Nat) (a0 : ByteArray) : Option (Bool) := spec_IdIsPlain.l0 k a0 (a0.size : Int) 0
theorem spec_IdIsPlain.mono_l : ∀ k, (∀ y0 y1 y2, LeO (spec_IdIsPlain.l0 k y0 y1 y2) (spec_IdIsPlain.l0 (k + 1) y0 y1 y2))
  | 0 => fun _ _ _ r h => by simp [spec_IdIsPlain.l0] at h
  | k + 1 => by
    have ih0 := spec_IdIsPlain.mono_l k
    · intro y0 y1 y2
      unfold spec_IdIsPlain.l0
      repeat' first
      | (with_reducible exact ih0 _ _ _)
      | (with_reducible exact LeO.refl _)
      | (with_reducible exact LeO.none _)
      | (with_reducible refine LeO.ite ?_ ?_)
      | (with_reducible refine LeO.bind ?_ (fun _ => ?_))
      | exact ih0 _ _ _
      | exact LeO.none _
      | refine LeO.ite ?_ ?_
      | refine LeO.bind ?_ (fun _ => ?_)
theorem spec_IdIsPlain.mono : ∀ a0 k, LeO (spec_IdIsPlain.f k a0) (spec_IdIsPlain.f (k + 1) a0) := by
  intro a0 k
  have ih0 := spec_IdIsPlain.mono_l k
  unfold spec_IdIsPlain.f
  repeat' first
      | (with_reducible exact ih0 _ _ _)
      | (with_reducible exact LeO.refl _)
      | (with_reducible exact LeO.none _)
      | (with_reducible refine LeO.ite ?_ ?_)
      | (with_reducible refine LeO.bind ?_ (fun _ => ?_))
      | exact ih0 _ _ _
      | exact LeO.none _
      | refine LeO.ite ?_ ?_
      | refine LeO.bind ?_ (fun _ => ?_)
set_option maxHeartbeats 8000000 in
set_option maxRecDepth 100000 in
theorem spec_IdIsPlain.calls (k : Nat) (a0 : ByteArray) (r : Bool) (w : World) (h : spec_IdIsPlain.f k a0 = some r) :
    Calls Tryz.prog 23 #[.string a0] w fun e w' => e = .returned (.bool r) ∧ Drawn0 w w' := by
  have H : (spec_IdIsPlain.l0 k a0 (a0.size : Int) 0) = some r := h
  clear h
  have H' := Aside0.mk H
  clear H
  go_enter Tryz.func23, Tryz.ntmps23
  go_wp2
  go_loopg [6] k (fun kq v6 w' => ∃ (x6_1 : Int), v6 = .int .i64 x6_1 ∧ Aside0 (spec_IdIsPlain.l0 kq a0 (a0.size : Int) x6_1 = some r) ∧ Aside0 (kq ≤ k) ∧ Drawn0 w w')
  case atStart => exact ⟨(0), (by first | rfl | (simp; done) | (simp [*]; done)), H', ⟨Nat.le_refl _⟩, by repeat (first | exact Drawn0.refl _ | apply Drawn0.step)⟩
  case round =>
    clear H'
    obtain ⟨x6_1, rfl, HA, HK1, ⟨m1, rfl⟩⟩ := hrel
    cases gk with
    | zero => exact absurd HA.out (by simp [spec_IdIsPlain.l0])
    | succ k1 =>
      have H := HA.out
      clear HA
      simp only [spec_IdIsPlain.l0] at H
      by_cases c2 : x6_1 < (a0.size : Int)
      · rw [if_pos c2] at H
        have c2b0 : decide (x6_1 < (a0.size : Int)) = true := decide_eq_true c2
        clear c2
        by_cases c3 : 0 ≤ x6_1
        · rw [if_pos c3] at H
          have c3b0 : decide (0 ≤ x6_1) = true := decide_eq_true c3
          clear c3
          by_cases c4 : x6_1 < (a0.size : Int)
          · rw [if_pos c4] at H
            have c4b0 : decide (x6_1 < (a0.size : Int)) = true := decide_eq_true c4
            clear c4
            replace H := Option.bind_eq_some_iff.mp H
            obtain ⟨t120, A60, H⟩ := H
            replace H : (if t120 = true then (spec_IdIsPlain.l0 k1 a0 (a0.size : Int) (wrap64 (x6_1 + 1))) else (if (bt a0 x6_1) = 95 then (spec_IdIsPlain.l0 k1 a0 (a0.size : Int) (wrap64 (x6_1 + 1))) else ((spec_idIsLetter.f (bt a0 x6_1)).bind fun t121 => (if t121 = true then (spec_IdIsPlain.l0 k1 a0 (a0.size : Int) (wrap64 (x6_1 + 1))) else (some false))))) = some r := H
            have A6 := Aside0.mk A60
            clear A60
            by_cases c7 : t120 = true
            · subst c7
              have H1 : (spec_IdIsPlain.l0 k1 a0 (a0.size : Int) (wrap64 (x6_1 + 1))) = some r := by rw [if_pos rfl] at H; exact H
              clear H
              have H := H1
              clear H1
              have H' := Aside0.mk H
              clear H
              have p5 : 0 ≤ (x6_1 : Int) := of_decide_eq_true (by first | (with_reducible assumption) | assumption)
              have q5 : x6_1 < (a0.size : Int) := of_decide_eq_true (by first | (with_reducible assumption) | assumption)
              have hx5 := bt_at a0 x6_1
              replace p5 := eq_true p5
              replace q5 := eq_true q5
              go_wp2_with (first | ((with_reducible refine gate_callee (f := 41) rfl ?_); refine goesL_ (some 12) rfl rfl Tryz.func41 (by kernel_rfl) rfl #[.int .u8 (bt a0 x6_1)] rfl (by (try simp only [List.map_toArray, List.map_cons, List.map_nil]); first | done | rfl | (simp only [List.length_drop, List.length_take]; rfl)) ?_; (with_reducible refine (spec_idIsDigit.calls (bt a0 x6_1) true _ A6.out).mono ?_); rintro e w' ⟨rfl, ⟨nd, rfl⟩⟩; refine ⟨_, rfl, ?_⟩))
              go_roundg k1
              case measure => have := HK1.out; omega
              case rel => exact ⟨(wrap64 (x6_1 + 1)), (by first | rfl | (simp; done) | (simp [*]; done)), H', ⟨by have := HK1.out; omega⟩, by repeat (first | exact Drawn0.refl _ | apply Drawn0.step)⟩
            · replace c7 := Bool.eq_false_iff.mpr c7
              subst c7
              have H1 : (if (bt a0 x6_1) = 95 then (spec_IdIsPlain.l0 k1 a0 (a0.size : Int) (wrap64 (x6_1 + 1))) else ((spec_idIsLetter.f (bt a0 x6_1)).bind fun t121 => (if t121 = true then (spec_IdIsPlain.l0 k1 a0 (a0.size : Int) (wrap64 (x6_1 + 1))) else (some false)))) = some r := by rw [if_neg (show ¬ (false = true) by decide)] at H; exact H
              clear H
              have H := H1
              clear H1
              by_cases c9 : (bt a0 x6_1) = 95
              · rw [if_pos c9] at H
                have c9b0 : ((bt a0 x6_1) == 95) = true := beq_iff_eq.mpr c9
                have c9b1 : ((bt a0 x6_1) != 95) = false := bne_eq_false_iff_eq.mpr c9
                clear c9
                have H' := Aside0.mk H
                clear H
                have p5 : 0 ≤ (x6_1 : Int) := of_decide_eq_true (by first | (with_reducible assumption) | assumption)
                have q5 : x6_1 < (a0.size : Int) := of_decide_eq_true (by first | (with_reducible assumption) | assumption)
                have hx5 := bt_at a0 x6_1
                replace p5 := eq_true p5
                replace q5 := eq_true q5
                go_wp2_with (first | ((with_reducible refine gate_callee (f := 41) rfl ?_); refine goesL_ (some 12) rfl rfl Tryz.func41 (by kernel_rfl) rfl #[.int .u8 (bt a0 x6_1)] rfl (by (try simp only [List.map_toArray, List.map_cons, List.map_nil]); first | done | rfl | (simp only [List.length_drop, List.length_take]; rfl)) ?_; (with_reducible refine (spec_idIsDigit.calls (bt a0 x6_1) false _ A6.out).mono ?_); rintro e w' ⟨rfl, ⟨nd, rfl⟩⟩; refine ⟨_, rfl, ?_⟩; have p8 : 0 ≤ (x6_1 : Int) := of_decide_eq_true (by first | (with_reducible assumption) | assumption); have q8 : x6_1 < (a0.size : Int) := of_decide_eq_true (by first | (with_reducible assumption) | assumption); have hx8 := bt_at a0 x6_1; replace p8 := eq_true p8; replace q8 := eq_true q8))
                go_roundg k1
                case measure => have := HK1.out; omega
                case rel => exact ⟨(wrap64 (x6_1 + 1)), (by first | rfl | (simp; done) | (simp [*]; done)), H', ⟨by have := HK1.out; omega⟩, by repeat (first | exact Drawn0.refl _ | apply Drawn0.step)⟩
              · rw [if_neg c9] at H
                have c9b0 : ((bt a0 x6_1) == 95) = false := beq_eq_false_iff_ne.mpr c9
                have c9b1 : ((bt a0 x6_1) != 95) = true := bne_iff_ne.mpr c9
                replace H := Option.bind_eq_some_iff.mp H
                obtain ⟨t121, A110, H⟩ := H
                replace H : (if t121 = true then (spec_IdIsPlain.l0 k1 a0 (a0.size : Int) (wrap64 (x6_1 + 1))) else (some false)) = some r := H
                have A11 := Aside0.mk A110
                clear A110
                by_cases c12 : t121 = true
                · subst c12
                  have H1 : (spec_IdIsPlain.l0 k1 a0 (a0.size : Int) (wrap64 (x6_1 + 1))) = some r := by rw [if_pos rfl] at H; exact H
                  clear H
                  have H := H1
                  clear H1
                  have H' := Aside0.mk H
                  clear H
                  have p5 : 0 ≤ (x6_1 : Int) := of_decide_eq_true (by first | (with_reducible assumption) | assumption)
                  have q5 : x6_1 < (a0.size : Int) := of_decide_eq_true (by first | (with_reducible assumption) | assumption)
                  have hx5 := bt_at a0 x6_1
                  replace p5 := eq_true p5
                  replace q5 := eq_true q5
                  go_wp2_with (first | ((with_reducible refine gate_callee (f := 41) rfl ?_); refine goesL_ (some 12) rfl rfl Tryz.func41 (by kernel_rfl) rfl #[.int .u8 (bt a0 x6_1)] rfl (by (try simp only [List.map_toArray, List.map_cons, List.map_nil]); first | done | rfl | (simp only [List.length_drop, List.length_take]; rfl)) ?_; (with_reducible refine (spec_idIsDigit.calls (bt a0 x6_1) false _ A6.out).mono ?_); rintro e w' ⟨rfl, ⟨nd, rfl⟩⟩; refine ⟨_, rfl, ?_⟩; have p8 : 0 ≤ (x6_1 : Int) := of_decide_eq_true (by first | (with_reducible assumption) | assumption); have q8 : x6_1 < (a0.size : Int) := of_decide_eq_true (by first | (with_reducible assumption) | assumption); have hx8 := bt_at a0 x6_1; replace p8 := eq_true p8; replace q8 := eq_true q8; have p10 : 0 ≤ (x6_1 : Int) := of_decide_eq_true (by first | (with_reducible assumption) | assumption); have q10 : x6_1 < (a0.size : Int) := of_decide_eq_true (by first | (with_reducible assumption) | assumption); have hx10 := bt_at a0 x6_1; replace p10 := eq_true p10; replace q10 := eq_true q10) | (go_at_call 42; (with_reducible refine (spec_idIsLetter.calls (bt a0 x6_1) true _ A11.out).mono ?_); rintro e w' ⟨rfl, ⟨nd, rfl⟩⟩))
                  go_roundg k1
                  case measure => have := HK1.out; omega
                  case rel => exact ⟨(wrap64 (x6_1 + 1)), (by first | rfl | (simp; done) | (simp [*]; done)), H', ⟨by have := HK1.out; omega⟩, by repeat (first | exact Drawn0.refl _ | apply Drawn0.step)⟩
                · replace c12 := Bool.eq_false_iff.mpr c12
                  subst c12
                  have H1 : (some false) = some r := by rw [if_neg (show ¬ (false = true) by decide)] at H; exact H
                  clear H
                  have H := H1
                  clear H1
                  obtain rfl := Option.some.inj H
                  have p5 : 0 ≤ (x6_1 : Int) := of_decide_eq_true (by first | (with_reducible assumption) | assumption)
                  have q5 : x6_1 < (a0.size : Int) := of_decide_eq_true (by first | (with_reducible assumption) | assumption)
                  have hx5 := bt_at a0 x6_1
                  replace p5 := eq_true p5
                  replace q5 := eq_true q5
                  go_wp2_with (first | ((with_reducible refine gate_callee (f := 41) rfl ?_); refine goesL_ (some 12) rfl rfl Tryz.func41 (by kernel_rfl) rfl #[.int .u8 (bt a0 x6_1)] rfl (by (try simp only [List.map_toArray, List.map_cons, List.map_nil]); first | done | rfl | (simp only [List.length_drop, List.length_take]; rfl)) ?_; (with_reducible refine (spec_idIsDigit.calls (bt a0 x6_1) false _ A6.out).mono ?_); rintro e w' ⟨rfl, ⟨nd, rfl⟩⟩; refine ⟨_, rfl, ?_⟩; have p8 : 0 ≤ (x6_1 : Int) := of_decide_eq_true (by first | (with_reducible assumption) | assumption); have q8 : x6_1 < (a0.size : Int) := of_decide_eq_true (by first | (with_reducible assumption) | assumption); have hx8 := bt_at a0 x6_1; replace p8 := eq_true p8; replace q8 := eq_true q8; have p10 : 0 ≤ (x6_1 : Int) := of_decide_eq_true (by first | (with_reducible assumption) | assumption); have q10 : x6_1 < (a0.size : Int) := of_decide_eq_true (by first | (with_reducible assumption) | assumption); have hx10 := bt_at a0 x6_1; replace p10 := eq_true p10; replace q10 := eq_true q10) | (go_at_call 42; (with_reducible refine (spec_idIsLetter.calls (bt a0 x6_1) false _ A11.out).mono ?_); rintro e w' ⟨rfl, ⟨nd, rfl⟩⟩))
                  go_ret
                  exact ⟨by first | rfl | (simp; done) | (simp [*]; done), by repeat (first | exact Drawn0.refl _ | apply Drawn0.step)⟩
          · rw [if_neg c4] at H
            exact absurd H (by simp)
        · rw [if_neg c3] at H
          exact absurd H (by simp)
      · rw [if_neg c2] at H
        have c2b0 : decide (x6_1 < (a0.size : Int)) = false := decide_eq_false c2
        clear c2
        obtain rfl := Option.some.inj H
        go_wp2
        go_ret
        exact ⟨by first | rfl | (simp; done) | (simp [*]; done), by repeat (first | exact Drawn0.refl _ | apply Drawn0.step)⟩

/-! ### spec_idCounted: function 24 -/
def spec_idCounted.f (a0 : ByteArray) : Option (ByteArray) := if a0.toList = ([] : List UInt8) then ((strconv_Itoa.f (a0.size : Int)).bind fun t122 => (if t122.size + 0 ≤ 9223372036854775807 then (if (t122 ++ (⟨#[]⟩ : ByteArray)).size + a0.size ≤ 9223372036854775807 then (some ((t122 ++ (⟨#[]⟩ : ByteArray)) ++ a0)) else (none)) else (none))) else (if 0 < (a0.size : Int) then ((spec_idIsDigit.f (bt a0 0)).bind fun t123 => (if t123 = true then ((strconv_Itoa.f (a0.size : Int)).bind fun t124 => (if t124.size + 1 ≤ 9223372036854775807 then (if (t124 ++ (⟨#[95]⟩ : ByteArray)).size + a0.size ≤ 9223372036854775807 then (some ((t124 ++ (⟨#[95]⟩ : ByteArray)) ++ a0)) else (none)) else (none))) else (if (bt a0 0) = 95 then ((strconv_Itoa.f (a0.size : Int)).bind fun t125 => (if t125.size + 1 ≤ 9223372036854775807 then (if (t125 ++ (⟨#[95]⟩ : ByteArray)).size + a0.size ≤ 9223372036854775807 then (some ((t125 ++ (⟨#[95]⟩ : ByteArray)) ++ a0)) else (none)) else (none))) else ((strconv_Itoa.f (a0.size : Int)).bind fun t126 => (if t126.size + 0 ≤ 9223372036854775807 then (if (t126 ++ (⟨#[]⟩ : ByteArray)).size + a0.size ≤ 9223372036854775807 then (some ((t126 ++ (⟨#[]⟩ : ByteArray)) ++ a0)) else (none)) else (none)))))) else (none))
set_option maxHeartbeats 8000000 in
set_option maxRecDepth 100000 in
theorem spec_idCounted.calls (a0 : ByteArray) (r : ByteArray) (w : World) (hT_ : DoorU w) (h : spec_idCounted.f a0 = some r) :
    Calls Tryz.prog 24 #[.string a0] w fun e w' => e = .returned (.string r) ∧ Below w.heap.size w w' := by
  have HB := Aside0.mk (Below.refl w.heap.size w)
  have H : (if a0.toList = ([] : List UInt8) then ((strconv_Itoa.f (a0.size : Int)).bind fun t122 => (if t122.size + 0 ≤ 9223372036854775807 then (if (t122 ++ (⟨#[]⟩ : ByteArray)).size + a0.size ≤ 9223372036854775807 then (some ((t122 ++ (⟨#[]⟩ : ByteArray)) ++ a0)) else (none)) else (none))) else (if 0 < (a0.size : Int) then ((spec_idIsDigit.f (bt a0 0)).bind fun t123 => (if t123 = true then ((strconv_Itoa.f (a0.size : Int)).bind fun t124 => (if t124.size + 1 ≤ 9223372036854775807 then (if (t124 ++ (⟨#[95]⟩ : ByteArray)).size + a0.size ≤ 9223372036854775807 then (some ((t124 ++ (⟨#[95]⟩ : ByteArray)) ++ a0)) else (none)) else (none))) else (if (bt a0 0) = 95 then ((strconv_Itoa.f (a0.size : Int)).bind fun t125 => (if t125.size + 1 ≤ 9223372036854775807 then (if (t125 ++ (⟨#[95]⟩ : ByteArray)).size + a0.size ≤ 9223372036854775807 then (some ((t125 ++ (⟨#[95]⟩ : ByteArray)) ++ a0)) else (none)) else (none))) else ((strconv_Itoa.f (a0.size : Int)).bind fun t126 => (if t126.size + 0 ≤ 9223372036854775807 then (if (t126 ++ (⟨#[]⟩ : ByteArray)).size + a0.size ≤ 9223372036854775807 then (some ((t126 ++ (⟨#[]⟩ : ByteArray)) ++ a0)) else (none)) else (none)))))) else (none))) = some r := h
  clear h
  by_cases c2 : a0.toList = ([] : List UInt8)
  · rw [if_pos c2] at H
    have c2b0 : (a0.toList == ([] : List UInt8)) = true := beq_iff_eq.mpr c2
    have c2b1 : (a0.toList != ([] : List UInt8)) = false := bne_eq_false_iff_eq.mpr c2
    clear c2
    replace H := Option.bind_eq_some_iff.mp H
    obtain ⟨t122, A30, H⟩ := H
    replace H : (if t122.size + 0 ≤ 9223372036854775807 then (if (t122 ++ (⟨#[]⟩ : ByteArray)).size + a0.size ≤ 9223372036854775807 then (some ((t122 ++ (⟨#[]⟩ : ByteArray)) ++ a0)) else (none)) else (none)) = some r := H
    have A3 := Aside0.mk A30
    clear A30
    by_cases c4 : t122.size + 0 ≤ 9223372036854775807
    · rw [if_pos c4] at H
      have c4b0 := eq_true c4
      have c4b1 : decide (t122.size + 0 ≤ 9223372036854775807) = true := decide_eq_true c4
      try have c4b2 : (9223372036854775807 < t122.size + 0) = False := eq_false (Nat.not_lt.2 c4)
      by_cases c5 : (t122 ++ (⟨#[]⟩ : ByteArray)).size + a0.size ≤ 9223372036854775807
      · rw [if_pos c5] at H
        have c5b0 := eq_true c5
        have c5b1 : decide ((t122 ++ (⟨#[]⟩ : ByteArray)).size + a0.size ≤ 9223372036854775807) = true := decide_eq_true c5
        try have c5b2 : (9223372036854775807 < (t122 ++ (⟨#[]⟩ : ByteArray)).size + a0.size) = False := eq_false (Nat.not_lt.2 c5)
        try have c5b4 : (9223372036854775807 < t122.size + 0 + a0.size) = False := eq_false (by have h_ := c5; (repeat rw [ByteArray.size_append] at h_); exact Nat.not_lt.2 h_)
        obtain rfl := Option.some.inj H
        go_enter Tryz.func24, Tryz.ntmps24
        go_wp2_with (first | ((with_reducible refine gate_callee (f := 43) rfl ?_); refine goesL_ (some 18) rfl rfl Tryz.func43 (by kernel_rfl) rfl #[.int .i64 (a0.size : Int)] rfl (by (try simp only [List.map_toArray, List.map_cons, List.map_nil]); first | done | rfl | (simp only [List.length_drop, List.length_take]; rfl)) ?_; (with_reducible refine (strconv_Itoa.calls (a0.size : Int) t122 _ (show DoorU _ from ?side1) A3.out).mono ?_); (case side1 => exact Stays.below hT_ (by first | (repeat (first | (with_reducible first | exact HB.out | apply below_alloc | apply pw_below_drewN | apply below_drew1) | exact HB.out)) | (repeat (first | exact Below.refl _ _ | apply below_drew1 | apply pw_below_drewN)))); rintro e w6 ⟨rfl, hb⟩; refine ⟨_, rfl, ?_⟩; have n0_ := Aside0.mk (below_step (by repeat (first | (with_reducible first | exact HB.out | apply below_alloc | apply pw_below_drewN | apply below_drew1) | exact HB.out)) hb); clear HB; have HB := n0_; clear n0_; (try clear hb); (try clear hb2); (try clear hk); (try clear hi)))
        go_ret
        exact ⟨by first | rfl | (simp [errW_none, errW_some] <;> rfl) | (simp [*, errW_none, errW_some] <;> rfl), by repeat (first | (with_reducible first | exact HB.out | apply below_alloc | apply pw_below_drewN | apply below_drew1) | exact HB.out)⟩
      · rw [if_neg c5] at H
        exact absurd H (by simp)
    · rw [if_neg c4] at H
      exact absurd H (by simp)
  · rw [if_neg c2] at H
    have c2b0 : (a0.toList == ([] : List UInt8)) = false := beq_eq_false_iff_ne.mpr c2
    have c2b1 : (a0.toList != ([] : List UInt8)) = true := bne_iff_ne.mpr c2
    by_cases c7 : 0 < (a0.size : Int)
    · rw [if_pos c7] at H
      have c7b0 : decide (0 < (a0.size : Int)) = true := decide_eq_true c7
      have c7b1 : decide (0 < a0.size) = true := decide_eq_true (by omega)
      clear c7
      replace H := Option.bind_eq_some_iff.mp H
      obtain ⟨t123, A90, H⟩ := H
      replace H : (if t123 = true then ((strconv_Itoa.f (a0.size : Int)).bind fun t124 => (if t124.size + 1 ≤ 9223372036854775807 then (if (t124 ++ (⟨#[95]⟩ : ByteArray)).size + a0.size ≤ 9223372036854775807 then (some ((t124 ++ (⟨#[95]⟩ : ByteArray)) ++ a0)) else (none)) else (none))) else (if (bt a0 0) = 95 then ((strconv_Itoa.f (a0.size : Int)).bind fun t125 => (if t125.size + 1 ≤ 9223372036854775807 then (if (t125 ++ (⟨#[95]⟩ : ByteArray)).size + a0.size ≤ 9223372036854775807 then (some ((t125 ++ (⟨#[95]⟩ : ByteArray)) ++ a0)) else (none)) else (none))) else ((strconv_Itoa.f (a0.size : Int)).bind fun t126 => (if t126.size + 0 ≤ 9223372036854775807 then (if (t126 ++ (⟨#[]⟩ : ByteArray)).size + a0.size ≤ 9223372036854775807 then (some ((t126 ++ (⟨#[]⟩ : ByteArray)) ++ a0)) else (none)) else (none))))) = some r := H
      have A9 := Aside0.mk A90
      clear A90
      by_cases c10 : t123 = true
      · subst c10
        have H1 : ((strconv_Itoa.f (a0.size : Int)).bind fun t124 => (if t124.size + 1 ≤ 9223372036854775807 then (if (t124 ++ (⟨#[95]⟩ : ByteArray)).size + a0.size ≤ 9223372036854775807 then (some ((t124 ++ (⟨#[95]⟩ : ByteArray)) ++ a0)) else (none)) else (none))) = some r := by rw [if_pos rfl] at H; exact H
        clear H
        have H := H1
        clear H1
        replace H := Option.bind_eq_some_iff.mp H
        obtain ⟨t124, A110, H⟩ := H
        replace H : (if t124.size + 1 ≤ 9223372036854775807 then (if (t124 ++ (⟨#[95]⟩ : ByteArray)).size + a0.size ≤ 9223372036854775807 then (some ((t124 ++ (⟨#[95]⟩ : ByteArray)) ++ a0)) else (none)) else (none)) = some r := H
        have A11 := Aside0.mk A110
        clear A110
        by_cases c12 : t124.size + 1 ≤ 9223372036854775807
        · rw [if_pos c12] at H
          have c12b0 := eq_true c12
          have c12b1 : decide (t124.size + 1 ≤ 9223372036854775807) = true := decide_eq_true c12
          try have c12b2 : (9223372036854775807 < t124.size + 1) = False := eq_false (Nat.not_lt.2 c12)
          by_cases c13 : (t124 ++ (⟨#[95]⟩ : ByteArray)).size + a0.size ≤ 9223372036854775807
          · rw [if_pos c13] at H
            have c13b0 := eq_true c13
            have c13b1 : decide ((t124 ++ (⟨#[95]⟩ : ByteArray)).size + a0.size ≤ 9223372036854775807) = true := decide_eq_true c13
            try have c13b2 : (9223372036854775807 < (t124 ++ (⟨#[95]⟩ : ByteArray)).size + a0.size) = False := eq_false (Nat.not_lt.2 c13)
            try have c13b4 : (9223372036854775807 < t124.size + 1 + a0.size) = False := eq_false (by have h_ := c13; (repeat rw [ByteArray.size_append] at h_); exact Nat.not_lt.2 h_)
            obtain rfl := Option.some.inj H
            have p8 : 0 ≤ (0 : Int) := (by omega)
            have q8 : 0 < a0.size := (by have : (0 : Int) < (a0.size : Int) := of_decide_eq_true (by first | (with_reducible assumption) | assumption); omega)
            have hx8 : ∀ h : 0 < a0.size, ((a0[0]'h).toNat : Int) = bt a0 0 := bt_at a0 0
            clear p8
            have qi8 : (0 < (a0.size : Int)) = True := eq_true (of_decide_eq_true (by first | (with_reducible assumption) | assumption))
            replace q8 := eq_true q8
            go_enter Tryz.func24, Tryz.ntmps24
            go_wp2_with (first | (go_at_call 41; (with_reducible refine (spec_idIsDigit.calls (bt a0 0) true _ A9.out).mono ?_); rintro e w' ⟨rfl, ⟨nd, rfl⟩⟩) | ((with_reducible refine gate_callee (f := 43) rfl ?_); refine goesL_ (some 18) rfl rfl Tryz.func43 (by kernel_rfl) rfl #[.int .i64 (a0.size : Int)] rfl (by (try simp only [List.map_toArray, List.map_cons, List.map_nil]); first | done | rfl | (simp only [List.length_drop, List.length_take]; rfl)) ?_; (with_reducible refine (strconv_Itoa.calls (a0.size : Int) t124 _ (show DoorU _ from ?side1) A11.out).mono ?_); (case side1 => exact Stays.below hT_ (by first | (repeat (first | (with_reducible first | exact HB.out | apply below_alloc | apply pw_below_drewN | apply below_drew1) | exact HB.out)) | (repeat (first | exact Below.refl _ _ | apply below_drew1 | apply pw_below_drewN)))); rintro e w14 ⟨rfl, hb⟩; refine ⟨_, rfl, ?_⟩; have n0_ := Aside0.mk (below_step (by repeat (first | (with_reducible first | exact HB.out | apply below_alloc | apply pw_below_drewN | apply below_drew1) | exact HB.out)) hb); clear HB; have HB := n0_; clear n0_; (try clear hb); (try clear hb2); (try clear hk); (try clear hi)))
            go_ret
            exact ⟨by first | rfl | (simp [errW_none, errW_some] <;> rfl) | (simp [*, errW_none, errW_some] <;> rfl), by repeat (first | (with_reducible first | exact HB.out | apply below_alloc | apply pw_below_drewN | apply below_drew1) | exact HB.out)⟩
          · rw [if_neg c13] at H
            exact absurd H (by simp)
        · rw [if_neg c12] at H
          exact absurd H (by simp)
      · replace c10 := Bool.eq_false_iff.mpr c10
        subst c10
        have H1 : (if (bt a0 0) = 95 then ((strconv_Itoa.f (a0.size : Int)).bind fun t125 => (if t125.size + 1 ≤ 9223372036854775807 then (if (t125 ++ (⟨#[95]⟩ : ByteArray)).size + a0.size ≤ 9223372036854775807 then (some ((t125 ++ (⟨#[95]⟩ : ByteArray)) ++ a0)) else (none)) else (none))) else ((strconv_Itoa.f (a0.size : Int)).bind fun t126 => (if t126.size + 0 ≤ 9223372036854775807 then (if (t126 ++ (⟨#[]⟩ : ByteArray)).size + a0.size ≤ 9223372036854775807 then (some ((t126 ++ (⟨#[]⟩ : ByteArray)) ++ a0)) else (none)) else (none)))) = some r := by rw [if_neg (show ¬ (false = true) by decide)] at H; exact H
        clear H
        have H := H1
        clear H1
        by_cases c16 : (bt a0 0) = 95
        · rw [if_pos c16] at H
          have c16b0 : ((bt a0 0) == 95) = true := beq_iff_eq.mpr c16
          have c16b1 : ((bt a0 0) != 95) = false := bne_eq_false_iff_eq.mpr c16
          clear c16
          replace H := Option.bind_eq_some_iff.mp H
          obtain ⟨t125, A170, H⟩ := H
          replace H : (if t125.size + 1 ≤ 9223372036854775807 then (if (t125 ++ (⟨#[95]⟩ : ByteArray)).size + a0.size ≤ 9223372036854775807 then (some ((t125 ++ (⟨#[95]⟩ : ByteArray)) ++ a0)) else (none)) else (none)) = some r := H
          have A17 := Aside0.mk A170
          clear A170
          by_cases c18 : t125.size + 1 ≤ 9223372036854775807
          · rw [if_pos c18] at H
            have c18b0 := eq_true c18
            have c18b1 : decide (t125.size + 1 ≤ 9223372036854775807) = true := decide_eq_true c18
            try have c18b2 : (9223372036854775807 < t125.size + 1) = False := eq_false (Nat.not_lt.2 c18)
            by_cases c19 : (t125 ++ (⟨#[95]⟩ : ByteArray)).size + a0.size ≤ 9223372036854775807
            · rw [if_pos c19] at H
              have c19b0 := eq_true c19
              have c19b1 : decide ((t125 ++ (⟨#[95]⟩ : ByteArray)).size + a0.size ≤ 9223372036854775807) = true := decide_eq_true c19
              try have c19b2 : (9223372036854775807 < (t125 ++ (⟨#[95]⟩ : ByteArray)).size + a0.size) = False := eq_false (Nat.not_lt.2 c19)
              try have c19b4 : (9223372036854775807 < t125.size + 1 + a0.size) = False := eq_false (by have h_ := c19; (repeat rw [ByteArray.size_append] at h_); exact Nat.not_lt.2 h_)
              obtain rfl := Option.some.inj H
              have p8 : 0 ≤ (0 : Int) := (by omega)
              have q8 : 0 < a0.size := (by have : (0 : Int) < (a0.size : Int) := of_decide_eq_true (by first | (with_reducible assumption) | assumption); omega)
              have hx8 : ∀ h : 0 < a0.size, ((a0[0]'h).toNat : Int) = bt a0 0 := bt_at a0 0
              clear p8
              have qi8 : (0 < (a0.size : Int)) = True := eq_true (of_decide_eq_true (by first | (with_reducible assumption) | assumption))
              replace q8 := eq_true q8
              go_enter Tryz.func24, Tryz.ntmps24
              go_wp2_with (first | (go_at_call 41; (with_reducible refine (spec_idIsDigit.calls (bt a0 0) false _ A9.out).mono ?_); rintro e w' ⟨rfl, ⟨nd, rfl⟩⟩; have p15 : 0 ≤ (0 : Int) := (by omega); have q15 : 0 < a0.size := (by have : (0 : Int) < (a0.size : Int) := of_decide_eq_true (by first | (with_reducible assumption) | assumption); omega); have hx15 : ∀ h : 0 < a0.size, ((a0[0]'h).toNat : Int) = bt a0 0 := bt_at a0 0; clear p15; have qi15 : (0 < (a0.size : Int)) = True := eq_true (of_decide_eq_true (by first | (with_reducible assumption) | assumption)); replace q15 := eq_true q15) | ((with_reducible refine gate_callee (f := 43) rfl ?_); refine goesL_ (some 18) rfl rfl Tryz.func43 (by kernel_rfl) rfl #[.int .i64 (a0.size : Int)] rfl (by (try simp only [List.map_toArray, List.map_cons, List.map_nil]); first | done | rfl | (simp only [List.length_drop, List.length_take]; rfl)) ?_; (with_reducible refine (strconv_Itoa.calls (a0.size : Int) t125 _ (show DoorU _ from ?side1) A17.out).mono ?_); (case side1 => exact Stays.below hT_ (by first | (repeat (first | (with_reducible first | exact HB.out | apply below_alloc | apply pw_below_drewN | apply below_drew1) | exact HB.out)) | (repeat (first | exact Below.refl _ _ | apply below_drew1 | apply pw_below_drewN)))); rintro e w20 ⟨rfl, hb⟩; refine ⟨_, rfl, ?_⟩; have n0_ := Aside0.mk (below_step (by repeat (first | (with_reducible first | exact HB.out | apply below_alloc | apply pw_below_drewN | apply below_drew1) | exact HB.out)) hb); clear HB; have HB := n0_; clear n0_; (try clear hb); (try clear hb2); (try clear hk); (try clear hi)))
              go_ret
              exact ⟨by first | rfl | (simp [errW_none, errW_some] <;> rfl) | (simp [*, errW_none, errW_some] <;> rfl), by repeat (first | (with_reducible first | exact HB.out | apply below_alloc | apply pw_below_drewN | apply below_drew1) | exact HB.out)⟩
            · rw [if_neg c19] at H
              exact absurd H (by simp)
          · rw [if_neg c18] at H
            exact absurd H (by simp)
        · rw [if_neg c16] at H
          have c16b0 : ((bt a0 0) == 95) = false := beq_eq_false_iff_ne.mpr c16
          have c16b1 : ((bt a0 0) != 95) = true := bne_iff_ne.mpr c16
          replace H := Option.bind_eq_some_iff.mp H
          obtain ⟨t126, A210, H⟩ := H
          replace H : (if t126.size + 0 ≤ 9223372036854775807 then (if (t126 ++ (⟨#[]⟩ : ByteArray)).size + a0.size ≤ 9223372036854775807 then (some ((t126 ++ (⟨#[]⟩ : ByteArray)) ++ a0)) else (none)) else (none)) = some r := H
          have A21 := Aside0.mk A210
          clear A210
          by_cases c22 : t126.size + 0 ≤ 9223372036854775807
          · rw [if_pos c22] at H
            have c22b0 := eq_true c22
            have c22b1 : decide (t126.size + 0 ≤ 9223372036854775807) = true := decide_eq_true c22
            try have c22b2 : (9223372036854775807 < t126.size + 0) = False := eq_false (Nat.not_lt.2 c22)
            by_cases c23 : (t126 ++ (⟨#[]⟩ : ByteArray)).size + a0.size ≤ 9223372036854775807
            · rw [if_pos c23] at H
              have c23b0 := eq_true c23
              have c23b1 : decide ((t126 ++ (⟨#[]⟩ : ByteArray)).size + a0.size ≤ 9223372036854775807) = true := decide_eq_true c23
              try have c23b2 : (9223372036854775807 < (t126 ++ (⟨#[]⟩ : ByteArray)).size + a0.size) = False := eq_false (Nat.not_lt.2 c23)
              try have c23b4 : (9223372036854775807 < t126.size + 0 + a0.size) = False := eq_false (by have h_ := c23; (repeat rw [ByteArray.size_append] at h_); exact Nat.not_lt.2 h_)
              obtain rfl := Option.some.inj H
              have p8 : 0 ≤ (0 : Int) := (by omega)
              have q8 : 0 < a0.size := (by have : (0 : Int) < (a0.size : Int) := of_decide_eq_true (by first | (with_reducible assumption) | assumption); omega)
              have hx8 : ∀ h : 0 < a0.size, ((a0[0]'h).toNat : Int) = bt a0 0 := bt_at a0 0
              clear p8
              have qi8 : (0 < (a0.size : Int)) = True := eq_true (of_decide_eq_true (by first | (with_reducible assumption) | assumption))
              replace q8 := eq_true q8
              go_enter Tryz.func24, Tryz.ntmps24
              go_wp2_with (first | (go_at_call 41; (with_reducible refine (spec_idIsDigit.calls (bt a0 0) false _ A9.out).mono ?_); rintro e w' ⟨rfl, ⟨nd, rfl⟩⟩; have p15 : 0 ≤ (0 : Int) := (by omega); have q15 : 0 < a0.size := (by have : (0 : Int) < (a0.size : Int) := of_decide_eq_true (by first | (with_reducible assumption) | assumption); omega); have hx15 : ∀ h : 0 < a0.size, ((a0[0]'h).toNat : Int) = bt a0 0 := bt_at a0 0; clear p15; have qi15 : (0 < (a0.size : Int)) = True := eq_true (of_decide_eq_true (by first | (with_reducible assumption) | assumption)); replace q15 := eq_true q15) | ((with_reducible refine gate_callee (f := 43) rfl ?_); refine goesL_ (some 18) rfl rfl Tryz.func43 (by kernel_rfl) rfl #[.int .i64 (a0.size : Int)] rfl (by (try simp only [List.map_toArray, List.map_cons, List.map_nil]); first | done | rfl | (simp only [List.length_drop, List.length_take]; rfl)) ?_; (with_reducible refine (strconv_Itoa.calls (a0.size : Int) t126 _ (show DoorU _ from ?side1) A21.out).mono ?_); (case side1 => exact Stays.below hT_ (by first | (repeat (first | (with_reducible first | exact HB.out | apply below_alloc | apply pw_below_drewN | apply below_drew1) | exact HB.out)) | (repeat (first | exact Below.refl _ _ | apply below_drew1 | apply pw_below_drewN)))); rintro e w24 ⟨rfl, hb⟩; refine ⟨_, rfl, ?_⟩; have n0_ := Aside0.mk (below_step (by repeat (first | (with_reducible first | exact HB.out | apply below_alloc | apply pw_below_drewN | apply below_drew1) | exact HB.out)) hb); clear HB; have HB := n0_; clear n0_; (try clear hb); (try clear hb2); (try clear hk); (try clear hi)))
              go_ret
              exact ⟨by first | rfl | (simp [errW_none, errW_some] <;> rfl) | (simp [*, errW_none, errW_some] <;> rfl), by repeat (first | (with_reducible first | exact HB.out | apply below_alloc | apply pw_below_drewN | apply below_drew1) | exact HB.out)⟩
            · rw [if_neg c23] at H
              exact absurd H (by simp)
          · rw [if_neg c22] at H
            exact absurd H (by simp)
    · rw [if_neg c7] at H
      exact absurd H (by simp)

/-! ### spec_idNext: function 45 -/
def spec_idNext.l0 : Nat → Int → Int → List Int → Int → Int → Option (Int)
  | 0, _, _, _, _, _ => none
  | k + 1, x1, x5, x8, x9, x10 => if x10 < x9 then (if 0 ≤ x10 then (if x10 < (x8.length : Int) then (if (rd x8 x10) ≥ x1 then (if x5 < 0 then (spec_idNext.l0 k x1 (rd x8 x10) x8 x9 (wrap64 (x10 + 1))) else (if (rd x8 x10) < x5 then (spec_idNext.l0 k x1 (rd x8 x10) x8 x9 (wrap64 (x10 + 1))) else (spec_idNext.l0 k x1 x5 x8 x9 (wrap64 (x10 + 1))))) else (spec_idNext.l0 k x1 x5 x8 x9 (wrap64 (x10 + 1)))) else (none)) else (none)) else (some x5)
def spec_idNext.f (k : Nat) (l0 : List Int) (a1 : Int) : Option (Int) := spec_idNext.l0 k a1 (-1) l0 (l0.length : Int) 0
theorem spec_idNext.mono_l : ∀ k, (∀ y0 y1 y2 y3 y4, LeO (spec_idNext.l0 k y0 y1 y2 y3 y4) (spec_idNext.l0 (k + 1) y0 y1 y2 y3 y4))
  | 0 => fun _ _ _ _ _ r h => by simp [spec_idNext.l0] at h
  | k + 1 => by
    have ih0 := spec_idNext.mono_l k
    · intro y0 y1 y2 y3 y4
      unfold spec_idNext.l0
      repeat' first
      | (with_reducible exact ih0 _ _ _ _ _)
      | (with_reducible exact LeO.refl _)
      | (with_reducible exact LeO.none _)
      | (with_reducible refine LeO.ite ?_ ?_)
      | (with_reducible refine LeO.bind ?_ (fun _ => ?_))
      | exact ih0 _ _ _ _ _
      | exact LeO.none _
      | refine LeO.ite ?_ ?_
      | refine LeO.bind ?_ (fun _ => ?_)
theorem spec_idNext.mono : ∀ a0 a1 k, LeO (spec_idNext.f k a0 a1) (spec_idNext.f (k + 1) a0 a1) := by
  intro a0 a1 k
  have ih0 := spec_idNext.mono_l k
  unfold spec_idNext.f
  repeat' first
      | (with_reducible exact ih0 _ _ _ _ _)
      | (with_reducible exact LeO.refl _)
      | (with_reducible exact LeO.none _)
      | (with_reducible refine LeO.ite ?_ ?_)
      | (with_reducible refine LeO.bind ?_ (fun _ => ?_))
      | exact ih0 _ _ _ _ _
      | exact LeO.none _
      | refine LeO.ite ?_ ?_
      | refine LeO.bind ?_ (fun _ => ?_)
set_option maxHeartbeats 8000000 in
set_option maxRecDepth 100000 in
theorem spec_idNext.calls (k : Nat) (A0 : Option Addr) (c0 : Nat) (l0 : List Int) (a1 : Int) (r : Int) (w : World) (hr0 : Kd.C (Kd.int .i64) w A0 l0.length l0) (hc0 : l0.length ≤ c0) (h : spec_idNext.f k l0 a1 = some r) :
    Calls Tryz.prog 45 #[.slice A0 l0.length c0, .int .i64 a1] w fun e w' => e = .returned (.int .i64 r) ∧ Drawn0 w w' := by
  have HR0 := Aside0.mk hr0
  have HC0 := Aside0.mk hc0
  clear hr0 hc0
  have H : (spec_idNext.l0 k a1 (-1) l0 (l0.length : Int) 0) = some r := h
  clear h
  have H' := Aside0.mk H
  clear H
  go_enter Tryz.func45, Tryz.ntmps45
  go_wp2
  go_loopg [5, 10] k (fun kq v5 v10 w' => ∃ (x5_1 : Int) (x10_1 : Int), v5 = .int .i64 x5_1 ∧ v10 = .int .i64 x10_1 ∧ Aside0 (spec_idNext.l0 kq a1 x5_1 l0 (l0.length : Int) x10_1 = some r) ∧ Aside0 (kq ≤ k) ∧ Drawn0 w w')
  case atStart => exact ⟨((-1)), (0), (by first | rfl | (simp; done) | (simp [*]; done)), (by first | rfl | (simp; done) | (simp [*]; done)), H', ⟨Nat.le_refl _⟩, by repeat (first | exact Drawn0.refl _ | apply Drawn0.step)⟩
  case round =>
    clear H'
    try clear p2
    obtain ⟨x5_1, x10_1, rfl, rfl, HA, HK1, ⟨m1, rfl⟩⟩ := hrel
    cases gk with
    | zero => exact absurd HA.out (by simp [spec_idNext.l0])
    | succ k1 =>
      have H := HA.out
      clear HA
      simp only [spec_idNext.l0] at H
      by_cases c3 : x10_1 < (l0.length : Int)
      · rw [if_pos c3] at H
        have c3b0 : decide (x10_1 < (l0.length : Int)) = true := decide_eq_true c3
        clear c3
        by_cases c4 : 0 ≤ x10_1
        · rw [if_pos c4] at H
          have c4b0 : decide (0 ≤ x10_1) = true := decide_eq_true c4
          clear c4
          by_cases c5 : x10_1 < (l0.length : Int)
          · rw [if_pos c5] at H
            have c5b0 : decide (x10_1 < (l0.length : Int)) = true := decide_eq_true c5
            clear c5
            by_cases c6 : (rd l0 x10_1) ≥ a1
            · rw [if_pos c6] at H
              have c6b0 : decide (a1 ≤ (rd l0 x10_1)) = true := decide_eq_true c6
              clear c6
              by_cases c7 : x5_1 < 0
              · rw [if_pos c7] at H
                have c7b0 : decide (x5_1 < 0) = true := decide_eq_true c7
                clear c7
                have H' := Aside0.mk H
                clear H
                have p127 : 0 ≤ (x10_1 : Int) := of_decide_eq_true (by first | (with_reducible assumption) | assumption)
                have q127 : x10_1 < (l0.length : Int) := of_decide_eq_true (by first | (with_reducible assumption) | assumption)
                obtain ⟨ad127, e127, hx127_0⟩ := Kd.at_int HR0.out x10_1 p127 q127
                cases e127
                replace p127 := eq_true p127
                replace q127 := eq_true q127
                go_wp2
                go_roundg k1
                case measure => have := HK1.out; omega
                case rel => exact ⟨(rd l0 x10_1), (wrap64 (x10_1 + 1)), (by first | rfl | (simp; done) | (simp [*]; done)), (by first | rfl | (simp; done) | (simp [*]; done)), H', ⟨by have := HK1.out; omega⟩, by repeat (first | exact Drawn0.refl _ | apply Drawn0.step)⟩
              · rw [if_neg c7] at H
                have c7b0 : decide (x5_1 < 0) = false := decide_eq_false c7
                clear c7
                by_cases c8 : (rd l0 x10_1) < x5_1
                · rw [if_pos c8] at H
                  have c8b0 : decide ((rd l0 x10_1) < x5_1) = true := decide_eq_true c8
                  clear c8
                  have H' := Aside0.mk H
                  clear H
                  have p127 : 0 ≤ (x10_1 : Int) := of_decide_eq_true (by first | (with_reducible assumption) | assumption)
                  have q127 : x10_1 < (l0.length : Int) := of_decide_eq_true (by first | (with_reducible assumption) | assumption)
                  obtain ⟨ad127, e127, hx127_0⟩ := Kd.at_int HR0.out x10_1 p127 q127
                  cases e127
                  replace p127 := eq_true p127
                  replace q127 := eq_true q127
                  go_wp2
                  go_roundg k1
                  case measure => have := HK1.out; omega
                  case rel => exact ⟨(rd l0 x10_1), (wrap64 (x10_1 + 1)), (by first | rfl | (simp; done) | (simp [*]; done)), (by first | rfl | (simp; done) | (simp [*]; done)), H', ⟨by have := HK1.out; omega⟩, by repeat (first | exact Drawn0.refl _ | apply Drawn0.step)⟩
                · rw [if_neg c8] at H
                  have c8b0 : decide ((rd l0 x10_1) < x5_1) = false := decide_eq_false c8
                  clear c8
                  have H' := Aside0.mk H
                  clear H
                  have p127 : 0 ≤ (x10_1 : Int) := of_decide_eq_true (by first | (with_reducible assumption) | assumption)
                  have q127 : x10_1 < (l0.length : Int) := of_decide_eq_true (by first | (with_reducible assumption) | assumption)
                  obtain ⟨ad127, e127, hx127_0⟩ := Kd.at_int HR0.out x10_1 p127 q127
                  cases e127
                  replace p127 := eq_true p127
                  replace q127 := eq_true q127
                  go_wp2
                  go_roundg k1
                  case measure => have := HK1.out; omega
                  case rel => exact ⟨(x5_1), (wrap64 (x10_1 + 1)), (by first | rfl | (simp; done) | (simp [*]; done)), (by first | rfl | (simp; done) | (simp [*]; done)), H', ⟨by have := HK1.out; omega⟩, by repeat (first | exact Drawn0.refl _ | apply Drawn0.step)⟩
            · rw [if_neg c6] at H
              have c6b0 : decide (a1 ≤ (rd l0 x10_1)) = false := decide_eq_false c6
              clear c6
              have H' := Aside0.mk H
              clear H
              have p127 : 0 ≤ (x10_1 : Int) := of_decide_eq_true (by first | (with_reducible assumption) | assumption)
              have q127 : x10_1 < (l0.length : Int) := of_decide_eq_true (by first | (with_reducible assumption) | assumption)
              obtain ⟨ad127, e127, hx127_0⟩ := Kd.at_int HR0.out x10_1 p127 q127
              cases e127
              replace p127 := eq_true p127
              replace q127 := eq_true q127
              go_wp2
              go_roundg k1
              case measure => have := HK1.out; omega
              case rel => exact ⟨(x5_1), (wrap64 (x10_1 + 1)), (by first | rfl | (simp; done) | (simp [*]; done)), (by first | rfl | (simp; done) | (simp [*]; done)), H', ⟨by have := HK1.out; omega⟩, by repeat (first | exact Drawn0.refl _ | apply Drawn0.step)⟩
          · rw [if_neg c5] at H
            exact absurd H (by simp)
        · rw [if_neg c4] at H
          exact absurd H (by simp)
      · rw [if_neg c3] at H
        have c3b0 : decide (x10_1 < (l0.length : Int)) = false := decide_eq_false c3
        clear c3
        obtain rfl := Option.some.inj H
        go_wp2
        go_ret
        exact ⟨by first | rfl | (simp; done) | (simp [*]; done), by repeat (first | exact Drawn0.refl _ | apply Drawn0.step)⟩

/-! ### spec_idThreshold: function 61 -/
def spec_idThreshold.f (a0 : Int) (a1 : Int) : Option (Int) := some (mn (mx (wrap64 ((wrap64 (36 * a0)) - a1)) 1) 26)
set_option maxHeartbeats 8000000 in
set_option maxRecDepth 100000 in
theorem spec_idThreshold.calls (a0 : Int) (a1 : Int) (r : Int) (w : World) (h : spec_idThreshold.f a0 a1 = some r) :
    Calls Tryz.prog 61 #[.int .i64 a0, .int .i64 a1] w fun e w' => e = .returned (.int .i64 r) ∧ Below w.heap.size w w' := by
  have HB := Aside0.mk (Below.refl w.heap.size w)
  have H : (some (mn (mx (wrap64 ((wrap64 (36 * a0)) - a1)) 1) 26)) = some r := h
  clear h
  obtain ⟨ji3, hji3⟩ : ∃ j_ : Int, (mx (wrap64 ((wrap64 (36 * a0)) - a1)) 1) = j_ := ⟨_, rfl⟩
  replace H : (some (mn (ji3) 26)) = some r := by first | (rw [hji3] at H; exact H) | (simp only [hji3] at H ⊢; exact H)
  (try (have hji3l : 1 ≤ ji3 := by (rw [← hji3]; unfold mx; (repeat' split) <;> omega)))
  (try (have hji3m : 0 ≤ ji3 := by omega))
  have hji3_ : (if (wrap64 ((wrap64 (36 * a0)) - a1)) < 1 then 1 else (wrap64 ((wrap64 (36 * a0)) - a1))) = ji3 := hji3
  obtain ⟨ji4, hji4⟩ : ∃ j_ : Int, (mn (ji3) 26) = j_ := ⟨_, rfl⟩
  replace H : (some ji4) = some r := by first | (rw [hji4] at H; exact H) | (simp only [hji4] at H ⊢; exact H)
  have hji4_ : (if 26 < (ji3) then 26 else (ji3)) = ji4 := hji4
  obtain rfl := Option.some.inj H
  go_enter Tryz.func61, Tryz.ntmps61
  go_wp2
  go_ret
  exact ⟨by first | rfl | (simp [errW_none, errW_some] <;> rfl) | (simp only [← hji3, ← hji4]; first | rfl | (simp [errW_none, errW_some] <;> rfl)) | (simp [*, errW_none, errW_some] <;> rfl), by repeat (first | (with_reducible first | exact HB.out | apply below_alloc | apply pw_below_drewN | apply below_drew1) | exact HB.out)⟩

/-! ### spec_idLetter: function 62 -/
def spec_idLetter.f (a0 : Int) : Option (ByteArray) := if 0 ≤ a0 then (if a0 ≤ (wrap64 (a0 + 1)) then (if (wrap64 (a0 + 1)) ≤ 36 then (some ((⟨#[97, 98, 99, 100, 101, 102, 103, 104, 105, 106, 107, 108, 109, 110, 111, 112, 113, 114, 115, 116, 117, 118, 119, 120, 121, 122, 48, 49, 50, 51, 52, 53, 54, 55, 56, 57]⟩ : ByteArray).extract (a0 : Int).toNat ((wrap64 (a0 + 1)) : Int).toNat)) else (none)) else (none)) else (none)
set_option maxHeartbeats 8000000 in
set_option maxRecDepth 100000 in
theorem spec_idLetter.calls (a0 : Int) (r : ByteArray) (w : World) (h : spec_idLetter.f a0 = some r) :
    Calls Tryz.prog 62 #[.int .i64 a0] w fun e w' => e = .returned (.string r) ∧ Drawn0 w w' := by
  have H : (if 0 ≤ a0 then (if a0 ≤ (wrap64 (a0 + 1)) then (if (wrap64 (a0 + 1)) ≤ 36 then (some ((⟨#[97, 98, 99, 100, 101, 102, 103, 104, 105, 106, 107, 108, 109, 110, 111, 112, 113, 114, 115, 116, 117, 118, 119, 120, 121, 122, 48, 49, 50, 51, 52, 53, 54, 55, 56, 57]⟩ : ByteArray).extract (a0 : Int).toNat ((wrap64 (a0 + 1)) : Int).toNat)) else (none)) else (none)) else (none)) = some r := h
  clear h
  by_cases c2 : 0 ≤ a0
  · rw [if_pos c2] at H
    have c2b0 := eq_true c2
    have c2b1 : decide (0 ≤ a0) = true := decide_eq_true c2
    clear c2
    by_cases c3 : a0 ≤ (wrap64 (a0 + 1))
    · rw [if_pos c3] at H
      have c3b0 := eq_true c3
      have c3b1 : decide (a0 ≤ (wrap64 (a0 + 1))) = true := decide_eq_true c3
      by_cases c4 : (wrap64 (a0 + 1)) ≤ 36
      · rw [if_pos c4] at H
        have c4b0 := eq_true c4
        have c4b1 : decide ((wrap64 (a0 + 1)) ≤ 36) = true := decide_eq_true c4
        obtain rfl := Option.some.inj H
        go_enter Tryz.func62, Tryz.ntmps62
        go_wp2
        go_ret
        exact ⟨by first | rfl | (simp; done) | (simp [*]; done), by repeat (first | exact Drawn0.refl _ | apply Drawn0.step)⟩
      · rw [if_neg c4] at H
        exact absurd H (by simp)
    · rw [if_neg c3] at H
      exact absurd H (by simp)
  · rw [if_neg c2] at H
    exact absurd H (by simp)

/-! ### spec_idDelta: function 46 -/
def spec_idDelta.l0 : Nat → Int → Int → ByteArray → Int → Option (ByteArray)
  | 0, _, _, _, _ => none
  | k + 1, x0, x1, x5, x6 => (spec_idThreshold.f x6 x1).bind fun t128 => (if x0 < t128 then ((spec_idLetter.f x0).bind fun t129 => (if x5.size + t129.size ≤ 9223372036854775807 then (some (x5 ++ t129)) else (none))) else (if (wrap64 (36 - t128)) = 0 then (none) else ((spec_idLetter.f (wrap64 (t128 + (Int.tmod (wrap64 (x0 - t128)) (wrap64 (36 - t128)))))).bind fun t130 => (if x5.size + t130.size ≤ 9223372036854775807 then (spec_idDelta.l0 k (wrap64 (Int.tdiv (wrap64 (x0 - t128)) (wrap64 (36 - t128)))) x1 (x5 ++ t130) (wrap64 (x6 + 1))) else (none)))))
def spec_idDelta.f (k : Nat) (a0 : Int) (a1 : Int) : Option (ByteArray) := spec_idDelta.l0 k a0 a1 (⟨#[]⟩ : ByteArray) 1
theorem spec_idDelta.mono_l : ∀ k, (∀ y0 y1 y2 y3, LeO (spec_idDelta.l0 k y0 y1 y2 y3) (spec_idDelta.l0 (k + 1) y0 y1 y2 y3))
  | 0 => fun _ _ _ _ r h => by simp [spec_idDelta.l0] at h
  | k + 1 => by
    have ih0 := spec_idDelta.mono_l k
    · intro y0 y1 y2 y3
      unfold spec_idDelta.l0
      repeat' first
      | (with_reducible exact ih0 _ _ _ _)
      | (with_reducible exact LeO.refl _)
      | (with_reducible exact LeO.none _)
      | (with_reducible refine LeO.ite ?_ ?_)
      | (with_reducible refine LeO.bind ?_ (fun _ => ?_))
      | exact ih0 _ _ _ _
      | exact LeO.none _
      | refine LeO.ite ?_ ?_
      | refine LeO.bind ?_ (fun _ => ?_)
theorem spec_idDelta.mono : ∀ a0 a1 k, LeO (spec_idDelta.f k a0 a1) (spec_idDelta.f (k + 1) a0 a1) := by
  intro a0 a1 k
  have ih0 := spec_idDelta.mono_l k
  unfold spec_idDelta.f
  repeat' first
      | (with_reducible exact ih0 _ _ _ _)
      | (with_reducible exact LeO.refl _)
      | (with_reducible exact LeO.none _)
      | (with_reducible refine LeO.ite ?_ ?_)
      | (with_reducible refine LeO.bind ?_ (fun _ => ?_))
      | exact ih0 _ _ _ _
      | exact LeO.none _
      | refine LeO.ite ?_ ?_
      | refine LeO.bind ?_ (fun _ => ?_)
set_option maxHeartbeats 8000000 in
set_option maxRecDepth 100000 in
theorem spec_idDelta.calls (k : Nat) (a0 : Int) (a1 : Int) (r : ByteArray) (w : World) (h : spec_idDelta.f k a0 a1 = some r) :
    Calls Tryz.prog 46 #[.int .i64 a0, .int .i64 a1] w fun e w' => e = .returned (.string r) ∧ Below w.heap.size w w' := by
  have HB := Aside0.mk (Below.refl w.heap.size w)
  have H : (spec_idDelta.l0 k a0 a1 (⟨#[]⟩ : ByteArray) 1) = some r := h
  clear h
  have H' := Aside0.mk H
  clear H
  go_enter Tryz.func46, Tryz.ntmps46
  go_wp2
  go_loopg [0, 5, 6] k (fun kq v0 v5 v6 w' => ∃ (x0_1 : Int) (x5_1 : ByteArray) (x6_1 : Int), v0 = .int .i64 x0_1 ∧ v5 = .string x5_1 ∧ v6 = .int .i64 x6_1 ∧ Aside0 (spec_idDelta.l0 kq x0_1 a1 x5_1 x6_1 = some r) ∧ Aside0 (kq ≤ k) ∧ Aside0 (Below w.heap.size w w'))
  case atStart => exact ⟨(a0), ((⟨#[]⟩ : ByteArray)), (1), (by first | rfl | (simp; done) | (simp [*]; done)), (by first | rfl | (simp; done) | (simp [*]; done)), (by first | rfl | (simp; done) | (simp [*]; done)), H', ⟨Nat.le_refl _⟩, ⟨by repeat (first | (with_reducible first | exact HB.out | apply below_alloc | apply pw_below_drewN | apply below_drew1) | exact HB.out)⟩⟩
  case round =>
    clear H'
    try clear p2
    obtain ⟨x0_1, x5_1, x6_1, rfl, rfl, rfl, HA, HK1, HB⟩ := hrel
    cases gk with
    | zero => exact absurd HA.out (by simp [spec_idDelta.l0])
    | succ k1 =>
      have H := HA.out
      clear HA
      simp only [spec_idDelta.l0] at H
      replace H := Option.bind_eq_some_iff.mp H
      obtain ⟨t128, A30, H⟩ := H
      replace H : (if x0_1 < t128 then ((spec_idLetter.f x0_1).bind fun t129 => (if x5_1.size + t129.size ≤ 9223372036854775807 then (some (x5_1 ++ t129)) else (none))) else (if (wrap64 (36 - t128)) = 0 then (none) else ((spec_idLetter.f (wrap64 (t128 + (Int.tmod (wrap64 (x0_1 - t128)) (wrap64 (36 - t128)))))).bind fun t130 => (if x5_1.size + t130.size ≤ 9223372036854775807 then (spec_idDelta.l0 k1 (wrap64 (Int.tdiv (wrap64 (x0_1 - t128)) (wrap64 (36 - t128)))) a1 (x5_1 ++ t130) (wrap64 (x6_1 + 1))) else (none))))) = some r := H
      have A3 := Aside0.mk A30
      clear A30
      by_cases c4 : x0_1 < t128
      · rw [if_pos c4] at H
        have c4b0 : decide (x0_1 < t128) = true := decide_eq_true c4
        clear c4
        replace H := Option.bind_eq_some_iff.mp H
        obtain ⟨t129, A50, H⟩ := H
        replace H : (if x5_1.size + t129.size ≤ 9223372036854775807 then (some (x5_1 ++ t129)) else (none)) = some r := H
        have A5 := Aside0.mk A50
        clear A50
        by_cases c6 : x5_1.size + t129.size ≤ 9223372036854775807
        · rw [if_pos c6] at H
          have c6b0 := eq_true c6
          have c6b1 : decide (x5_1.size + t129.size ≤ 9223372036854775807) = true := decide_eq_true c6
          try have c6b2 : (9223372036854775807 < x5_1.size + t129.size) = False := eq_false (Nat.not_lt.2 c6)
          obtain rfl := Option.some.inj H
          go_wp2_with (first | ((with_reducible refine gate_callee (f := 61) rfl ?_); refine goesL_ (some 12) rfl rfl Tryz.func61 (by kernel_rfl) rfl #[.int .i64 x6_1, .int .i64 a1] rfl (by (try simp only [List.map_toArray, List.map_cons, List.map_nil]); first | done | rfl | (simp only [List.length_drop, List.length_take]; rfl)) ?_; (with_reducible refine (spec_idThreshold.calls x6_1 a1 t128 _ A3.out).mono ?_); rintro e w7 ⟨rfl, hb⟩; refine ⟨_, rfl, ?_⟩; have n0_ := Aside0.mk (below_step (by repeat (first | (with_reducible first | exact HB.out | apply below_alloc | apply pw_below_drewN | apply below_drew1) | exact HB.out)) hb); clear HB; have HB := n0_; clear n0_; (try clear hb); (try clear hb2); (try clear hk); (try clear hi)) | ((with_reducible refine gate_callee (f := 62) rfl ?_); refine goesL_ (some 18) rfl rfl Tryz.func62 (by kernel_rfl) rfl #[.int .i64 x0_1] rfl (by (try simp only [List.map_toArray, List.map_cons, List.map_nil]); first | done | rfl | (simp only [List.length_drop, List.length_take]; rfl)) ?_; (with_reducible refine (spec_idLetter.calls x0_1 t129 _ A5.out).mono ?_); rintro e w' ⟨rfl, ⟨nd, rfl⟩⟩; refine ⟨_, rfl, ?_⟩))
          go_ret
          exact ⟨by first | rfl | (simp [errW_none, errW_some] <;> rfl) | (simp [*, errW_none, errW_some] <;> rfl), by repeat (first | (with_reducible first | exact HB.out | apply below_alloc | apply pw_below_drewN | apply below_drew1) | exact HB.out)⟩
        · rw [if_neg c6] at H
          exact absurd H (by simp)
      · rw [if_neg c4] at H
        have c4b0 : decide (x0_1 < t128) = false := decide_eq_false c4
        clear c4
        by_cases c8 : (wrap64 (36 - t128)) = 0
        · rw [if_pos c8] at H
          exact absurd H (by simp)
        · rw [if_neg c8] at H
          have c8b0 : ((wrap64 (36 - t128)) == 0) = false := beq_eq_false_iff_ne.mpr c8
          have c8b1 : ((wrap64 (36 - t128)) != 0) = true := bne_iff_ne.mpr c8
          replace H := Option.bind_eq_some_iff.mp H
          obtain ⟨t130, A90, H⟩ := H
          replace H : (if x5_1.size + t130.size ≤ 9223372036854775807 then (spec_idDelta.l0 k1 (wrap64 (Int.tdiv (wrap64 (x0_1 - t128)) (wrap64 (36 - t128)))) a1 (x5_1 ++ t130) (wrap64 (x6_1 + 1))) else (none)) = some r := H
          have A9 := Aside0.mk A90
          clear A90
          by_cases c10 : x5_1.size + t130.size ≤ 9223372036854775807
          · rw [if_pos c10] at H
            have c10b0 := eq_true c10
            have c10b1 : decide (x5_1.size + t130.size ≤ 9223372036854775807) = true := decide_eq_true c10
            try have c10b2 : (9223372036854775807 < x5_1.size + t130.size) = False := eq_false (Nat.not_lt.2 c10)
            have H' := Aside0.mk H
            clear H
            go_wp2_with (first | ((with_reducible refine gate_callee (f := 61) rfl ?_); refine goesL_ (some 12) rfl rfl Tryz.func61 (by kernel_rfl) rfl #[.int .i64 x6_1, .int .i64 a1] rfl (by (try simp only [List.map_toArray, List.map_cons, List.map_nil]); first | done | rfl | (simp only [List.length_drop, List.length_take]; rfl)) ?_; (with_reducible refine (spec_idThreshold.calls x6_1 a1 t128 _ A3.out).mono ?_); rintro e w11 ⟨rfl, hb⟩; refine ⟨_, rfl, ?_⟩; have n0_ := Aside0.mk (below_step (by repeat (first | (with_reducible first | exact HB.out | apply below_alloc | apply pw_below_drewN | apply below_drew1) | exact HB.out)) hb); clear HB; have HB := n0_; clear n0_; (try clear hb); (try clear hb2); (try clear hk); (try clear hi)) | ((with_reducible refine gate_callee (f := 62) rfl ?_); refine goesL_ (some 29) rfl rfl Tryz.func62 (by kernel_rfl) rfl #[.int .i64 (wrap64 (t128 + (Int.tmod (wrap64 (x0_1 - t128)) (wrap64 (36 - t128)))))] rfl (by (try simp only [List.map_toArray, List.map_cons, List.map_nil]); first | done | rfl | (simp only [List.length_drop, List.length_take]; rfl)) ?_; (with_reducible refine (spec_idLetter.calls (wrap64 (t128 + (Int.tmod (wrap64 (x0_1 - t128)) (wrap64 (36 - t128))))) t130 _ A9.out).mono ?_); rintro e w' ⟨rfl, ⟨nd, rfl⟩⟩; refine ⟨_, rfl, ?_⟩))
            go_roundg k1
            case measure => have := HK1.out; omega
            case rel => exact ⟨(wrap64 (Int.tdiv (wrap64 (x0_1 - t128)) (wrap64 (36 - t128)))), (x5_1 ++ t130), (wrap64 (x6_1 + 1)), (by first | rfl | (simp; done) | (simp [*]; done)), (by first | rfl | (simp; done) | (simp [*]; done)), (by first | rfl | (simp; done) | (simp [*]; done)), H', ⟨by have := HK1.out; omega⟩, ⟨by repeat (first | (with_reducible first | exact HB.out | apply below_alloc | apply pw_below_drewN | apply below_drew1) | exact HB.out)⟩⟩
          · rw [if_neg c10] at H
            exact absurd H (by simp)

/-! ### spec_idAdapted: function 47 -/
mutual
def spec_idAdapted.j0 : Nat → Int → Int → Option (Int)
  | 0, _, _ => none
  | k + 1, x0, x1 => if x1 = 0 then (none) else (spec_idAdapted.l0 k (wrap64 (x0 + (wrap64 (Int.tdiv x0 x1)))) 0)
def spec_idAdapted.l0 : Nat → Int → Int → Option (Int)
  | 0, _, _ => none
  | k + 1, x0, x7 => if x0 > 455 then (spec_idAdapted.l0 k (wrap64 (Int.tdiv x0 35)) (wrap64 (x7 + 36))) else (if (wrap64 (x0 + 38)) = 0 then (none) else (some (wrap64 (x7 + (wrap64 (Int.tdiv (wrap64 (36 * x0)) (wrap64 (x0 + 38))))))))
end
def spec_idAdapted.f (k : Nat) (a0 : Int) (a1 : Int) (a2 : Bool) : Option (Int) := if a2 = true then (spec_idAdapted.j0 k (wrap64 (Int.tdiv a0 700)) a1) else (spec_idAdapted.j0 k (wrap64 (Int.tdiv a0 2)) a1)
theorem spec_idAdapted.mono_l : ∀ k, (∀ y0 y1, LeO (spec_idAdapted.j0 k y0 y1) (spec_idAdapted.j0 (k + 1) y0 y1)) ∧ (∀ y0 y1, LeO (spec_idAdapted.l0 k y0 y1) (spec_idAdapted.l0 (k + 1) y0 y1))
  | 0 => ⟨fun _ _ r h => by simp [spec_idAdapted.j0] at h, fun _ _ r h => by simp [spec_idAdapted.l0] at h⟩
  | k + 1 => by
    obtain ⟨ih0, ih1⟩ := spec_idAdapted.mono_l k
    refine ⟨?_, ?_⟩
    · intro y0 y1
      unfold spec_idAdapted.j0
      repeat' first
      | (with_reducible exact ih0 _ _)
      | (with_reducible exact ih1 _ _)
      | (with_reducible exact LeO.refl _)
      | (with_reducible exact LeO.none _)
      | (with_reducible refine LeO.ite ?_ ?_)
      | (with_reducible refine LeO.bind ?_ (fun _ => ?_))
      | exact ih0 _ _
      | exact ih1 _ _
      | exact LeO.none _
      | refine LeO.ite ?_ ?_
      | refine LeO.bind ?_ (fun _ => ?_)
    · intro y0 y1
      unfold spec_idAdapted.l0
      repeat' first
      | (with_reducible exact ih0 _ _)
      | (with_reducible exact ih1 _ _)
      | (with_reducible exact LeO.refl _)
      | (with_reducible exact LeO.none _)
      | (with_reducible refine LeO.ite ?_ ?_)
      | (with_reducible refine LeO.bind ?_ (fun _ => ?_))
      | exact ih0 _ _
      | exact ih1 _ _
      | exact LeO.none _
      | refine LeO.ite ?_ ?_
      | refine LeO.bind ?_ (fun _ => ?_)
theorem spec_idAdapted.mono : ∀ a0 a1 a2 k, LeO (spec_idAdapted.f k a0 a1 a2) (spec_idAdapted.f (k + 1) a0 a1 a2) := by
  intro a0 a1 a2 k
  obtain ⟨ih0, ih1⟩ := spec_idAdapted.mono_l k
  unfold spec_idAdapted.f
  repeat' first
      | (with_reducible exact ih0 _ _)
      | (with_reducible exact ih1 _ _)
      | (with_reducible exact LeO.refl _)
      | (with_reducible exact LeO.none _)
      | (with_reducible refine LeO.ite ?_ ?_)
      | (with_reducible refine LeO.bind ?_ (fun _ => ?_))
      | exact ih0 _ _
      | exact ih1 _ _
      | exact LeO.none _
      | refine LeO.ite ?_ ?_
      | refine LeO.bind ?_ (fun _ => ?_)
set_option maxHeartbeats 8000000 in
set_option maxRecDepth 100000 in
theorem spec_idAdapted.calls (k : Nat) (a0 : Int) (a1 : Int) (a2 : Bool) (r : Int) (w : World) (h : spec_idAdapted.f k a0 a1 a2 = some r) :
    Calls Tryz.prog 47 #[.int .i64 a0, .int .i64 a1, .bool a2] w fun e w' => e = .returned (.int .i64 r) ∧ Drawn0 w w' := by
  have H : (if a2 = true then (spec_idAdapted.j0 k (wrap64 (Int.tdiv a0 700)) a1) else (spec_idAdapted.j0 k (wrap64 (Int.tdiv a0 2)) a1)) = some r := h
  clear h
  have HC4 := Aside0.mk H
  clear H
  go_enter Tryz.func47, Tryz.ntmps47
  go_upto_if 8 with (fail)
  go_cut [0] (fun v0 wc => ∃ (kq : Nat) (x0_3 : Int), v0 = .int .i64 x0_3 ∧ Aside0 (spec_idAdapted.j0 kq x0_3 a1 = some r) ∧ Aside0 (kq ≤ k) ∧ Drawn0 w wc)
  case first =>
    have H := HC4.out
    clear HC4
    by_cases c5 : a2 = true
    · subst c5
      have H1 : (spec_idAdapted.j0 k (wrap64 (Int.tdiv a0 700)) a1) = some r := by rw [if_pos rfl] at H; exact H
      clear H
      have H := H1
      clear H1
      have H' := Aside0.mk H
      clear H
      go_wp2
      go_meet
      case rel => exact ⟨_, (wrap64 (Int.tdiv a0 700)), (by first | rfl | (simp; done) | (simp [*]; done)), H', ⟨by first | omega | exact Nat.le_refl _⟩, by repeat (first | exact Drawn0.refl _ | apply Drawn0.step)⟩
    · replace c5 := Bool.eq_false_iff.mpr c5
      subst c5
      have H1 : (spec_idAdapted.j0 k (wrap64 (Int.tdiv a0 2)) a1) = some r := by rw [if_neg (show ¬ (false = true) by decide)] at H; exact H
      clear H
      have H := H1
      clear H1
      have H' := Aside0.mk H
      clear H
      go_wp2
      go_meet
      case rel => exact ⟨_, (wrap64 (Int.tdiv a0 2)), (by first | rfl | (simp; done) | (simp [*]; done)), H', ⟨by first | omega | exact Nat.le_refl _⟩, by repeat (first | exact Drawn0.refl _ | apply Drawn0.step)⟩
  case rest =>
    clear HC4
    try clear p2
    try clear c4
    try clear c5
    obtain ⟨kq, x0_3, rfl, HA, HJ3, ⟨mc3, rfl⟩⟩ := hcut
    cases kq with
    | zero => exact absurd HA.out (by simp [spec_idAdapted.j0])
    | succ kj3 =>
      have H := HA.out
      clear HA
      simp only [spec_idAdapted.j0] at H
      by_cases c6 : a1 = 0
      · rw [if_pos c6] at H
        exact absurd H (by simp)
      · rw [if_neg c6] at H
        have c6b0 : (a1 == 0) = false := beq_eq_false_iff_ne.mpr c6
        have c6b1 : (a1 != 0) = true := bne_iff_ne.mpr c6
        have H' := Aside0.mk H
        clear H
        go_wp2
        go_loopg [0, 7] kj3 (fun kq v0 v7 w' => ∃ (x0_2 : Int) (x7_2 : Int), v0 = .int .i64 x0_2 ∧ v7 = .int .i64 x7_2 ∧ Aside0 (spec_idAdapted.l0 kq x0_2 x7_2 = some r) ∧ Aside0 (kq ≤ kj3) ∧ Drawn0 w w')
        case atStart => exact ⟨(wrap64 (x0_3 + (wrap64 (Int.tdiv x0_3 a1)))), (0), (by first | rfl | (simp; done) | (simp [*]; done)), (by first | rfl | (simp; done) | (simp [*]; done)), H', ⟨Nat.le_refl _⟩, by repeat (first | exact Drawn0.refl _ | apply Drawn0.step)⟩
        case round =>
          clear H'
          try clear p2
          try clear c3
          try clear c4
          try clear c5
          try clear c6
          try clear c6b0
          try clear c6b1
          try clear p6
          try clear p2
          obtain ⟨x0_2, x7_2, rfl, rfl, HA, HK2, ⟨m2, rfl⟩⟩ := hrel
          cases gk with
          | zero => exact absurd HA.out (by simp [spec_idAdapted.l0])
          | succ k2 =>
            have H := HA.out
            clear HA
            simp only [spec_idAdapted.l0] at H
            by_cases c7 : x0_2 > 455
            · rw [if_pos c7] at H
              have c7b0 : decide (455 < x0_2) = true := decide_eq_true c7
              clear c7
              have H' := Aside0.mk H
              clear H
              go_wp2
              go_roundg k2
              case measure => have := HJ3.out; have := HK2.out; omega
              case rel => exact ⟨(wrap64 (Int.tdiv x0_2 35)), (wrap64 (x7_2 + 36)), (by first | rfl | (simp; done) | (simp [*]; done)), (by first | rfl | (simp; done) | (simp [*]; done)), H', ⟨by have := HJ3.out; have := HK2.out; omega⟩, by repeat (first | exact Drawn0.refl _ | apply Drawn0.step)⟩
            · rw [if_neg c7] at H
              have c7b0 : decide (455 < x0_2) = false := decide_eq_false c7
              clear c7
              by_cases c8 : (wrap64 (x0_2 + 38)) = 0
              · rw [if_pos c8] at H
                exact absurd H (by simp)
              · rw [if_neg c8] at H
                have c8b0 : ((wrap64 (x0_2 + 38)) == 0) = false := beq_eq_false_iff_ne.mpr c8
                have c8b1 : ((wrap64 (x0_2 + 38)) != 0) = true := bne_iff_ne.mpr c8
                obtain rfl := Option.some.inj H
                go_wp2
                go_ret
                exact ⟨by first | rfl | (simp; done) | (simp [*]; done), by repeat (first | exact Drawn0.refl _ | apply Drawn0.step)⟩

end Go.Proofs.YtkhbmkccbhkolaaGreatDoor.PFnUnicodeNames
