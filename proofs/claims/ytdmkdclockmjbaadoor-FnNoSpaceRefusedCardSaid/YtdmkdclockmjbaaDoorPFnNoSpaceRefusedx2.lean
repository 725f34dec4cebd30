/- Written by a program of this session (wip/tools/myprint.py) with the kit's print: contracts of the functions that one statement reaches; functions that are proved by hand are taken as printed. Conditions: none. -/
import Derived.Test.YtdmkdclockmjbaaDoorPFnNoSpaceRefusedx0
import Derived.Test.YtdmkdclockmjbaaDoorPFnNoSpaceRefusedx1
namespace Go.Proofs.YtdmkdclockmjbaaDoor.PFnNoSpaceRefused
open Go.RowKit Go.Proofs.YtdmkdclockmjbaaDoorW.PrintWords Go.Proofs.YtdmkdclockmjbaaDoorW.PrintLast Go.Proofs.YtdmkdclockmjbaaDoorW.PrintMore
attribute [local go_sem] max2_int min2_int max_two min_two max_three min_three max_four min_four   -- for this text's walks alone
set_option linter.unusedVariables false
set_option linter.unusedSimpArgs false

/-! ### laws_FnNoSpaceRefused: function 5 -/
def laws_FnNoSpaceRefused.j0 : Nat → Int → List Int → List Int → Bool → Option (Bool)
  | 0, _, _, _, _ => none
  | k + 1, x0, x1, x2, x14 => if x14 = true then (some true) else (if 0 ≤ (Int.tmod x0 11) then (if (Int.tmod x0 11) ≤ (((Int.tmod x0 11) + 1) % 256) then (if (((Int.tmod x0 11) + 1) % 256) ≤ 11 then (if 3 + ((⟨#[48, 49, 50, 51, 52, 53, 54, 55, 56, 57, 95]⟩ : ByteArray).extract ((Int.tmod x0 11) : Int).toNat ((((Int.tmod x0 11) + 1) % 256) : Int).toNat).size ≤ 9223372036854775807 then (if ((⟨#[95, 82, 78]⟩ : ByteArray) ++ ((⟨#[48, 49, 50, 51, 52, 53, 54, 55, 56, 57, 95]⟩ : ByteArray).extract ((Int.tmod x0 11) : Int).toNat ((((Int.tmod x0 11) + 1) % 256) : Int).toNat)).size + 1 ≤ 9223372036854775807 then (if 0 ≤ (mn (x1.length : Int) 1000) then (if (mn (x1.length : Int) 1000) ≤ (x1.length : Int) then ((spec_AnPlain.f k (x1.take ((mn (x1.length : Int) 1000) : Int).toNat)).bind fun t114 => ((spec_AnCounted.f t114 true).bind fun t115 => (if (((⟨#[95, 82, 78]⟩ : ByteArray) ++ ((⟨#[48, 49, 50, 51, 52, 53, 54, 55, 56, 57, 95]⟩ : ByteArray).extract ((Int.tmod x0 11) : Int).toNat ((((Int.tmod x0 11) + 1) % 256) : Int).toNat)) ++ (⟨#[67]⟩ : ByteArray)).size + t115.size ≤ 9223372036854775807 then (if 0 ≤ (mn (x2.length : Int) 1000) then (if (mn (x2.length : Int) 1000) ≤ (x2.length : Int) then ((spec_AnPlain.f k (x2.take ((mn (x2.length : Int) 1000) : Int).toNat)).bind fun t117 => ((spec_AnCounted.f t117 true).bind fun t118 => (if ((((⟨#[95, 82, 78]⟩ : ByteArray) ++ ((⟨#[48, 49, 50, 51, 52, 53, 54, 55, 56, 57, 95]⟩ : ByteArray).extract ((Int.tmod x0 11) : Int).toNat ((((Int.tmod x0 11) + 1) % 256) : Int).toNat)) ++ (⟨#[67]⟩ : ByteArray)) ++ t115).size + t118.size ≤ 9223372036854775807 then ((laws_idRefused.f (((((⟨#[95, 82, 78]⟩ : ByteArray) ++ ((⟨#[48, 49, 50, 51, 52, 53, 54, 55, 56, 57, 95]⟩ : ByteArray).extract ((Int.tmod x0 11) : Int).toNat ((((Int.tmod x0 11) + 1) % 256) : Int).toNat)) ++ (⟨#[67]⟩ : ByteArray)) ++ t115) ++ t118)).bind fun t119 => (some t119)) else (none)))) else (none)) else (none)) else (none)))) else (none)) else (none)) else (none)) else (none)) else (none)) else (none)) else (none))
def laws_FnNoSpaceRefused.f (k : Nat) (a0 : Int) (l1 : List Int) (l2 : List Int) : Option (Bool) := if (l1.length : Int) > 2147483647 then (laws_FnNoSpaceRefused.j0 k a0 l1 l2 true) else (laws_FnNoSpaceRefused.j0 k a0 l1 l2 (decide ((l2.length : Int) > 2147483647)))
theorem laws_FnNoSpaceRefused.mono_l : ∀ k, (∀ y0 y1 y2 y3, LeO (laws_FnNoSpaceRefused.j0 k y0 y1 y2 y3) (laws_FnNoSpaceRefused.j0 (k + 1) y0 y1 y2 y3))
  | 0 => fun _ _ _ _ r h => by simp [laws_FnNoSpaceRefused.j0] at h
  | k + 1 => by
    have ih0 := laws_FnNoSpaceRefused.mono_l k
    · intro y0 y1 y2 y3
      unfold laws_FnNoSpaceRefused.j0
      repeat' first
      | (with_reducible exact ih0 _ _ _ _)
      | (with_reducible exact spec_AnPlain.mono _ _)
      | (with_reducible exact LeO.refl _)
      | (with_reducible exact LeO.none _)
      | (with_reducible refine LeO.ite ?_ ?_)
      | (with_reducible refine LeO.bind ?_ (fun _ => ?_))
      | exact ih0 _ _ _ _
      | exact spec_AnPlain.mono _ _
      | exact LeO.none _
      | refine LeO.ite ?_ ?_
      | refine LeO.bind ?_ (fun _ => ?_)
theorem laws_FnNoSpaceRefused.mono : ∀ a0 a1 a2 k, LeO (laws_FnNoSpaceRefused.f k a0 a1 a2) (laws_FnNoSpaceRefused.f (k + 1) a0 a1 a2) := by
  intro a0 a1 a2 k
  have ih0 := laws_FnNoSpaceRefused.mono_l k
  unfold laws_FnNoSpaceRefused.f
  repeat' first
      | (with_reducible exact ih0 _ _ _ _)
      | (with_reducible exact spec_AnPlain.mono _ _)
      | (with_reducible exact LeO.refl _)
      | (with_reducible exact LeO.none _)
      | (with_reducible refine LeO.ite ?_ ?_)
      | (with_reducible refine LeO.bind ?_ (fun _ => ?_))
      | exact ih0 _ _ _ _
      | exact spec_AnPlain.mono _ _
      | exact LeO.none _
      | refine LeO.ite ?_ ?_
      | refine LeO.bind ?_ (fun _ => ?_)
def laws_FnNoSpaceRefused.T3 : Bool × List (List Nat × List Nat) := (true, [([], []), ([0], [0]), ([], []), ([2], [2]), ([3], [3]), ([1, 4], [1, 4]), ([5], [5]), ([6], [6]), ([], []), ([8], [8]), ([9, 9], [9]), ([10, 10], [10]), ([7, 11], [7, 11]), ([], []), ([13, 11], [13]), ([14, 14], [14]), ([15, 15], [15]), ([12, 16], [12, 16]), ([17, 16], [17]), ([18, 18, 0, 1, 2, 3, 4, 5, 6, 7, 8, 9, 10, 11, 12, 13, 14, 15, 16, 17, 18], [18])])
def laws_FnNoSpaceRefused.B3 : List Nat := [0, 1, 0, 4, 12, 31, 63, 127, 0, 256, 768, 1792, 4095, 0, 12032, 28416, 61184, 131071, 262143, 524287]
theorem laws_FnNoSpaceRefused.tab3 : rtab .any (opsOf Tryd.f5 3) = laws_FnNoSpaceRefused.T3 := by kernel_rfl
theorem laws_FnNoSpaceRefused.bits3 : waitsOk laws_FnNoSpaceRefused.T3.2 laws_FnNoSpaceRefused.B3 = true := by kernel_rfl
set_option maxHeartbeats 8000000 in
set_option maxRecDepth 100000 in
theorem laws_FnNoSpaceRefused.calls (k : Nat) (a0 : Int) (A1 : Option Addr) (c1 : Nat) (l1 : List Int) (A2 : Option Addr) (c2 : Nat) (l2 : List Int) (r : Bool) (w : World) (hr1 : Kd.C (Kd.int .u8) w A1 l1.length l1) (hc1 : l1.length ≤ c1) (hr2 : Kd.C (Kd.int .u8) w A2 l2.length l2) (hc2 : l2.length ≤ c2) (hT_ : DoorIs w) (h : laws_FnNoSpaceRefused.f k a0 l1 l2 = some r) :
    Calls Tryd.prog 5 #[.int .u8 a0, .slice A1 l1.length c1, .slice A2 l2.length c2] w fun e w' => e = .returned (.bool r) ∧ Below w.heap.size w w' := by
  have HR1 := Aside0.mk hr1
  have HC1 := Aside0.mk hc1
  clear hr1 hc1
  have HR2 := Aside0.mk hr2
  have HC2 := Aside0.mk hc2
  clear hr2 hc2
  have HB := Aside0.mk (Below.refl w.heap.size w)
  have H : (if (l1.length : Int) > 2147483647 then (laws_FnNoSpaceRefused.j0 k a0 l1 l2 true) else (laws_FnNoSpaceRefused.j0 k a0 l1 l2 (decide ((l2.length : Int) > 2147483647)))) = some r := h
  clear h
  have HC4 := Aside0.mk H
  clear H
  go_enter Tryd.func5, Tryd.ntmps5
  go_upto_region 1 with (fail)
  go_cut [14] (fun v14 wc => ∃ (kq : Nat) (x14_3 : Bool), v14 = .bool x14_3 ∧ Aside0 (laws_FnNoSpaceRefused.j0 kq a0 l1 l2 x14_3 = some r) ∧ Aside0 (kq ≤ k) ∧ Aside0 (Below w.heap.size w wc))
  case first =>
    have H := HC4.out
    clear HC4
    by_cases c5 : (l1.length : Int) > 2147483647
    · rw [if_pos c5] at H
      have c5b0 : decide (2147483647 < (l1.length : Int)) = true := decide_eq_true c5
      have c5b1 : decide (2147483647 < l1.length) = true := decide_eq_true (by omega)
      clear c5
      (first | rw [c5b0] | (simp only [i64_w, i32_w]; rw [c5b0]) | rw [c5b1] | skip)
      have H' := Aside0.mk H
      clear H
      go_wp2
      go_meet
      case rel => exact ⟨_, (true), (by first | rfl | (simp; done) | (simp [*]; done)), H', ⟨by first | omega | exact Nat.le_refl _⟩, ⟨by repeat (first | (with_reducible first | exact HB.out | apply below_alloc | apply pw_below_drewN | apply below_drew1) | exact HB.out)⟩⟩
    · rw [if_neg c5] at H
      have c5b0 : decide (2147483647 < (l1.length : Int)) = false := decide_eq_false c5
      have c5b1 : decide (2147483647 < l1.length) = false := decide_eq_false (by omega)
      clear c5
      (first | rw [c5b0] | (simp only [i64_w, i32_w]; rw [c5b0]) | rw [c5b1] | skip)
      have H' := Aside0.mk H
      clear H
      go_wp2
      go_meet
      case rel => exact ⟨_, (decide ((l2.length : Int) > 2147483647)), (by first | rfl | (simp; done) | (simp [*]; done)), H', ⟨by first | omega | exact Nat.le_refl _⟩, ⟨by repeat (first | (with_reducible first | exact HB.out | apply below_alloc | apply pw_below_drewN | apply below_drew1) | exact HB.out)⟩⟩
  case rest =>
    clear HC4
    try clear c1
    try clear c2
    try clear p2
    try clear c5
    try clear c5b0
    try clear c5b1
    obtain ⟨kq, x14_3, rfl, HA, HJ3, HB⟩ := hcut
    cases kq with
    | zero => exact absurd HA.out (by simp [laws_FnNoSpaceRefused.j0])
    | succ kj3 =>
      have H := HA.out
      clear HA
      simp only [laws_FnNoSpaceRefused.j0] at H
      by_cases c6 : x14_3 = true
      · subst c6
        have H1 : (some true) = some r := by rw [if_pos rfl] at H; exact H
        clear H
        have H := H1
        clear H1
        obtain rfl := Option.some.inj H
        go_wp2
        go_ret
        exact ⟨by first | rfl | (simp [errW_none, errW_some] <;> rfl) | (simp [*, errW_none, errW_some] <;> rfl), by repeat (first | (with_reducible first | exact HB.out | apply below_alloc | apply pw_below_drewN | apply below_drew1) | exact HB.out)⟩
      · replace c6 := Bool.eq_false_iff.mpr c6
        subst c6
        have H1 : (if 0 ≤ (Int.tmod a0 11) then (if (Int.tmod a0 11) ≤ (((Int.tmod a0 11) + 1) % 256) then (if (((Int.tmod a0 11) + 1) % 256) ≤ 11 then (if 3 + ((⟨#[48, 49, 50, 51, 52, 53, 54, 55, 56, 57, 95]⟩ : ByteArray).extract ((Int.tmod a0 11) : Int).toNat ((((Int.tmod a0 11) + 1) % 256) : Int).toNat).size ≤ 9223372036854775807 then (if ((⟨#[95, 82, 78]⟩ : ByteArray) ++ ((⟨#[48, 49, 50, 51, 52, 53, 54, 55, 56, 57, 95]⟩ : ByteArray).extract ((Int.tmod a0 11) : Int).toNat ((((Int.tmod a0 11) + 1) % 256) : Int).toNat)).size + 1 ≤ 9223372036854775807 then (if 0 ≤ (mn (l1.length : Int) 1000) then (if (mn (l1.length : Int) 1000) ≤ (l1.length : Int) then ((spec_AnPlain.f kj3 (l1.take ((mn (l1.length : Int) 1000) : Int).toNat)).bind fun t114 => ((spec_AnCounted.f t114 true).bind fun t115 => (if (((⟨#[95, 82, 78]⟩ : ByteArray) ++ ((⟨#[48, 49, 50, 51, 52, 53, 54, 55, 56, 57, 95]⟩ : ByteArray).extract ((Int.tmod a0 11) : Int).toNat ((((Int.tmod a0 11) + 1) % 256) : Int).toNat)) ++ (⟨#[67]⟩ : ByteArray)).size + t115.size ≤ 9223372036854775807 then (if 0 ≤ (mn (l2.length : Int) 1000) then (if (mn (l2.length : Int) 1000) ≤ (l2.length : Int) then ((spec_AnPlain.f kj3 (l2.take ((mn (l2.length : Int) 1000) : Int).toNat)).bind fun t117 => ((spec_AnCounted.f t117 true).bind fun t118 => (if ((((⟨#[95, 82, 78]⟩ : ByteArray) ++ ((⟨#[48, 49, 50, 51, 52, 53, 54, 55, 56, 57, 95]⟩ : ByteArray).extract ((Int.tmod a0 11) : Int).toNat ((((Int.tmod a0 11) + 1) % 256) : Int).toNat)) ++ (⟨#[67]⟩ : ByteArray)) ++ t115).size + t118.size ≤ 9223372036854775807 then ((laws_idRefused.f (((((⟨#[95, 82, 78]⟩ : ByteArray) ++ ((⟨#[48, 49, 50, 51, 52, 53, 54, 55, 56, 57, 95]⟩ : ByteArray).extract ((Int.tmod a0 11) : Int).toNat ((((Int.tmod a0 11) + 1) % 256) : Int).toNat)) ++ (⟨#[67]⟩ : ByteArray)) ++ t115) ++ t118)).bind fun t119 => (some t119)) else (none)))) else (none)) else (none)) else (none)))) else (none)) else (none)) else (none)) else (none)) else (none)) else (none)) else (none)) = some r := by rw [if_neg (show ¬ (false = true) by decide)] at H; exact H
        clear H
        have H := H1
        clear H1
        obtain ⟨ji7, hji7⟩ : ∃ j_ : Int, (Int.tmod a0 11) = j_ := ⟨_, rfl⟩
        replace H : (if 0 ≤ (ji7) then (if (ji7) ≤ (((ji7) + 1) % 256) then (if (((ji7) + 1) % 256) ≤ 11 then (if 3 + ((⟨#[48, 49, 50, 51, 52, 53, 54, 55, 56, 57, 95]⟩ : ByteArray).extract ((ji7) : Int).toNat ((((ji7) + 1) % 256) : Int).toNat).size ≤ 9223372036854775807 then (if ((⟨#[95, 82, 78]⟩ : ByteArray) ++ ((⟨#[48, 49, 50, 51, 52, 53, 54, 55, 56, 57, 95]⟩ : ByteArray).extract ((ji7) : Int).toNat ((((ji7) + 1) % 256) : Int).toNat)).size + 1 ≤ 9223372036854775807 then (if 0 ≤ (mn (l1.length : Int) 1000) then (if (mn (l1.length : Int) 1000) ≤ (l1.length : Int) then ((spec_AnPlain.f kj3 (l1.take ((mn (l1.length : Int) 1000) : Int).toNat)).bind fun t114 => ((spec_AnCounted.f t114 true).bind fun t115 => (if (((⟨#[95, 82, 78]⟩ : ByteArray) ++ ((⟨#[48, 49, 50, 51, 52, 53, 54, 55, 56, 57, 95]⟩ : ByteArray).extract ((ji7) : Int).toNat ((((ji7) + 1) % 256) : Int).toNat)) ++ (⟨#[67]⟩ : ByteArray)).size + t115.size ≤ 9223372036854775807 then (if 0 ≤ (mn (l2.length : Int) 1000) then (if (mn (l2.length : Int) 1000) ≤ (l2.length : Int) then ((spec_AnPlain.f kj3 (l2.take ((mn (l2.length : Int) 1000) : Int).toNat)).bind fun t117 => ((spec_AnCounted.f t117 true).bind fun t118 => (if ((((⟨#[95, 82, 78]⟩ : ByteArray) ++ ((⟨#[48, 49, 50, 51, 52, 53, 54, 55, 56, 57, 95]⟩ : ByteArray).extract ((ji7) : Int).toNat ((((ji7) + 1) % 256) : Int).toNat)) ++ (⟨#[67]⟩ : ByteArray)) ++ t115).size + t118.size ≤ 9223372036854775807 then ((laws_idRefused.f (((((⟨#[95, 82, 78]⟩ : ByteArray) ++ ((⟨#[48, 49, 50, 51, 52, 53, 54, 55, 56, 57, 95]⟩ : ByteArray).extract ((ji7) : Int).toNat ((((ji7) + 1) % 256) : Int).toNat)) ++ (⟨#[67]⟩ : ByteArray)) ++ t115) ++ t118)).bind fun t119 => (some t119)) else (none)))) else (none)) else (none)) else (none)))) else (none)) else (none)) else (none)) else (none)) else (none)) else (none)) else (none)) = some r := by first | (rw [hji7] at H; exact H) | (simp only [hji7] at H ⊢; exact H)
        by_cases c8 : 0 ≤ (ji7)
        rotate_left
        · rw [if_neg c8] at H
          exact absurd H (by simp)

        rw [if_pos c8] at H
        have c8b0 := eq_true c8
        have c8b1 : decide (0 ≤ (ji7)) = true := decide_eq_true c8
        clear c8
        by_cases c9 : (ji7) ≤ (((ji7) + 1) % 256)
        rotate_left
        · rw [if_neg c9] at H
          exact absurd H (by simp)
        rw [if_pos c9] at H
        have c9b0 := eq_true c9
        have c9b1 : decide ((ji7) ≤ (((ji7) + 1) % 256)) = true := decide_eq_true c9
        by_cases c10 : (((ji7) + 1) % 256) ≤ 11
        rotate_left
        · rw [if_neg c10] at H
          exact absurd H (by simp)
        rw [if_pos c10] at H
        have c10b0 := eq_true c10
        have c10b1 : decide ((((ji7) + 1) % 256) ≤ 11) = true := decide_eq_true c10
        by_cases c11 : 3 + ((⟨#[48, 49, 50, 51, 52, 53, 54, 55, 56, 57, 95]⟩ : ByteArray).extract ((ji7) : Int).toNat ((((ji7) + 1) % 256) : Int).toNat).size ≤ 9223372036854775807
        rotate_left
        · rw [if_neg c11] at H
          exact absurd H (by simp)
        rw [if_pos c11] at H
        have c11b0 := eq_true c11
        have c11b1 : decide (3 + ((⟨#[48, 49, 50, 51, 52, 53, 54, 55, 56, 57, 95]⟩ : ByteArray).extract ((ji7) : Int).toNat ((((ji7) + 1) % 256) : Int).toNat).size ≤ 9223372036854775807) = true := decide_eq_true c11
        try have c11b2 : (9223372036854775807 < 3 + ((⟨#[48, 49, 50, 51, 52, 53, 54, 55, 56, 57, 95]⟩ : ByteArray).extract ((ji7) : Int).toNat ((((ji7) + 1) % 256) : Int).toNat).size) = False := eq_false (Nat.not_lt.2 c11)
        try (have c11q := c11; rw [ByteArray.size_extract, Nat.min_eq_left (by show _ ≤ Array.size _; simp only [List.size_toArray, List.length_cons, List.length_nil]; omega)] at c11q; have c11b3 := eq_false (Nat.not_lt.2 c11q); clear c11q)
        by_cases c12 : ((⟨#[95, 82, 78]⟩ : ByteArray) ++ ((⟨#[48, 49, 50, 51, 52, 53, 54, 55, 56, 57, 95]⟩ : ByteArray).extract ((ji7) : Int).toNat ((((ji7) + 1) % 256) : Int).toNat)).size + 1 ≤ 9223372036854775807
        rotate_left
        · rw [if_neg c12] at H
          exact absurd H (by simp)
        rw [if_pos c12] at H
        have c12b0 := eq_true c12
        have c12b1 : decide (((⟨#[95, 82, 78]⟩ : ByteArray) ++ ((⟨#[48, 49, 50, 51, 52, 53, 54, 55, 56, 57, 95]⟩ : ByteArray).extract ((ji7) : Int).toNat ((((ji7) + 1) % 256) : Int).toNat)).size + 1 ≤ 9223372036854775807) = true := decide_eq_true c12
        try have c12b2 : (9223372036854775807 < ((⟨#[95, 82, 78]⟩ : ByteArray) ++ ((⟨#[48, 49, 50, 51, 52, 53, 54, 55, 56, 57, 95]⟩ : ByteArray).extract ((ji7) : Int).toNat ((((ji7) + 1) % 256) : Int).toNat)).size + 1) = False := eq_false (Nat.not_lt.2 c12)
        try have c12b4 : (9223372036854775807 < 3 + (((⟨#[48, 49, 50, 51, 52, 53, 54, 55, 56, 57, 95]⟩ : ByteArray).extract ((ji7) : Int).toNat ((((ji7) + 1) % 256) : Int).toNat).size) + 1) = False := eq_false (by have h_ := c12; (repeat rw [ByteArray.size_append] at h_); exact Nat.not_lt.2 h_)
        try have c12b6 : (9223372036854775807 < 3 + (((((ji7) + 1) % 256) : Int).toNat - ((ji7) : Int).toNat) + 1) = False := eq_false (by have h_ := c12; (repeat rw [ByteArray.size_append] at h_); rw [ByteArray.size_extract, Nat.min_eq_left (by show _ ≤ Array.size _; simp only [List.size_toArray, List.length_cons, List.length_nil]; omega)] at h_; exact Nat.not_lt.2 h_)
        try (have c12q := c12; rw [ByteArray.size_extract, Nat.min_eq_left (by show _ ≤ Array.size _; simp only [List.size_toArray, List.length_cons, List.length_nil]; omega)] at c12q; have c12b3 := eq_false (Nat.not_lt.2 c12q); clear c12q)
        obtain ⟨ji13, hji13⟩ : ∃ j_ : Int, (mn (l1.length : Int) 1000) = j_ := ⟨_, rfl⟩
        replace H : (if 0 ≤ (ji13) then (if (ji13) ≤ (l1.length : Int) then ((spec_AnPlain.f kj3 (l1.take ((ji13) : Int).toNat)).bind fun t114 => ((spec_AnCounted.f t114 true).bind fun t115 => (if (((⟨#[95, 82, 78]⟩ : ByteArray) ++ ((⟨#[48, 49, 50, 51, 52, 53, 54, 55, 56, 57, 95]⟩ : ByteArray).extract ((ji7) : Int).toNat ((((ji7) + 1) % 256) : Int).toNat)) ++ (⟨#[67]⟩ : ByteArray)).size + t115.size ≤ 9223372036854775807 then (if 0 ≤ (mn (l2.length : Int) 1000) then (if (mn (l2.length : Int) 1000) ≤ (l2.length : Int) then ((spec_AnPlain.f kj3 (l2.take ((mn (l2.length : Int) 1000) : Int).toNat)).bind fun t117 => ((spec_AnCounted.f t117 true).bind fun t118 => (if ((((⟨#[95, 82, 78]⟩ : ByteArray) ++ ((⟨#[48, 49, 50, 51, 52, 53, 54, 55, 56, 57, 95]⟩ : ByteArray).extract ((ji7) : Int).toNat ((((ji7) + 1) % 256) : Int).toNat)) ++ (⟨#[67]⟩ : ByteArray)) ++ t115).size + t118.size ≤ 9223372036854775807 then ((laws_idRefused.f (((((⟨#[95, 82, 78]⟩ : ByteArray) ++ ((⟨#[48, 49, 50, 51, 52, 53, 54, 55, 56, 57, 95]⟩ : ByteArray).extract ((ji7) : Int).toNat ((((ji7) + 1) % 256) : Int).toNat)) ++ (⟨#[67]⟩ : ByteArray)) ++ t115) ++ t118)).bind fun t119 => (some t119)) else (none)))) else (none)) else (none)) else (none)))) else (none)) else (none)) = some r := by first | (rw [hji13] at H; exact H) | (simp only [hji13] at H ⊢; exact H)
        have hji13_ : (if 1000 < (l1.length : Int) then 1000 else (l1.length : Int)) = ji13 := hji13
        by_cases c14 : 0 ≤ (ji13)
        rotate_left
        · rw [if_neg c14] at H
          exact absurd H (by simp)
        rw [if_pos c14] at H
        have c14b0 := eq_true c14
        have c14b1 : decide (0 ≤ (ji13)) = true := decide_eq_true c14
        clear c14
        by_cases c15 : (ji13) ≤ (l1.length : Int)
        rotate_left
        · rw [if_neg c15] at H
          exact absurd H (by simp)
        rw [if_pos c15] at H
        have c15b0 := eq_true c15
        have c15b1 : decide ((ji13) ≤ (l1.length : Int)) = true := decide_eq_true c15
        clear c15
        replace H := Option.bind_eq_some_iff.mp H
        obtain ⟨t114, A160, H⟩ := H
        replace H : ((spec_AnCounted.f t114 true).bind fun t115 => (if (((⟨#[95, 82, 78]⟩ : ByteArray) ++ ((⟨#[48, 49, 50, 51, 52, 53, 54, 55, 56, 57, 95]⟩ : ByteArray).extract ((ji7) : Int).toNat ((((ji7) + 1) % 256) : Int).toNat)) ++ (⟨#[67]⟩ : ByteArray)).size + t115.size ≤ 9223372036854775807 then (if 0 ≤ (mn (l2.length : Int) 1000) then (if (mn (l2.length : Int) 1000) ≤ (l2.length : Int) then ((spec_AnPlain.f kj3 (l2.take ((mn (l2.length : Int) 1000) : Int).toNat)).bind fun t117 => ((spec_AnCounted.f t117 true).bind fun t118 => (if ((((⟨#[95, 82, 78]⟩ : ByteArray) ++ ((⟨#[48, 49, 50, 51, 52, 53, 54, 55, 56, 57, 95]⟩ : ByteArray).extract ((ji7) : Int).toNat ((((ji7) + 1) % 256) : Int).toNat)) ++ (⟨#[67]⟩ : ByteArray)) ++ t115).size + t118.size ≤ 9223372036854775807 then ((laws_idRefused.f (((((⟨#[95, 82, 78]⟩ : ByteArray) ++ ((⟨#[48, 49, 50, 51, 52, 53, 54, 55, 56, 57, 95]⟩ : ByteArray).extract ((ji7) : Int).toNat ((((ji7) + 1) % 256) : Int).toNat)) ++ (⟨#[67]⟩ : ByteArray)) ++ t115) ++ t118)).bind fun t119 => (some t119)) else (none)))) else (none)) else (none)) else (none))) = some r := H
        have A16 := Aside0.mk A160
        clear A160
        replace H := Option.bind_eq_some_iff.mp H
        obtain ⟨t115, A170, H⟩ := H
        replace H : (if (((⟨#[95, 82, 78]⟩ : ByteArray) ++ ((⟨#[48, 49, 50, 51, 52, 53, 54, 55, 56, 57, 95]⟩ : ByteArray).extract ((ji7) : Int).toNat ((((ji7) + 1) % 256) : Int).toNat)) ++ (⟨#[67]⟩ : ByteArray)).size + t115.size ≤ 9223372036854775807 then (if 0 ≤ (mn (l2.length : Int) 1000) then (if (mn (l2.length : Int) 1000) ≤ (l2.length : Int) then ((spec_AnPlain.f kj3 (l2.take ((mn (l2.length : Int) 1000) : Int).toNat)).bind fun t117 => ((spec_AnCounted.f t117 true).bind fun t118 => (if ((((⟨#[95, 82, 78]⟩ : ByteArray) ++ ((⟨#[48, 49, 50, 51, 52, 53, 54, 55, 56, 57, 95]⟩ : ByteArray).extract ((ji7) : Int).toNat ((((ji7) + 1) % 256) : Int).toNat)) ++ (⟨#[67]⟩ : ByteArray)) ++ t115).size + t118.size ≤ 9223372036854775807 then ((laws_idRefused.f (((((⟨#[95, 82, 78]⟩ : ByteArray) ++ ((⟨#[48, 49, 50, 51, 52, 53, 54, 55, 56, 57, 95]⟩ : ByteArray).extract ((ji7) : Int).toNat ((((ji7) + 1) % 256) : Int).toNat)) ++ (⟨#[67]⟩ : ByteArray)) ++ t115) ++ t118)).bind fun t119 => (some t119)) else (none)))) else (none)) else (none)) else (none)) = some r := H
        have A17 := Aside0.mk A170
        clear A170
        by_cases c18 : (((⟨#[95, 82, 78]⟩ : ByteArray) ++ ((⟨#[48, 49, 50, 51, 52, 53, 54, 55, 56, 57, 95]⟩ : ByteArray).extract ((ji7) : Int).toNat ((((ji7) + 1) % 256) : Int).toNat)) ++ (⟨#[67]⟩ : ByteArray)).size + t115.size ≤ 9223372036854775807
        rotate_left
        · rw [if_neg c18] at H
          exact absurd H (by simp)
        rw [if_pos c18] at H
        have c18b0 := eq_true c18
        have c18b1 : decide ((((⟨#[95, 82, 78]⟩ : ByteArray) ++ ((⟨#[48, 49, 50, 51, 52, 53, 54, 55, 56, 57, 95]⟩ : ByteArray).extract ((ji7) : Int).toNat ((((ji7) + 1) % 256) : Int).toNat)) ++ (⟨#[67]⟩ : ByteArray)).size + t115.size ≤ 9223372036854775807) = true := decide_eq_true c18
        try have c18b2 : (9223372036854775807 < (((⟨#[95, 82, 78]⟩ : ByteArray) ++ ((⟨#[48, 49, 50, 51, 52, 53, 54, 55, 56, 57, 95]⟩ : ByteArray).extract ((ji7) : Int).toNat ((((ji7) + 1) % 256) : Int).toNat)) ++ (⟨#[67]⟩ : ByteArray)).size + t115.size) = False := eq_false (Nat.not_lt.2 c18)
        try have c18b4 : (9223372036854775807 < 3 + (((⟨#[48, 49, 50, 51, 52, 53, 54, 55, 56, 57, 95]⟩ : ByteArray).extract ((ji7) : Int).toNat ((((ji7) + 1) % 256) : Int).toNat).size) + 1 + t115.size) = False := eq_false (by have h_ := c18; (repeat rw [ByteArray.size_append] at h_); exact Nat.not_lt.2 h_)
        try have c18b6 : (9223372036854775807 < 3 + (((((ji7) + 1) % 256) : Int).toNat - ((ji7) : Int).toNat) + 1 + t115.size) = False := eq_false (by have h_ := c18; (repeat rw [ByteArray.size_append] at h_); rw [ByteArray.size_extract, Nat.min_eq_left (by show _ ≤ Array.size _; simp only [List.size_toArray, List.length_cons, List.length_nil]; omega)] at h_; exact Nat.not_lt.2 h_)
        try (have c18q := c18; rw [ByteArray.size_extract, Nat.min_eq_left (by show _ ≤ Array.size _; simp only [List.size_toArray, List.length_cons, List.length_nil]; omega)] at c18q; have c18b3 := eq_false (Nat.not_lt.2 c18q); clear c18q)
        obtain ⟨ji19, hji19⟩ : ∃ j_ : Int, (mn (l2.length : Int) 1000) = j_ := ⟨_, rfl⟩
        replace H : (if 0 ≤ (ji19) then (if (ji19) ≤ (l2.length : Int) then ((spec_AnPlain.f kj3 (l2.take ((ji19) : Int).toNat)).bind fun t117 => ((spec_AnCounted.f t117 true).bind fun t118 => (if ((((⟨#[95, 82, 78]⟩ : ByteArray) ++ ((⟨#[48, 49, 50, 51, 52, 53, 54, 55, 56, 57, 95]⟩ : ByteArray).extract ((ji7) : Int).toNat ((((ji7) + 1) % 256) : Int).toNat)) ++ (⟨#[67]⟩ : ByteArray)) ++ t115).size + t118.size ≤ 9223372036854775807 then ((laws_idRefused.f (((((⟨#[95, 82, 78]⟩ : ByteArray) ++ ((⟨#[48, 49, 50, 51, 52, 53, 54, 55, 56, 57, 95]⟩ : ByteArray).extract ((ji7) : Int).toNat ((((ji7) + 1) % 256) : Int).toNat)) ++ (⟨#[67]⟩ : ByteArray)) ++ t115) ++ t118)).bind fun t119 => (some t119)) else (none)))) else (none)) else (none)) = some r := by first | (rw [hji19] at H; exact H) | (simp only [hji19] at H ⊢; exact H)
        (try rw [hji19] at A16)
        (try rw [hji19] at A17)
        have hji19_ : (if 1000 < (l2.length : Int) then 1000 else (l2.length : Int)) = ji19 := hji19
        by_cases c20 : 0 ≤ (ji19)
        rotate_left
        · rw [if_neg c20] at H
          exact absurd H (by simp)
        rw [if_pos c20] at H
        have c20b0 := eq_true c20
        have c20b1 : decide (0 ≤ (ji19)) = true := decide_eq_true c20
        clear c20
        by_cases c21 : (ji19) ≤ (l2.length : Int)
        rotate_left
        · rw [if_neg c21] at H
          exact absurd H (by simp)
        rw [if_pos c21] at H
        have c21b0 := eq_true c21
        have c21b1 : decide ((ji19) ≤ (l2.length : Int)) = true := decide_eq_true c21
        clear c21
        replace H := Option.bind_eq_some_iff.mp H
        obtain ⟨t117, A220, H⟩ := H
        replace H : ((spec_AnCounted.f t117 true).bind fun t118 => (if ((((⟨#[95, 82, 78]⟩ : ByteArray) ++ ((⟨#[48, 49, 50, 51, 52, 53, 54, 55, 56, 57, 95]⟩ : ByteArray).extract ((ji7) : Int).toNat ((((ji7) + 1) % 256) : Int).toNat)) ++ (⟨#[67]⟩ : ByteArray)) ++ t115).size + t118.size ≤ 9223372036854775807 then ((laws_idRefused.f (((((⟨#[95, 82, 78]⟩ : ByteArray) ++ ((⟨#[48, 49, 50, 51, 52, 53, 54, 55, 56, 57, 95]⟩ : ByteArray).extract ((ji7) : Int).toNat ((((ji7) + 1) % 256) : Int).toNat)) ++ (⟨#[67]⟩ : ByteArray)) ++ t115) ++ t118)).bind fun t119 => (some t119)) else (none))) = some r := H
        have A22 := Aside0.mk A220
        clear A220
        replace H := Option.bind_eq_some_iff.mp H
        obtain ⟨t118, A230, H⟩ := H
        replace H : (if ((((⟨#[95, 82, 78]⟩ : ByteArray) ++ ((⟨#[48, 49, 50, 51, 52, 53, 54, 55, 56, 57, 95]⟩ : ByteArray).extract ((ji7) : Int).toNat ((((ji7) + 1) % 256) : Int).toNat)) ++ (⟨#[67]⟩ : ByteArray)) ++ t115).size + t118.size ≤ 9223372036854775807 then ((laws_idRefused.f (((((⟨#[95, 82, 78]⟩ : ByteArray) ++ ((⟨#[48, 49, 50, 51, 52, 53, 54, 55, 56, 57, 95]⟩ : ByteArray).extract ((ji7) : Int).toNat ((((ji7) + 1) % 256) : Int).toNat)) ++ (⟨#[67]⟩ : ByteArray)) ++ t115) ++ t118)).bind fun t119 => (some t119)) else (none)) = some r := H
        have A23 := Aside0.mk A230
        clear A230
        by_cases c24 : ((((⟨#[95, 82, 78]⟩ : ByteArray) ++ ((⟨#[48, 49, 50, 51, 52, 53, 54, 55, 56, 57, 95]⟩ : ByteArray).extract ((ji7) : Int).toNat ((((ji7) + 1) % 256) : Int).toNat)) ++ (⟨#[67]⟩ : ByteArray)) ++ t115).size + t118.size ≤ 9223372036854775807
        rotate_left
        · rw [if_neg c24] at H
          exact absurd H (by simp)
        rw [if_pos c24] at H
        have c24b0 := eq_true c24
        have c24b1 : decide (((((⟨#[95, 82, 78]⟩ : ByteArray) ++ ((⟨#[48, 49, 50, 51, 52, 53, 54, 55, 56, 57, 95]⟩ : ByteArray).extract ((ji7) : Int).toNat ((((ji7) + 1) % 256) : Int).toNat)) ++ (⟨#[67]⟩ : ByteArray)) ++ t115).size + t118.size ≤ 9223372036854775807) = true := decide_eq_true c24
        try have c24b2 : (9223372036854775807 < ((((⟨#[95, 82, 78]⟩ : ByteArray) ++ ((⟨#[48, 49, 50, 51, 52, 53, 54, 55, 56, 57, 95]⟩ : ByteArray).extract ((ji7) : Int).toNat ((((ji7) + 1) % 256) : Int).toNat)) ++ (⟨#[67]⟩ : ByteArray)) ++ t115).size + t118.size) = False := eq_false (Nat.not_lt.2 c24)
        try have c24b4 : (9223372036854775807 < 3 + (((⟨#[48, 49, 50, 51, 52, 53, 54, 55, 56, 57, 95]⟩ : ByteArray).extract ((ji7) : Int).toNat ((((ji7) + 1) % 256) : Int).toNat).size) + 1 + t115.size + t118.size) = False := eq_false (by have h_ := c24; (repeat rw [ByteArray.size_append] at h_); exact Nat.not_lt.2 h_)
        try have c24b6 : (9223372036854775807 < 3 + (((((ji7) + 1) % 256) : Int).toNat - ((ji7) : Int).toNat) + 1 + t115.size + t118.size) = False := eq_false (by have h_ := c24; (repeat rw [ByteArray.size_append] at h_); rw [ByteArray.size_extract, Nat.min_eq_left (by show _ ≤ Array.size _; simp only [List.size_toArray, List.length_cons, List.length_nil]; omega)] at h_; exact Nat.not_lt.2 h_)
        try (have c24q := c24; rw [ByteArray.size_extract, Nat.min_eq_left (by show _ ≤ Array.size _; simp only [List.size_toArray, List.length_cons, List.length_nil]; omega)] at c24q; have c24b3 := eq_false (Nat.not_lt.2 c24q); clear c24q)
        replace H := Option.bind_eq_some_iff.mp H
        obtain ⟨t119, A250, H⟩ := H
        replace H : (some t119) = some r := H
        have A25 := Aside0.mk A250
        clear A250
        obtain rfl := Option.some.inj H
        try go_wp2
        have n0_ := Aside0.mk (below_drew1 HB.out)
        clear HB
        have HB := n0_
        clear n0_
        obtain ⟨i027, hi027, _, hsz27, _⟩ := info_parts info5
        obtain ⟨hcut27, hA27, hC27⟩ := print_take_of (P := Tryd.prog) (Value.int .u8) 0 24 5 .i64 Tryd.underlying24 hi027 hsz27 A1 c1 l1 (ji13) (of_decide_eq_true (by first | (with_reducible assumption) | assumption)) (of_decide_eq_true (by first | (with_reducible assumption) | assumption)) HC1.out
        have HR113 := Aside0.mk (Kd.C_of_reads (h1 := fun _ => rfl) (hA27 _ (Kd.reads_of_C HR1.out)))
        have HC113 := Aside0.mk hC27
        clear hA27 hC27 hi027 hsz27
        obtain ⟨i028, hi028, _, hsz28, _⟩ := info_parts info5
        obtain ⟨hcut28, hA28, hC28⟩ := print_take_of (P := Tryd.prog) (Value.int .u8) 0 24 5 .i64 Tryd.underlying24 hi028 hsz28 A2 c2 l2 (ji19) (of_decide_eq_true (by first | (with_reducible assumption) | assumption)) (of_decide_eq_true (by first | (with_reducible assumption) | assumption)) HC2.out
        have HR116 := Aside0.mk (Kd.C_of_reads (h1 := fun _ => rfl) (hA28 _ (Kd.reads_of_C HR2.out)))
        have HC116 := Aside0.mk hC28
        clear hA28 hC28 hi028 hsz28
        have hwr7 : IntKind.u8.wrap ((ji7) + 1) = ((ji7) + 1) % 256 := by rfl
        refine start_ (n := 20) (S := fun w' => True) (ds := []) #[false, false, false, false, false, false, false, false, false, false, false, false, false, false, false, false, false, false, false, false] (by kernel_rfl) rfl rfl trivial (fun hHeld => ?_); refine with_tabW laws_FnNoSpaceRefused.tab3 laws_FnNoSpaceRefused.bits3 (fun HT_ HW_ => ?_)
        generalize wc.drew = w26 at HB HR113 HR116 hHeld ⊢
        refine pure_ (i := 0) (N := some 15) (v := ?_) (a' := ?_) #[true, false, false, false, false, false, false, false, false, false, false, false, false, false, false, false, false, false, false, false] rfl rfl (any_of HT_.out (by kernel_rfl)) (fun _ _ _ h => h) (Or.inl ⟨by rfl, ?_⟩) ?_ ?_
        rotate_left
        · intro w'
          go_simp
          with_reducible rfl
        rotate_left
        · simp only [Act.put, List.setIfInBounds_toArray, List.set_cons_zero, List.set_cons_succ, i64_w, i32_w]
          rfl
        refine pure_ (i := 1) (N := some 16) (v := ?_) (a' := ?_) #[true, true, false, false, false, false, false, false, false, false, false, false, false, false, false, false, false, false, false, false] rfl rfl (any_of HT_.out (by kernel_rfl)) (fun _ _ _ h => h) (Or.inl ⟨by rfl, ?_⟩) ?_ ?_
        rotate_left
        · intro w'
          go_simp
          with_reducible rfl
        rotate_left
        · simp only [Act.put, List.setIfInBounds_toArray, List.set_cons_zero, List.set_cons_succ, i64_w, i32_w]
          rfl
        refine pure_ (i := 2) (N := some 17) (v := ?_) (a' := ?_) #[true, true, true, false, false, false, false, false, false, false, false, false, false, false, false, false, false, false, false, false] rfl rfl (any_of HT_.out (by kernel_rfl)) (fun _ _ _ h => h) (Or.inl ⟨by rfl, ?_⟩) ?_ ?_
        rotate_left
        · intro w'
          go_simp
          with_reducible rfl
        rotate_left
        · simp only [Act.put, List.setIfInBounds_toArray, List.set_cons_zero, List.set_cons_succ, i64_w, i32_w]
          rfl
        refine pure_ (i := 3) (N := some 18) (v := ?_) (a' := ?_) #[true, true, true, true, false, false, false, false, false, false, false, false, false, false, false, false, false, false, false, false] rfl rfl (any_of HT_.out (by kernel_rfl)) (fun _ _ _ h => h) (Or.inl ⟨by rfl, ?_⟩) ?_ ?_
        rotate_left
        · intro w'
          go_simp
          with_reducible rfl
        rotate_left
        · simp only [Act.put, List.setIfInBounds_toArray, List.set_cons_zero, List.set_cons_succ, i64_w, i32_w]
          rfl
        refine pure_ (i := 4) (N := some 19) (v := ?_) (a' := ?_) #[true, true, true, true, true, false, false, false, false, false, false, false, false, false, false, false, false, false, false, false] rfl rfl (any_of HT_.out (by kernel_rfl)) (fun _ _ _ h => h) (Or.inl ⟨by rfl, ?_⟩) ?_ ?_
        rotate_left
        · intro w'
          go_simp
          with_reducible rfl
        rotate_left
        · simp only [Act.put, List.setIfInBounds_toArray, List.set_cons_zero, List.set_cons_succ, i64_w, i32_w]
          rfl
        refine pure_ (i := 5) (N := some 20) (v := ?_) (a' := ?_) #[true, true, true, true, true, true, false, false, false, false, false, false, false, false, false, false, false, false, false, false] rfl rfl (any_of HT_.out (by kernel_rfl)) (fun _ _ _ h => h) (Or.inl ⟨by rfl, ?_⟩) ?_ ?_
        rotate_left
        · intro w'
          go_simp
          with_reducible rfl
        rotate_left
        · simp only [Act.put, List.setIfInBounds_toArray, List.set_cons_zero, List.set_cons_succ, i64_w, i32_w]
          rfl
        refine pure_ (i := 6) (N := some 21) (v := ?_) (a' := ?_) #[true, true, true, true, true, true, true, false, false, false, false, false, false, false, false, false, false, false, false, false] rfl rfl (any_of HT_.out (by kernel_rfl)) (fun _ _ _ h => h) (Or.inl ⟨by rfl, ?_⟩) ?_ ?_
        rotate_left
        · intro w'
          go_simp
          with_reducible rfl
        rotate_left
        · simp only [Act.put, List.setIfInBounds_toArray, List.set_cons_zero, List.set_cons_succ, i64_w, i32_w]
          rfl
        refine pure_ (i := 7) (N := some 22) (v := ?_) (a' := ?_) #[true, true, true, true, true, true, true, true, false, false, false, false, false, false, false, false, false, false, false, false] rfl rfl (any_of HT_.out (by kernel_rfl)) (fun _ _ _ h => h) (Or.inl ⟨by rfl, ?_⟩) ?_ ?_
        rotate_left
        · intro w'
          go_simp
          with_reducible rfl
        rotate_left
        · simp only [Act.put, List.setIfInBounds_toArray, List.set_cons_zero, List.set_cons_succ, i64_w, i32_w]
          rfl
        refine pure_ (i := 8) (N := some 23) (v := ?_) (a' := ?_) #[true, true, true, true, true, true, true, true, true, false, false, false, false, false, false, false, false, false, false, false] rfl rfl (any_of HT_.out (by kernel_rfl)) (fun _ _ _ h => h) (Or.inl ⟨by rfl, ?_⟩) ?_ ?_
        rotate_left
        · intro w'
          go_simp
          with_reducible rfl
        rotate_left
        · simp only [Act.put, List.setIfInBounds_toArray, List.set_cons_zero, List.set_cons_succ, i64_w, i32_w]
          rfl
        refine pure_ (i := 13) (N := some 28) (v := ?_) (a' := ?_) #[true, true, true, true, true, true, true, true, true, false, false, false, false, true, false, false, false, false, false, false] rfl rfl (any_of HT_.out (by kernel_rfl)) (fun _ _ _ h => h) (Or.inl ⟨by rfl, ?_⟩) ?_ ?_
        rotate_left
        · intro w'
          go_simp
          with_reducible rfl
        rotate_left
        · simp only [Act.put, List.setIfInBounds_toArray, List.set_cons_zero, List.set_cons_succ, i64_w, i32_w]
          rfl
        refine one_ (i := 9) (N := some 24) #[true, true, true, true, true, true, true, true, true, true, false, false, false, true, false, false, false, false, false, false] rfl rfl (one_of HT_.out (by kernel_rfl)) (by decide) (fun K hK => ?_)
        refine goes_ Tryd.func10 (by kernel_rfl) rfl #[.slice A1 l1.length c1] (by rfl) rfl rfl (by (try simp only [List.map_toArray, List.map_cons, List.map_nil]); first | done | rfl) ?_
        refine (idCut_at A1 l1.length c1 (ji13) _ _ (fun W => hcut27 W) hji13).mono ?_
        rintro e w79 ⟨rfl, rfl⟩
        refine ⟨_, rfl, ?_⟩
        refine hK.out _ _ trivial (fun hHeld => ?_)
        clear hK K
        refine norm_ (a' := ?_) ?_ ?_
        rotate_left
        · show Act.put _ (some 24) _ = _
          simp only [Act.put, List.setIfInBounds_toArray, List.set_cons_zero, List.set_cons_succ, i64_w, i32_w]
          rfl
        refine one_ (i := 10) (N := some 25) #[true, true, true, true, true, true, true, true, true, true, true, false, false, true, false, false, false, false, false, false] rfl rfl (one_of HT_.out (by kernel_rfl)) (by decide) (fun K hK => ?_)
        refine goes_ Tryd.func13 (by kernel_rfl) rfl #[.slice A1 (l1.take ((ji13) : Int).toNat).length c1] (by rfl) rfl rfl (by (try simp only [List.map_toArray, List.map_cons, List.map_nil]); first | done | (rw [show (l1.take ((ji13) : Int).toNat).length = (ji13).toNat from (by rw [List.length_take]; have h_ : ((ji13) : Int) ≤ (l1.length : Int) := of_decide_eq_true (by first | (with_reducible assumption) | assumption); omega)] <;> rfl) | (simp only [hji13]; rfl) | rfl | (simp only [List.length_drop, List.length_take]; rfl)) ?_
        with_reducible refine (spec_AnPlain.calls kj3 _ _ (l1.take ((ji13) : Int).toNat) t114 _ ?side1 ?side2 A16.out).mono ?_
        (case side1 => repeat (first | exact (Kd.C_below HR113.out HB.out) | (with_reducible refine Kd.C_alloc ?_ _) | (with_reducible refine Kd.C_drewN ?_ _) | (with_reducible refine Kd.C_drew ?_)))
        (case side2 => exact HC113.out)
        rintro e w34 ⟨rfl, hb⟩
        refine ⟨_, rfl, ?_⟩
        have n0_ := Aside0.mk (below_step (by repeat (first | (with_reducible first | exact HB.out | apply below_alloc | apply pw_below_drewN | apply below_drew1) | exact HB.out)) hb)
        clear HB
        have HB := n0_
        clear n0_
        (try clear hb)
        (try clear hb2)
        (try clear hk)
        (try clear hi)
        refine hK.out _ _ trivial (fun hHeld => ?_)
        clear hK K
        refine norm_ (a' := ?_) ?_ ?_
        rotate_left
        · show Act.put _ (some 25) _ = _
          simp only [Act.put, List.setIfInBounds_toArray, List.set_cons_zero, List.set_cons_succ, i64_w, i32_w]
          rfl
        refine one_ (i := 11) (N := some 26) #[true, true, true, true, true, true, true, true, true, true, true, true, false, true, false, false, false, false, false, false] rfl rfl (one_of HT_.out (by kernel_rfl)) (by decide) (fun K hK => ?_)
        refine goes_ Tryd.func12 (by kernel_rfl) rfl #[.string t114, .bool true] (by rfl) rfl rfl (by (try simp only [List.map_toArray, List.map_cons, List.map_nil]); first | done | rfl | (simp only [List.length_drop, List.length_take]; rfl)) ?_
        with_reducible refine (spec_AnCounted.calls t114 true t115 _ (show DoorIs _ from ?side1) A17.out).mono ?_
        (case side1 => exact Stays.below hT_ (by first | (repeat (first | (with_reducible first | exact HB.out | apply below_alloc | apply pw_below_drewN | apply below_drew1) | exact HB.out)) | (repeat (first | exact Below.refl _ _ | apply below_drew1 | apply pw_below_drewN))))
        rintro e w34 ⟨rfl, hb⟩
        refine ⟨_, rfl, ?_⟩
        have n0_ := Aside0.mk (below_step (by repeat (first | (with_reducible first | exact HB.out | apply below_alloc | apply pw_below_drewN | apply below_drew1) | exact HB.out)) hb)
        clear HB
        have HB := n0_
        clear n0_
        (try clear hb)
        (try clear hb2)
        (try clear hk)
        (try clear hi)
        refine hK.out _ _ trivial (fun hHeld => ?_)
        clear hK K
        refine norm_ (a' := ?_) ?_ ?_
        rotate_left
        · show Act.put _ (some 26) _ = _
          simp only [Act.put, List.setIfInBounds_toArray, List.set_cons_zero, List.set_cons_succ, i64_w, i32_w]
          rfl
        refine pure_ (i := 12) (N := some 27) (v := ?_) (a' := ?_) #[true, true, true, true, true, true, true, true, true, true, true, true, true, true, false, false, false, false, false, false] rfl rfl (any_of HT_.out (by kernel_rfl)) (fun _ _ _ h => h) (Or.inl ⟨by rfl, ?_⟩) ?_ ?_
        rotate_left
        · intro w'
          go_simp
          with_reducible rfl
        rotate_left
        · simp only [Act.put, List.setIfInBounds_toArray, List.set_cons_zero, List.set_cons_succ, i64_w, i32_w]
          rfl
        refine one_ (i := 14) (N := some 29) #[true, true, true, true, true, true, true, true, true, true, true, true, true, true, true, false, false, false, false, false] rfl rfl (one_of HT_.out (by kernel_rfl)) (by decide) (fun K hK => ?_)
        refine goes_ Tryd.func10 (by kernel_rfl) rfl #[.slice A2 l2.length c2] (by rfl) rfl rfl (by (try simp only [List.map_toArray, List.map_cons, List.map_nil]); first | done | rfl) ?_
        refine (idCut_at A2 l2.length c2 (ji19) _ _ (fun W => hcut28 W) hji19).mono ?_
        rintro e w84 ⟨rfl, rfl⟩
        refine ⟨_, rfl, ?_⟩
        refine hK.out _ _ trivial (fun hHeld => ?_)
        clear hK K
        refine norm_ (a' := ?_) ?_ ?_
        rotate_left
        · show Act.put _ (some 29) _ = _
          simp only [Act.put, List.setIfInBounds_toArray, List.set_cons_zero, List.set_cons_succ, i64_w, i32_w]
          rfl
        refine one_ (i := 15) (N := some 30) #[true, true, true, true, true, true, true, true, true, true, true, true, true, true, true, true, false, false, false, false] rfl rfl (one_of HT_.out (by kernel_rfl)) (by decide) (fun K hK => ?_)
        refine goes_ Tryd.func13 (by kernel_rfl) rfl #[.slice A2 (l2.take ((ji19) : Int).toNat).length c2] (by rfl) rfl rfl (by (try simp only [List.map_toArray, List.map_cons, List.map_nil]); first | done | (rw [show (l2.take ((ji19) : Int).toNat).length = (ji19).toNat from (by rw [List.length_take]; have h_ : ((ji19) : Int) ≤ (l2.length : Int) := of_decide_eq_true (by first | (with_reducible assumption) | assumption); omega)] <;> rfl) | (simp only [hji19]; rfl) | rfl | (simp only [List.length_drop, List.length_take]; rfl)) ?_
        with_reducible refine (spec_AnPlain.calls kj3 _ _ (l2.take ((ji19) : Int).toNat) t117 _ ?side1 ?side2 A22.out).mono ?_
        (case side1 => repeat (first | exact (Kd.C_below HR116.out HB.out) | (with_reducible refine Kd.C_alloc ?_ _) | (with_reducible refine Kd.C_drewN ?_ _) | (with_reducible refine Kd.C_drew ?_)))
        (case side2 => exact HC116.out)
        rintro e w34 ⟨rfl, hb⟩
        refine ⟨_, rfl, ?_⟩
        have n0_ := Aside0.mk (below_step (by repeat (first | (with_reducible first | exact HB.out | apply below_alloc | apply pw_below_drewN | apply below_drew1) | exact HB.out)) hb)
        clear HB
        have HB := n0_
        clear n0_
        (try clear hb)
        (try clear hb2)
        (try clear hk)
        (try clear hi)
        refine hK.out _ _ trivial (fun hHeld => ?_)
        clear hK K
        refine norm_ (a' := ?_) ?_ ?_
        rotate_left
        · show Act.put _ (some 30) _ = _
          simp only [Act.put, List.setIfInBounds_toArray, List.set_cons_zero, List.set_cons_succ, i64_w, i32_w]
          rfl
        refine one_ (i := 16) (N := some 31) #[true, true, true, true, true, true, true, true, true, true, true, true, true, true, true, true, true, false, false, false] rfl rfl (one_of HT_.out (by kernel_rfl)) (by decide) (fun K hK => ?_)
        refine goes_ Tryd.func12 (by kernel_rfl) rfl #[.string t117, .bool true] (by rfl) rfl rfl (by (try simp only [List.map_toArray, List.map_cons, List.map_nil]); first | done | rfl | (simp only [List.length_drop, List.length_take]; rfl)) ?_
        with_reducible refine (spec_AnCounted.calls t117 true t118 _ (show DoorIs _ from ?side1) A23.out).mono ?_
        (case side1 => exact Stays.below hT_ (by first | (repeat (first | (with_reducible first | exact HB.out | apply below_alloc | apply pw_below_drewN | apply below_drew1) | exact HB.out)) | (repeat (first | exact Below.refl _ _ | apply below_drew1 | apply pw_below_drewN))))
        rintro e w34 ⟨rfl, hb⟩
        refine ⟨_, rfl, ?_⟩
        have n0_ := Aside0.mk (below_step (by repeat (first | (with_reducible first | exact HB.out | apply below_alloc | apply pw_below_drewN | apply below_drew1) | exact HB.out)) hb)
        clear HB
        have HB := n0_
        clear n0_
        (try clear hb)
        (try clear hb2)
        (try clear hk)
        (try clear hi)
        refine hK.out _ _ trivial (fun hHeld => ?_)
        clear hK K
        refine norm_ (a' := ?_) ?_ ?_
        rotate_left
        · show Act.put _ (some 31) _ = _
          simp only [Act.put, List.setIfInBounds_toArray, List.set_cons_zero, List.set_cons_succ, i64_w, i32_w]
          rfl
        refine pure_ (i := 17) (N := some 32) (v := ?_) (a' := ?_) #[true, true, true, true, true, true, true, true, true, true, true, true, true, true, true, true, true, true, false, false] rfl rfl (any_of HT_.out (by kernel_rfl)) (fun _ _ _ h => h) (Or.inl ⟨by rfl, ?_⟩) ?_ ?_
        rotate_left
        · intro w'
          go_simp
          with_reducible rfl
        rotate_left
        · simp only [Act.put, List.setIfInBounds_toArray, List.set_cons_zero, List.set_cons_succ, i64_w, i32_w]
          rfl
        refine one_ (i := 18) (N := some 33) #[true, true, true, true, true, true, true, true, true, true, true, true, true, true, true, true, true, true, true, false] rfl rfl (one_of HT_.out (by kernel_rfl)) (by decide) (fun K hK => ?_)
        refine goes_ Tryd.func11 (by kernel_rfl) rfl #[.string (((((⟨#[95, 82, 78]⟩ : ByteArray) ++ ((⟨#[48, 49, 50, 51, 52, 53, 54, 55, 56, 57, 95]⟩ : ByteArray).extract ((ji7) : Int).toNat ((((ji7) + 1) % 256) : Int).toNat)) ++ (⟨#[67]⟩ : ByteArray)) ++ t115) ++ t118)] (by rfl) rfl rfl (by (try simp only [List.map_toArray, List.map_cons, List.map_nil]); first | done | (simp only [hji7]; rfl) | rfl | (simp only [List.length_drop, List.length_take]; rfl)) ?_
        with_reducible refine (laws_idRefused.calls (((((⟨#[95, 82, 78]⟩ : ByteArray) ++ ((⟨#[48, 49, 50, 51, 52, 53, 54, 55, 56, 57, 95]⟩ : ByteArray).extract ((ji7) : Int).toNat ((((ji7) + 1) % 256) : Int).toNat)) ++ (⟨#[67]⟩ : ByteArray)) ++ t115) ++ t118) t119 _ (show DoorIs _ from ?side1) A25.out).mono ?_
        (case side1 => exact Stays.below hT_ (by first | (repeat (first | (with_reducible first | exact HB.out | apply below_alloc | apply pw_below_drewN | apply below_drew1) | exact HB.out)) | (repeat (first | exact Below.refl _ _ | apply below_drew1 | apply pw_below_drewN))))
        rintro e w34 ⟨rfl, hb⟩
        refine ⟨_, rfl, ?_⟩
        have n0_ := Aside0.mk (below_step (by repeat (first | (with_reducible first | exact HB.out | apply below_alloc | apply pw_below_drewN | apply below_drew1) | exact HB.out)) hb)
        clear HB
        have HB := n0_
        clear n0_
        (try clear hb)
        (try clear hb2)
        (try clear hk)
        (try clear hi)
        refine hK.out _ _ trivial (fun hHeld => ?_)
        clear hK K
        refine norm_ (a' := ?_) ?_ ?_
        rotate_left
        · show Act.put _ (some 33) _ = _
          simp only [Act.put, List.setIfInBounds_toArray, List.set_cons_zero, List.set_cons_succ, i64_w, i32_w]
          rfl
        refine pure_ (i := 19) (N := some 6) (v := ?_) (a' := ?_) #[true, true, true, true, true, true, true, true, true, true, true, true, true, true, true, true, true, true, true, true] rfl rfl (any_of HT_.out (by kernel_rfl)) (fun _ _ _ h => h) (Or.inl ⟨by rfl, ?_⟩) ?_ ?_
        rotate_left
        · intro w'
          go_simp
          with_reducible rfl
        rotate_left
        · simp only [Act.put, List.setIfInBounds_toArray, List.set_cons_zero, List.set_cons_succ, i64_w, i32_w]
          rfl
        refine done_ (done_of HT_.out (by kernel_rfl)) ?_
        try go_wp2
        go_ret
        exact ⟨by first | rfl | (simp [errW_none, errW_some] <;> rfl) | (simp only [← hji7, ← hji13, ← hji19]; first | rfl | (simp [errW_none, errW_some] <;> rfl)) | (simp [*, errW_none, errW_some] <;> rfl), by repeat (first | (with_reducible first | exact HB.out | apply below_alloc | apply pw_below_drewN | apply below_drew1) | exact HB.out)⟩
def laws_FnNoSpaceRefused.Pure : Prop := ∀ (a0 : Int) (l1 : List Int) (l2 : List Int), (Lit.int .u8 a0).wf = true → l1.length ≤ maxLen → l1.length * 1 ≤ 140737488351232 → (∀ x ∈ l1, (Lit.int .u8 x).wf = true) → l2.length ≤ maxLen → l2.length * 1 ≤ 140737488351232 → (∀ x ∈ l2, (Lit.int .u8 x).wf = true) → ∃ k, laws_FnNoSpaceRefused.f k a0 l1 l2 = some true
theorem laws_FnNoSpaceRefused.walk (P : laws_FnNoSpaceRefused.Pure) (a0 : Int) (a1 : Option Addr) (len1 cap1 : Nat) (z1 : List Int) (a2 : Option Addr) (len2 cap2 : Nat) (z2 : List Int) (w : World) (hT_ : DoorIs w) (w0 : (Lit.int .u8 a0).wf = true) (w1 : (a1 = none ∧ len1 = 0 ∧ cap1 = 0 ∧ z1 = []) ∨ ∃ x, a1 = some x ∧ len1 ≤ cap1 ∧ cap1 ≤ maxLen ∧ z1.length = cap1 ∧ (∀ i, i < z1.length → w.cell? (x.add i) = some (.int .u8 (z1.getD i 0))) ∧ ∀ n ∈ z1, (Lit.int .u8 n).wf = true) (y1 : len1 * 1 ≤ 140737488351232) (w2 : (a2 = none ∧ len2 = 0 ∧ cap2 = 0 ∧ z2 = []) ∨ ∃ x, a2 = some x ∧ len2 ≤ cap2 ∧ cap2 ≤ maxLen ∧ z2.length = cap2 ∧ (∀ i, i < z2.length → w.cell? (x.add i) = some (.int .u8 (z2.getD i 0))) ∧ ∀ n ∈ z2, (Lit.int .u8 n).wf = true) (y2 : len2 * 1 ≤ 140737488351232) :
    Calls Tryd.prog 5 #[.int .u8 a0, .slice a1 len1 cap1, .slice a2 len2 cap2] w fun e w' => e = .returned (.bool true) ∧ Below w.heap.size w w' := by
  obtain ⟨l1, rfl, hr1, hm1, hw1, hc1⟩ := ReadsInt.ofRowC w1
  obtain ⟨l2, rfl, hr2, hm2, hw2, hc2⟩ := ReadsInt.ofRowC w2
  obtain ⟨k, h⟩ := P a0 l1 l2 w0 hm1 y1 hw1 hm2 y2 hw2
  refine (laws_FnNoSpaceRefused.calls k a0 _ _ l1 _ _ l2 true w (Kd.C_of_reads (d := (0 : Int)) (h1 := fun _ => rfl) hr1) hc1 (Kd.C_of_reads (d := (0 : Int)) (h1 := fun _ => rfl) hr2) hc2 hT_ h).mono ?_
  rintro e w' ⟨rfl, hd⟩
  exact ⟨rfl, hd⟩

end Go.Proofs.YtdmkdclockmjbaaDoor.PFnNoSpaceRefused
