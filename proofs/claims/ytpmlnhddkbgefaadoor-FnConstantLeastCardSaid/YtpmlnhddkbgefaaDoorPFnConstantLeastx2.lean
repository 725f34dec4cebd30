/- Written by a program of this session (wip/tools/myprint.py) with the kit's print: contracts of the functions that one statement reaches; functions that are proved by hand are taken as printed. Conditions: none. -/
import Derived.Test.YtpmlnhddkbgefaaDoorPFnConstantLeastx0
import Derived.Test.YtpmlnhddkbgefaaDoorPFnConstantLeastx1
namespace Go.Proofs.YtpmlnhddkbgefaaDoor.PFnConstantLeast
open Go.RowKit Go.Proofs.YtpmlnhddkbgefaaDoorW.PrintWords Go.Proofs.YtpmlnhddkbgefaaDoorW.PrintLast Go.Proofs.YtpmlnhddkbgefaaDoorW.PrintMore
attribute [local go_sem] max2_int min2_int max_two min_two max_three min_three max_four min_four   -- for this text's walks alone
set_option linter.unusedVariables false
set_option linter.unusedSimpArgs false

/-! ### laws_FnConstantLeast: function 6 -/
def laws_FnConstantLeast.f (k : Nat) (a0 : Int) (a1 : ByteArray) : Option (Bool) := if (a1.size : Int) > 2147483647 then (some true) else ((spec_RustSigned.f a0).bind fun t113 => ((spec_RustBits.f k t113).bind fun bt114 => (if 0 ≤ (IntKind.u64.wrap (bt114.1 - 1)) then ((some (([t113] : List Int) : List Int)).bind fun y116 => (if (strOfNums y116).size + 1 ≤ 9223372036854775807 then ((spec_RustHex.f k (shl .u64 1 (IntKind.u64.wrap (bt114.1 - 1)))).bind fun t119 => (if ((strOfNums y116) ++ (⟨#[110]⟩ : ByteArray)).size + t119.size ≤ 9223372036854775807 then (if (((strOfNums y116) ++ (⟨#[110]⟩ : ByteArray)) ++ t119).size + 1 ≤ 9223372036854775807 then ((spec_RustDecimal.f k (shl .u64 1 (IntKind.u64.wrap (bt114.1 - 1)))).bind fun t120 => (if 1 + t120.size ≤ 9223372036854775807 then ((laws_constantIs.f ((((strOfNums y116) ++ (⟨#[110]⟩ : ByteArray)) ++ t119) ++ (⟨#[95]⟩ : ByteArray)) a1 ((⟨#[45]⟩ : ByteArray) ++ t120)).bind fun t121 => (if t121 = true then ((some (([t113] : List Int) : List Int)).bind fun y122 => ((spec_RustHex.f k (IntKind.u64.wrap ((shl .u64 1 (IntKind.u64.wrap (bt114.1 - 1))) - 1))).bind fun t125 => (if (strOfNums y122).size + t125.size ≤ 9223372036854775807 then (if ((strOfNums y122) ++ t125).size + 1 ≤ 9223372036854775807 then ((spec_RustDecimal.f k (IntKind.u64.wrap ((shl .u64 1 (IntKind.u64.wrap (bt114.1 - 1))) - 1))).bind fun t126 => ((laws_constantIs.f (((strOfNums y122) ++ t125) ++ (⟨#[95]⟩ : ByteArray)) a1 t126).bind fun t127 => (some t127))) else (none)) else (none)))) else (some false))) else (none))) else (none)) else (none))) else (none))) else (none))))
theorem laws_FnConstantLeast.mono : ∀ a0 a1 k, LeO (laws_FnConstantLeast.f k a0 a1) (laws_FnConstantLeast.f (k + 1) a0 a1) := by
  intro a0 a1 k
  unfold laws_FnConstantLeast.f
  repeat' first
      | (with_reducible exact spec_RustBits.mono _ _)
      | (with_reducible exact spec_RustDecimal.mono _ _)
      | (with_reducible exact spec_RustHex.mono _ _)
      | (with_reducible exact LeO.refl _)
      | (with_reducible exact LeO.none _)
      | (with_reducible refine LeO.ite ?_ ?_)
      | (with_reducible refine LeO.bind ?_ (fun _ => ?_))
      | exact spec_RustBits.mono _ _
      | exact spec_RustDecimal.mono _ _
      | exact spec_RustHex.mono _ _
      | exact LeO.none _
      | refine LeO.ite ?_ ?_
      | refine LeO.bind ?_ (fun _ => ?_)
def laws_FnConstantLeast.T6 : Bool × List (List Nat × List Nat) := (true, [([], []), ([0], [0]), ([1], [1]), ([2], [2]), ([], []), ([4], [4]), ([3, 5], [3, 5]), ([6], [6]), ([], []), ([], []), ([9, 5], [9]), ([10], [10]), ([7, 8, 11, 10], [7, 8, 11]), ([12, 12], [12]), ([13], [13]), ([14, 13], [13, 14]), ([15, 13], [13, 15]), ([13], [13]), ([17, 13], [13, 17]), ([18, 13, 13], [13, 18]), ([16, 19, 13], [13, 16, 19]), ([20, 13], [13, 20]), ([13], [13]), ([13], [13]), ([23, 13], [13, 23]), ([24, 19, 13], [13, 24]), ([21, 22, 25, 25, 13], [13, 21, 22, 25]), ([13, 26], [13, 26]), ([27, 26, 0, 1, 2, 3, 4, 5, 6, 7, 8, 9, 10, 11, 12, 13, 14, 15, 16, 17, 18, 19, 20, 21, 22, 23, 24, 25, 26, 27], [27])])
def laws_FnConstantLeast.B6 : List Nat := [0, 1, 3, 7, 0, 16, 63, 127, 0, 0, 560, 1584, 4095, 8191, 16383, 32767, 65535, 16383, 147455, 409599, 1048575, 2097151, 16383, 16383, 8404991, 26099711, 67108863, 134217727, 268435455]
theorem laws_FnConstantLeast.tab6 : rtab .any (opsOf Tryd.f6 6) = laws_FnConstantLeast.T6 := by kernel_rfl
theorem laws_FnConstantLeast.bits6 : waitsOk laws_FnConstantLeast.T6.2 laws_FnConstantLeast.B6 = true := by kernel_rfl
set_option maxHeartbeats 8000000 in
set_option maxRecDepth 100000 in
theorem laws_FnConstantLeast.calls (k : Nat) (a0 : Int) (a1 : ByteArray) (r : Bool) (w : World) (hT_ : StrIs w) (h : laws_FnConstantLeast.f k a0 a1 = some r) :
    Calls Tryd.prog 6 #[.int .i64 a0, .string a1] w fun e w' => e = .returned (.bool r) ∧ Below w.heap.size w w' := by
  have HB := Aside0.mk (Below.refl w.heap.size w)
  have H : (if (a1.size : Int) > 2147483647 then (some true) else ((spec_RustSigned.f a0).bind fun t113 => ((spec_RustBits.f k t113).bind fun bt114 => (if 0 ≤ (IntKind.u64.wrap (bt114.1 - 1)) then ((some (([t113] : List Int) : List Int)).bind fun y116 => (if (strOfNums y116).size + 1 ≤ 9223372036854775807 then ((spec_RustHex.f k (shl .u64 1 (IntKind.u64.wrap (bt114.1 - 1)))).bind fun t119 => (if ((strOfNums y116) ++ (⟨#[110]⟩ : ByteArray)).size + t119.size ≤ 9223372036854775807 then (if (((strOfNums y116) ++ (⟨#[110]⟩ : ByteArray)) ++ t119).size + 1 ≤ 9223372036854775807 then ((spec_RustDecimal.f k (shl .u64 1 (IntKind.u64.wrap (bt114.1 - 1)))).bind fun t120 => (if 1 + t120.size ≤ 9223372036854775807 then ((laws_constantIs.f ((((strOfNums y116) ++ (⟨#[110]⟩ : ByteArray)) ++ t119) ++ (⟨#[95]⟩ : ByteArray)) a1 ((⟨#[45]⟩ : ByteArray) ++ t120)).bind fun t121 => (if t121 = true then ((some (([t113] : List Int) : List Int)).bind fun y122 => ((spec_RustHex.f k (IntKind.u64.wrap ((shl .u64 1 (IntKind.u64.wrap (bt114.1 - 1))) - 1))).bind fun t125 => (if (strOfNums y122).size + t125.size ≤ 9223372036854775807 then (if ((strOfNums y122) ++ t125).size + 1 ≤ 9223372036854775807 then ((spec_RustDecimal.f k (IntKind.u64.wrap ((shl .u64 1 (IntKind.u64.wrap (bt114.1 - 1))) - 1))).bind fun t126 => ((laws_constantIs.f (((strOfNums y122) ++ t125) ++ (⟨#[95]⟩ : ByteArray)) a1 t126).bind fun t127 => (some t127))) else (none)) else (none)))) else (some false))) else (none))) else (none)) else (none))) else (none))) else (none))))) = some r := h
  clear h
  by_cases c3 : (a1.size : Int) > 2147483647
  · rw [if_pos c3] at H
    have c3b0 : decide (2147483647 < (a1.size : Int)) = true := decide_eq_true c3
    have c3b1 : decide (2147483647 < a1.size) = true := decide_eq_true (by omega)
    clear c3
    obtain rfl := Option.some.inj H
    go_enter Tryd.func6, Tryd.ntmps6
    go_wp2
    go_ret
    exact ⟨by first | rfl | (simp [errW_none, errW_some] <;> rfl) | (simp [*, errW_none, errW_some] <;> rfl), by repeat (first | (with_reducible first | exact HB.out | apply below_alloc | apply pw_below_drewN | apply below_drew1) | exact HB.out)⟩
  · rw [if_neg c3] at H
    have c3b0 : decide (2147483647 < (a1.size : Int)) = false := decide_eq_false c3
    have c3b1 : decide (2147483647 < a1.size) = false := decide_eq_false (by omega)
    clear c3
    replace H := Option.bind_eq_some_iff.mp H
    obtain ⟨t113, A40, H⟩ := H
    replace H : ((spec_RustBits.f k t113).bind fun bt114 => (if 0 ≤ (IntKind.u64.wrap (bt114.1 - 1)) then ((some (([t113] : List Int) : List Int)).bind fun y116 => (if (strOfNums y116).size + 1 ≤ 9223372036854775807 then ((spec_RustHex.f k (shl .u64 1 (IntKind.u64.wrap (bt114.1 - 1)))).bind fun t119 => (if ((strOfNums y116) ++ (⟨#[110]⟩ : ByteArray)).size + t119.size ≤ 9223372036854775807 then (if (((strOfNums y116) ++ (⟨#[110]⟩ : ByteArray)) ++ t119).size + 1 ≤ 9223372036854775807 then ((spec_RustDecimal.f k (shl .u64 1 (IntKind.u64.wrap (bt114.1 - 1)))).bind fun t120 => (if 1 + t120.size ≤ 9223372036854775807 then ((laws_constantIs.f ((((strOfNums y116) ++ (⟨#[110]⟩ : ByteArray)) ++ t119) ++ (⟨#[95]⟩ : ByteArray)) a1 ((⟨#[45]⟩ : ByteArray) ++ t120)).bind fun t121 => (if t121 = true then ((some (([t113] : List Int) : List Int)).bind fun y122 => ((spec_RustHex.f k (IntKind.u64.wrap ((shl .u64 1 (IntKind.u64.wrap (bt114.1 - 1))) - 1))).bind fun t125 => (if (strOfNums y122).size + t125.size ≤ 9223372036854775807 then (if ((strOfNums y122) ++ t125).size + 1 ≤ 9223372036854775807 then ((spec_RustDecimal.f k (IntKind.u64.wrap ((shl .u64 1 (IntKind.u64.wrap (bt114.1 - 1))) - 1))).bind fun t126 => ((laws_constantIs.f (((strOfNums y122) ++ t125) ++ (⟨#[95]⟩ : ByteArray)) a1 t126).bind fun t127 => (some t127))) else (none)) else (none)))) else (some false))) else (none))) else (none)) else (none))) else (none))) else (none))) = some r := H
    have A4 := Aside0.mk A40
    clear A40
    replace H := Option.bind_eq_some_iff.mp H
    obtain ⟨⟨t114, t115⟩, A50, H⟩ := H
    replace H : (if 0 ≤ (IntKind.u64.wrap (t114 - 1)) then ((some (([t113] : List Int) : List Int)).bind fun y116 => (if (strOfNums y116).size + 1 ≤ 9223372036854775807 then ((spec_RustHex.f k (shl .u64 1 (IntKind.u64.wrap (t114 - 1)))).bind fun t119 => (if ((strOfNums y116) ++ (⟨#[110]⟩ : ByteArray)).size + t119.size ≤ 9223372036854775807 then (if (((strOfNums y116) ++ (⟨#[110]⟩ : ByteArray)) ++ t119).size + 1 ≤ 9223372036854775807 then ((spec_RustDecimal.f k (shl .u64 1 (IntKind.u64.wrap (t114 - 1)))).bind fun t120 => (if 1 + t120.size ≤ 9223372036854775807 then ((laws_constantIs.f ((((strOfNums y116) ++ (⟨#[110]⟩ : ByteArray)) ++ t119) ++ (⟨#[95]⟩ : ByteArray)) a1 ((⟨#[45]⟩ : ByteArray) ++ t120)).bind fun t121 => (if t121 = true then ((some (([t113] : List Int) : List Int)).bind fun y122 => ((spec_RustHex.f k (IntKind.u64.wrap ((shl .u64 1 (IntKind.u64.wrap (t114 - 1))) - 1))).bind fun t125 => (if (strOfNums y122).size + t125.size ≤ 9223372036854775807 then (if ((strOfNums y122) ++ t125).size + 1 ≤ 9223372036854775807 then ((spec_RustDecimal.f k (IntKind.u64.wrap ((shl .u64 1 (IntKind.u64.wrap (t114 - 1))) - 1))).bind fun t126 => ((laws_constantIs.f (((strOfNums y122) ++ t125) ++ (⟨#[95]⟩ : ByteArray)) a1 t126).bind fun t127 => (some t127))) else (none)) else (none)))) else (some false))) else (none))) else (none)) else (none))) else (none))) else (none)) = some r := H
    have A5 := Aside0.mk A50
    clear A50
    obtain ⟨ji6, hji6⟩ : ∃ j_ : Int, (IntKind.u64.wrap (t114 - 1)) = j_ := ⟨_, rfl⟩
    replace H : (if 0 ≤ (ji6) then ((some (([t113] : List Int) : List Int)).bind fun y116 => (if (strOfNums y116).size + 1 ≤ 9223372036854775807 then ((spec_RustHex.f k (shl .u64 1 (ji6))).bind fun t119 => (if ((strOfNums y116) ++ (⟨#[110]⟩ : ByteArray)).size + t119.size ≤ 9223372036854775807 then (if (((strOfNums y116) ++ (⟨#[110]⟩ : ByteArray)) ++ t119).size + 1 ≤ 9223372036854775807 then ((spec_RustDecimal.f k (shl .u64 1 (ji6))).bind fun t120 => (if 1 + t120.size ≤ 9223372036854775807 then ((laws_constantIs.f ((((strOfNums y116) ++ (⟨#[110]⟩ : ByteArray)) ++ t119) ++ (⟨#[95]⟩ : ByteArray)) a1 ((⟨#[45]⟩ : ByteArray) ++ t120)).bind fun t121 => (if t121 = true then ((some (([t113] : List Int) : List Int)).bind fun y122 => ((spec_RustHex.f k (IntKind.u64.wrap ((shl .u64 1 (ji6)) - 1))).bind fun t125 => (if (strOfNums y122).size + t125.size ≤ 9223372036854775807 then (if ((strOfNums y122) ++ t125).size + 1 ≤ 9223372036854775807 then ((spec_RustDecimal.f k (IntKind.u64.wrap ((shl .u64 1 (ji6)) - 1))).bind fun t126 => ((laws_constantIs.f (((strOfNums y122) ++ t125) ++ (⟨#[95]⟩ : ByteArray)) a1 t126).bind fun t127 => (some t127))) else (none)) else (none)))) else (some false))) else (none))) else (none)) else (none))) else (none))) else (none)) = some r := by first | (rw [hji6] at H; exact H) | (simp only [hji6] at H ⊢; exact H)
    (try rw [hji6] at A4)
    (try rw [hji6] at A5)
    by_cases c7 : 0 ≤ (ji6)
    · rw [if_pos c7] at H
      have c7b0 := eq_true c7
      have c7b1 : decide (0 ≤ (ji6)) = true := decide_eq_true c7
      clear c7
      obtain ⟨ji8, hji8⟩ : ∃ j_ : Int, (shl .u64 1 (ji6)) = j_ := ⟨_, rfl⟩
      replace H : ((some (([t113] : List Int) : List Int)).bind fun y116 => (if (strOfNums y116).size + 1 ≤ 9223372036854775807 then ((spec_RustHex.f k (ji8)).bind fun t119 => (if ((strOfNums y116) ++ (⟨#[110]⟩ : ByteArray)).size + t119.size ≤ 9223372036854775807 then (if (((strOfNums y116) ++ (⟨#[110]⟩ : ByteArray)) ++ t119).size + 1 ≤ 9223372036854775807 then ((spec_RustDecimal.f k (ji8)).bind fun t120 => (if 1 + t120.size ≤ 9223372036854775807 then ((laws_constantIs.f ((((strOfNums y116) ++ (⟨#[110]⟩ : ByteArray)) ++ t119) ++ (⟨#[95]⟩ : ByteArray)) a1 ((⟨#[45]⟩ : ByteArray) ++ t120)).bind fun t121 => (if t121 = true then ((some (([t113] : List Int) : List Int)).bind fun y122 => ((spec_RustHex.f k (IntKind.u64.wrap ((ji8) - 1))).bind fun t125 => (if (strOfNums y122).size + t125.size ≤ 9223372036854775807 then (if ((strOfNums y122) ++ t125).size + 1 ≤ 9223372036854775807 then ((spec_RustDecimal.f k (IntKind.u64.wrap ((ji8) - 1))).bind fun t126 => ((laws_constantIs.f (((strOfNums y122) ++ t125) ++ (⟨#[95]⟩ : ByteArray)) a1 t126).bind fun t127 => (some t127))) else (none)) else (none)))) else (some false))) else (none))) else (none)) else (none))) else (none))) = some r := by first | (rw [hji8] at H; exact H) | (simp only [hji8] at H ⊢; exact H)
      (try rw [hji8] at A4)
      (try rw [hji8] at A5)
      have hji8_ : (IntKind.u64.wrap (1 * 2 ^ min (ji6).toNat 64)) = ji8 := hji8
      have hji8z : (ji6) ≤ 64 → (IntKind.u64.wrap (1 * 2 ^ (ji6).toNat)) = ji8 := shl_small hji8
      have hji8u : (IntKind.u64.wrap (2 ^ min (ji6).toNat 64)) = ji8 := by have h_ := hji8_; rw [Int.one_mul] at h_; exact h_
      have hji8v : (ji6) ≤ 64 → (IntKind.u64.wrap (2 ^ (ji6).toNat)) = ji8 := fun hle_ => by have h_ := hji8z hle_; rw [Int.one_mul] at h_; exact h_
      obtain ⟨y116, hy116⟩ : ∃ y_ : List Int, y_ = (([t113] : List Int)) := ⟨_, rfl⟩
      replace H : (if (strOfNums y116).size + 1 ≤ 9223372036854775807 then ((spec_RustHex.f k (ji8)).bind fun t119 => (if ((strOfNums y116) ++ (⟨#[110]⟩ : ByteArray)).size + t119.size ≤ 9223372036854775807 then (if (((strOfNums y116) ++ (⟨#[110]⟩ : ByteArray)) ++ t119).size + 1 ≤ 9223372036854775807 then ((spec_RustDecimal.f k (ji8)).bind fun t120 => (if 1 + t120.size ≤ 9223372036854775807 then ((laws_constantIs.f ((((strOfNums y116) ++ (⟨#[110]⟩ : ByteArray)) ++ t119) ++ (⟨#[95]⟩ : ByteArray)) a1 ((⟨#[45]⟩ : ByteArray) ++ t120)).bind fun t121 => (if t121 = true then ((some (([t113] : List Int) : List Int)).bind fun y122 => ((spec_RustHex.f k (IntKind.u64.wrap ((ji8) - 1))).bind fun t125 => (if (strOfNums y122).size + t125.size ≤ 9223372036854775807 then (if ((strOfNums y122) ++ t125).size + 1 ≤ 9223372036854775807 then ((spec_RustDecimal.f k (IntKind.u64.wrap ((ji8) - 1))).bind fun t126 => ((laws_constantIs.f (((strOfNums y122) ++ t125) ++ (⟨#[95]⟩ : ByteArray)) a1 t126).bind fun t127 => (some t127))) else (none)) else (none)))) else (some false))) else (none))) else (none)) else (none))) else (none)) = some r := by first | (rw [hy116]; with_reducible exact H) | (have H2_ := (Option.bind_some _ _).symm.trans H; rw [hy116]; with_reducible exact H2_) | (have H2_ := (Option.bind_some _ _).symm.trans H; with_reducible exact H2_) | with_reducible exact H | (rw [hy116]; exact H) | exact H
      have Ny116 := Aside0.mk hy116
      clear hy116
      by_cases c9 : (strOfNums y116).size + 1 ≤ 9223372036854775807
      · rw [if_pos c9] at H
        have c9b0 := eq_true c9
        have c9b1 : decide ((strOfNums y116).size + 1 ≤ 9223372036854775807) = true := decide_eq_true c9
        try have c9b2 : (9223372036854775807 < (strOfNums y116).size + 1) = False := eq_false (Nat.not_lt.2 c9)
        replace H := Option.bind_eq_some_iff.mp H
        obtain ⟨t119, A100, H⟩ := H
        replace H : (if ((strOfNums y116) ++ (⟨#[110]⟩ : ByteArray)).size + t119.size ≤ 9223372036854775807 then (if (((strOfNums y116) ++ (⟨#[110]⟩ : ByteArray)) ++ t119).size + 1 ≤ 9223372036854775807 then ((spec_RustDecimal.f k (ji8)).bind fun t120 => (if 1 + t120.size ≤ 9223372036854775807 then ((laws_constantIs.f ((((strOfNums y116) ++ (⟨#[110]⟩ : ByteArray)) ++ t119) ++ (⟨#[95]⟩ : ByteArray)) a1 ((⟨#[45]⟩ : ByteArray) ++ t120)).bind fun t121 => (if t121 = true then ((some (([t113] : List Int) : List Int)).bind fun y122 => ((spec_RustHex.f k (IntKind.u64.wrap ((ji8) - 1))).bind fun t125 => (if (strOfNums y122).size + t125.size ≤ 9223372036854775807 then (if ((strOfNums y122) ++ t125).size + 1 ≤ 9223372036854775807 then ((spec_RustDecimal.f k (IntKind.u64.wrap ((ji8) - 1))).bind fun t126 => ((laws_constantIs.f (((strOfNums y122) ++ t125) ++ (⟨#[95]⟩ : ByteArray)) a1 t126).bind fun t127 => (some t127))) else (none)) else (none)))) else (some false))) else (none))) else (none)) else (none)) = some r := H
        have A10 := Aside0.mk A100
        clear A100
        by_cases c11 : ((strOfNums y116) ++ (⟨#[110]⟩ : ByteArray)).size + t119.size ≤ 9223372036854775807
        · rw [if_pos c11] at H
          have c11b0 := eq_true c11
          have c11b1 : decide (((strOfNums y116) ++ (⟨#[110]⟩ : ByteArray)).size + t119.size ≤ 9223372036854775807) = true := decide_eq_true c11
          try have c11b2 : (9223372036854775807 < ((strOfNums y116) ++ (⟨#[110]⟩ : ByteArray)).size + t119.size) = False := eq_false (Nat.not_lt.2 c11)
          try have c11b4 : (9223372036854775807 < (strOfNums y116).size + 1 + t119.size) = False := eq_false (by have h_ := c11; (repeat rw [ByteArray.size_append] at h_); exact Nat.not_lt.2 h_)
          by_cases c12 : (((strOfNums y116) ++ (⟨#[110]⟩ : ByteArray)) ++ t119).size + 1 ≤ 9223372036854775807
          · rw [if_pos c12] at H
            have c12b0 := eq_true c12
            have c12b1 : decide ((((strOfNums y116) ++ (⟨#[110]⟩ : ByteArray)) ++ t119).size + 1 ≤ 9223372036854775807) = true := decide_eq_true c12
            try have c12b2 : (9223372036854775807 < (((strOfNums y116) ++ (⟨#[110]⟩ : ByteArray)) ++ t119).size + 1) = False := eq_false (Nat.not_lt.2 c12)
            try have c12b4 : (9223372036854775807 < (strOfNums y116).size + 1 + t119.size + 1) = False := eq_false (by have h_ := c12; (repeat rw [ByteArray.size_append] at h_); exact Nat.not_lt.2 h_)
            replace H := Option.bind_eq_some_iff.mp H
            obtain ⟨t120, A130, H⟩ := H
            replace H : (if 1 + t120.size ≤ 9223372036854775807 then ((laws_constantIs.f ((((strOfNums y116) ++ (⟨#[110]⟩ : ByteArray)) ++ t119) ++ (⟨#[95]⟩ : ByteArray)) a1 ((⟨#[45]⟩ : ByteArray) ++ t120)).bind fun t121 => (if t121 = true then ((some (([t113] : List Int) : List Int)).bind fun y122 => ((spec_RustHex.f k (IntKind.u64.wrap ((ji8) - 1))).bind fun t125 => (if (strOfNums y122).size + t125.size ≤ 9223372036854775807 then (if ((strOfNums y122) ++ t125).size + 1 ≤ 9223372036854775807 then ((spec_RustDecimal.f k (IntKind.u64.wrap ((ji8) - 1))).bind fun t126 => ((laws_constantIs.f (((strOfNums y122) ++ t125) ++ (⟨#[95]⟩ : ByteArray)) a1 t126).bind fun t127 => (some t127))) else (none)) else (none)))) else (some false))) else (none)) = some r := H
            have A13 := Aside0.mk A130
            clear A130
            by_cases c14 : 1 + t120.size ≤ 9223372036854775807
            · rw [if_pos c14] at H
              have c14b0 := eq_true c14
              have c14b1 : decide (1 + t120.size ≤ 9223372036854775807) = true := decide_eq_true c14
              try have c14b2 : (9223372036854775807 < 1 + t120.size) = False := eq_false (Nat.not_lt.2 c14)
              replace H := Option.bind_eq_some_iff.mp H
              obtain ⟨t121, A150, H⟩ := H
              replace H : (if t121 = true then ((some (([t113] : List Int) : List Int)).bind fun y122 => ((spec_RustHex.f k (IntKind.u64.wrap ((ji8) - 1))).bind fun t125 => (if (strOfNums y122).size + t125.size ≤ 9223372036854775807 then (if ((strOfNums y122) ++ t125).size + 1 ≤ 9223372036854775807 then ((spec_RustDecimal.f k (IntKind.u64.wrap ((ji8) - 1))).bind fun t126 => ((laws_constantIs.f (((strOfNums y122) ++ t125) ++ (⟨#[95]⟩ : ByteArray)) a1 t126).bind fun t127 => (some t127))) else (none)) else (none)))) else (some false)) = some r := H
              have A15 := Aside0.mk A150
              clear A150
              by_cases c16 : t121 = true
              · subst c16
                have H1 : ((some (([t113] : List Int) : List Int)).bind fun y122 => ((spec_RustHex.f k (IntKind.u64.wrap ((ji8) - 1))).bind fun t125 => (if (strOfNums y122).size + t125.size ≤ 9223372036854775807 then (if ((strOfNums y122) ++ t125).size + 1 ≤ 9223372036854775807 then ((spec_RustDecimal.f k (IntKind.u64.wrap ((ji8) - 1))).bind fun t126 => ((laws_constantIs.f (((strOfNums y122) ++ t125) ++ (⟨#[95]⟩ : ByteArray)) a1 t126).bind fun t127 => (some t127))) else (none)) else (none)))) = some r := by rw [if_pos rfl] at H; exact H
                clear H
                have H := H1
                clear H1
                obtain ⟨y122, hy122⟩ : ∃ y_ : List Int, y_ = (([t113] : List Int)) := ⟨_, rfl⟩
                replace H : ((spec_RustHex.f k (IntKind.u64.wrap ((ji8) - 1))).bind fun t125 => (if (strOfNums y122).size + t125.size ≤ 9223372036854775807 then (if ((strOfNums y122) ++ t125).size + 1 ≤ 9223372036854775807 then ((spec_RustDecimal.f k (IntKind.u64.wrap ((ji8) - 1))).bind fun t126 => ((laws_constantIs.f (((strOfNums y122) ++ t125) ++ (⟨#[95]⟩ : ByteArray)) a1 t126).bind fun t127 => (some t127))) else (none)) else (none))) = some r := by first | (rw [hy122]; with_reducible exact H) | (have H2_ := (Option.bind_some _ _).symm.trans H; rw [hy122]; with_reducible exact H2_) | (have H2_ := (Option.bind_some _ _).symm.trans H; with_reducible exact H2_) | with_reducible exact H | (rw [hy122]; exact H) | exact H
                have Ny122 := Aside0.mk hy122
                clear hy122
                replace H := Option.bind_eq_some_iff.mp H
                obtain ⟨t125, A170, H⟩ := H
                replace H : (if (strOfNums y122).size + t125.size ≤ 9223372036854775807 then (if ((strOfNums y122) ++ t125).size + 1 ≤ 9223372036854775807 then ((spec_RustDecimal.f k (IntKind.u64.wrap ((ji8) - 1))).bind fun t126 => ((laws_constantIs.f (((strOfNums y122) ++ t125) ++ (⟨#[95]⟩ : ByteArray)) a1 t126).bind fun t127 => (some t127))) else (none)) else (none)) = some r := H
                have A17 := Aside0.mk A170
                clear A170
                by_cases c18 : (strOfNums y122).size + t125.size ≤ 9223372036854775807
                · rw [if_pos c18] at H
                  have c18b0 := eq_true c18
                  have c18b1 : decide ((strOfNums y122).size + t125.size ≤ 9223372036854775807) = true := decide_eq_true c18
                  try have c18b2 : (9223372036854775807 < (strOfNums y122).size + t125.size) = False := eq_false (Nat.not_lt.2 c18)
                  by_cases c19 : ((strOfNums y122) ++ t125).size + 1 ≤ 9223372036854775807
                  · rw [if_pos c19] at H
                    have c19b0 := eq_true c19
                    have c19b1 : decide (((strOfNums y122) ++ t125).size + 1 ≤ 9223372036854775807) = true := decide_eq_true c19
                    try have c19b2 : (9223372036854775807 < ((strOfNums y122) ++ t125).size + 1) = False := eq_false (Nat.not_lt.2 c19)
                    try have c19b4 : (9223372036854775807 < (strOfNums y122).size + t125.size + 1) = False := eq_false (by have h_ := c19; (repeat rw [ByteArray.size_append] at h_); exact Nat.not_lt.2 h_)
                    replace H := Option.bind_eq_some_iff.mp H
                    obtain ⟨t126, A200, H⟩ := H
                    replace H : ((laws_constantIs.f (((strOfNums y122) ++ t125) ++ (⟨#[95]⟩ : ByteArray)) a1 t126).bind fun t127 => (some t127)) = some r := H
                    have A20 := Aside0.mk A200
                    clear A200
                    replace H := Option.bind_eq_some_iff.mp H
                    obtain ⟨t127, A210, H⟩ := H
                    replace H : (some t127) = some r := H
                    have A21 := Aside0.mk A210
                    clear A210
                    obtain rfl := Option.some.inj H
                    go_enter Tryd.func6, Tryd.ntmps6
                    try go_wp2_with (first | ((with_reducible refine gate_callee (f := 18) rfl ?_); refine goesL_ (some 13) rfl rfl Tryd.func18 (by kernel_rfl) rfl #[.int .i64 a0] rfl (by (try simp only [List.map_toArray, List.map_cons, List.map_nil]); first | done | rfl | (simp only [List.length_drop, List.length_take]; rfl)) ?_; (with_reducible refine (spec_RustSigned.calls a0 t113 _ A4.out).mono ?_); rintro e w' ⟨rfl, ⟨nd, rfl⟩⟩; refine ⟨_, rfl, ?_⟩) | ((with_reducible refine gate_callee (f := 23) rfl ?_); refine goesL_ (some 16) rfl rfl Tryd.func23 (by kernel_rfl) rfl #[.int .u8 t113] rfl (by (try simp only [List.map_toArray, List.map_cons, List.map_nil]); first | done | rfl | (simp only [List.length_drop, List.length_take]; rfl)) ?_; (with_reducible refine (spec_RustBits.calls k t113 t114 t115 _ A5.out).mono ?_); rintro e w' ⟨rfl, ⟨nd, rfl⟩⟩; refine ⟨_, rfl, ?_⟩))
                    have n0_ := Aside0.mk (below_drew1 HB.out)
                    clear HB
                    have HB := n0_
                    clear n0_
                    refine start_ (n := 29) (S := fun w' => True) (ds := []) #[false, false, false, false, false, false, false, false, false, false, false, false, false, false, false, false, false, false, false, false, false, false, false, false, false, false, false, false, false] (by kernel_rfl) rfl rfl trivial (fun hHeld => ?_); refine with_tabW laws_FnConstantLeast.tab6 laws_FnConstantLeast.bits6 (fun HT_ HW_ => ?_)
                    generalize w.drew = w22 at HB hHeld ⊢
                    refine pure_ (i := 0) (N := some 22) (v := ?_) (a' := ?_) #[true, false, false, false, false, false, false, false, false, false, false, false, false, false, false, false, false, false, false, false, false, false, false, false, false, false, false, false, false] rfl rfl (any_of HT_.out (by kernel_rfl)) (fun _ _ _ h => h) (Or.inl ⟨by rfl, ?_⟩) ?_ ?_
                    rotate_left
                    · intro w'
                      go_simp
                      with_reducible rfl
                    rotate_left
                    · simp only [Act.put, List.setIfInBounds_toArray, List.set_cons_zero, List.set_cons_succ, i64_w, i32_w]
                      rfl
                    refine pure_ (i := 4) (N := some 26) (v := ?_) (a' := ?_) #[true, false, false, false, true, false, false, false, false, false, false, false, false, false, false, false, false, false, false, false, false, false, false, false, false, false, false, false, false] rfl rfl (any_of HT_.out (by kernel_rfl)) (fun _ _ _ h => h) (Or.inl ⟨by rfl, ?_⟩) ?_ ?_
                    rotate_left
                    · intro w'
                      go_simp
                      with_reducible rfl
                    rotate_left
                    · simp only [Act.put, List.setIfInBounds_toArray, List.set_cons_zero, List.set_cons_succ, i64_w, i32_w]
                      rfl
                    refine pure_ (i := 8) (N := some 30) (v := ?_) (a' := ?_) #[true, false, false, false, true, false, false, false, true, false, false, false, false, false, false, false, false, false, false, false, false, false, false, false, false, false, false, false, false] rfl rfl (any_of HT_.out (by kernel_rfl)) (fun _ _ _ h => h) (Or.inl ⟨by rfl, ?_⟩) ?_ ?_
                    rotate_left
                    · intro w'
                      go_simp
                      with_reducible rfl
                    rotate_left
                    · simp only [Act.put, List.setIfInBounds_toArray, List.set_cons_zero, List.set_cons_succ, i64_w, i32_w]
                      rfl
                    refine pure_ (i := 9) (N := some 31) (v := ?_) (a' := ?_) #[true, false, false, false, true, false, false, false, true, true, false, false, false, false, false, false, false, false, false, false, false, false, false, false, false, false, false, false, false] rfl rfl (any_of HT_.out (by kernel_rfl)) (fun _ _ _ h => h) (Or.inl ⟨by rfl, ?_⟩) ?_ ?_
                    rotate_left
                    · intro w'
                      go_simp
                      with_reducible rfl
                    rotate_left
                    · simp only [Act.put, List.setIfInBounds_toArray, List.set_cons_zero, List.set_cons_succ, i64_w, i32_w]
                      rfl
                    refine join_ (σ := Value × Value) 3 #[true, true, true, true, true, true, true, true, true, true, true, true, true, true, true, true, true, true, true, true, true, true, true, true, true, true, false, false, false] (fun s_ => [(23, s_.1), (24, .string (strOfNums y116)), (27, .string t119), (32, .string t120), (34, .bool true), (37, s_.2), (38, .string (strOfNums y122)), (41, .string t125), (47, .string t126), (25, .string ((strOfNums y116) ++ (⟨#[110]⟩ : ByteArray))), (28, .string (((strOfNums y116) ++ (⟨#[110]⟩ : ByteArray)) ++ t119)), (29, .string ((((strOfNums y116) ++ (⟨#[110]⟩ : ByteArray)) ++ t119) ++ (⟨#[95]⟩ : ByteArray))), (33, .string ((⟨#[45]⟩ : ByteArray) ++ t120)), (35, .bool true), (36, .int .u8 t113), (39, .int .u64 ji8), (40, .int .u64 (IntKind.u64.wrap ((ji8) - 1))), (42, .string ((strOfNums y122) ++ t125)), (43, .string (((strOfNums y122) ++ t125) ++ (⟨#[95]⟩ : ByteArray))), (44, .string a1), (45, .int .u64 ji8), (46, .int .u64 (IntKind.u64.wrap ((ji8) - 1)))]) (fun s_ w' => (Kd.R (Kd.int .u8) 5 w' w.heap.size (fun k_ => some k_ ≠ (s_.2 : Value).ownBlock) s_.1 y116) ∧ (Kd.R (Kd.int .u8) 5 w' w.heap.size (fun k_ => some k_ ≠ (s_.1 : Value).ownBlock) s_.2 y122) ∧ (Below w.heap.size w w')) ?_ ?_
                    rotate_left
                    · intro hJ1_2_5_10_12_15_16_19_25
                      refine join_ (σ := Value × Value) 4 #[true, true, true, true, true, true, true, true, true, true, true, true, true, true, true, true, true, true, true, true, true, true, true, true, true, false, false, false, false] (fun s_ => [(23, s_.1), (24, .string (strOfNums y116)), (27, .string t119), (32, .string t120), (34, .bool true), (37, s_.2), (38, .string (strOfNums y122)), (41, .string t125), (25, .string ((strOfNums y116) ++ (⟨#[110]⟩ : ByteArray))), (28, .string (((strOfNums y116) ++ (⟨#[110]⟩ : ByteArray)) ++ t119)), (29, .string ((((strOfNums y116) ++ (⟨#[110]⟩ : ByteArray)) ++ t119) ++ (⟨#[95]⟩ : ByteArray))), (33, .string ((⟨#[45]⟩ : ByteArray) ++ t120)), (35, .bool true), (36, .int .u8 t113), (39, .int .u64 ji8), (40, .int .u64 (IntKind.u64.wrap ((ji8) - 1))), (42, .string ((strOfNums y122) ++ t125)), (43, .string (((strOfNums y122) ++ t125) ++ (⟨#[95]⟩ : ByteArray))), (44, .string a1), (45, .int .u64 ji8), (46, .int .u64 (IntKind.u64.wrap ((ji8) - 1)))]) (fun s_ w' => (Kd.R (Kd.int .u8) 5 w' w.heap.size (fun k_ => some k_ ≠ (s_.2 : Value).ownBlock) s_.1 y116) ∧ (Kd.R (Kd.int .u8) 5 w' w.heap.size (fun k_ => some k_ ≠ (s_.1 : Value).ownBlock) s_.2 y122) ∧ (Below w.heap.size w w')) ?_ ?_
                      rotate_left
                      · intro hJ1_2_5_10_12_15_16_19
                        refine join_ (σ := Value × Value) 6 #[true, true, true, true, true, true, true, true, true, true, true, true, true, true, true, true, false, true, true, true, false, false, true, true, true, true, false, false, false] (fun s_ => [(23, s_.1), (24, .string (strOfNums y116)), (27, .string t119), (32, .string t120), (34, .bool true), (37, s_.2), (41, .string t125), (47, .string t126), (25, .string ((strOfNums y116) ++ (⟨#[110]⟩ : ByteArray))), (28, .string (((strOfNums y116) ++ (⟨#[110]⟩ : ByteArray)) ++ t119)), (29, .string ((((strOfNums y116) ++ (⟨#[110]⟩ : ByteArray)) ++ t119) ++ (⟨#[95]⟩ : ByteArray))), (33, .string ((⟨#[45]⟩ : ByteArray) ++ t120)), (35, .bool true), (36, .int .u8 t113), (39, .int .u64 ji8), (40, .int .u64 (IntKind.u64.wrap ((ji8) - 1))), (44, .string a1), (45, .int .u64 ji8), (46, .int .u64 (IntKind.u64.wrap ((ji8) - 1)))]) (fun s_ w' => (Kd.R (Kd.int .u8) 5 w' w.heap.size (fun k_ => some k_ ≠ (s_.2 : Value).ownBlock) s_.1 y116) ∧ (Kd.R (Kd.int .u8) 5 w' w.heap.size (fun k_ => some k_ ≠ (s_.1 : Value).ownBlock) s_.2 y122) ∧ (Below w.heap.size w w')) ?_ ?_
                        rotate_left
                        · intro hJ1_2_5_10_12_15_19_25
                          refine join_ (σ := Value × Value) 7 #[true, true, true, true, true, true, true, true, true, true, true, true, true, true, true, true, true, true, true, false, false, false, true, true, true, false, false, false, false] (fun s_ => [(23, s_.1), (24, .string (strOfNums y116)), (27, .string t119), (32, .string t120), (34, .bool true), (37, s_.2), (38, .string (strOfNums y122)), (25, .string ((strOfNums y116) ++ (⟨#[110]⟩ : ByteArray))), (28, .string (((strOfNums y116) ++ (⟨#[110]⟩ : ByteArray)) ++ t119)), (29, .string ((((strOfNums y116) ++ (⟨#[110]⟩ : ByteArray)) ++ t119) ++ (⟨#[95]⟩ : ByteArray))), (33, .string ((⟨#[45]⟩ : ByteArray) ++ t120)), (35, .bool true), (36, .int .u8 t113), (39, .int .u64 ji8), (40, .int .u64 (IntKind.u64.wrap ((ji8) - 1))), (44, .string a1), (45, .int .u64 ji8), (46, .int .u64 (IntKind.u64.wrap ((ji8) - 1)))]) (fun s_ w' => (Kd.R (Kd.int .u8) 5 w' w.heap.size (fun k_ => some k_ ≠ (s_.2 : Value).ownBlock) s_.1 y116) ∧ (Kd.R (Kd.int .u8) 5 w' w.heap.size (fun k_ => some k_ ≠ (s_.1 : Value).ownBlock) s_.2 y122) ∧ (Below w.heap.size w w')) ?_ ?_
                          rotate_left
                          · intro hJ1_2_5_10_12_15_16
                            refine join_ (σ := Value × Value) 7 #[true, true, true, true, true, true, true, true, true, true, true, true, true, true, true, true, false, true, true, true, false, false, true, true, true, false, false, false, false] (fun s_ => [(23, s_.1), (24, .string (strOfNums y116)), (27, .string t119), (32, .string t120), (34, .bool true), (37, s_.2), (41, .string t125), (25, .string ((strOfNums y116) ++ (⟨#[110]⟩ : ByteArray))), (28, .string (((strOfNums y116) ++ (⟨#[110]⟩ : ByteArray)) ++ t119)), (29, .string ((((strOfNums y116) ++ (⟨#[110]⟩ : ByteArray)) ++ t119) ++ (⟨#[95]⟩ : ByteArray))), (33, .string ((⟨#[45]⟩ : ByteArray) ++ t120)), (35, .bool true), (36, .int .u8 t113), (39, .int .u64 ji8), (40, .int .u64 (IntKind.u64.wrap ((ji8) - 1))), (44, .string a1), (45, .int .u64 ji8), (46, .int .u64 (IntKind.u64.wrap ((ji8) - 1)))]) (fun s_ w' => (Kd.R (Kd.int .u8) 5 w' w.heap.size (fun k_ => some k_ ≠ (s_.2 : Value).ownBlock) s_.1 y116) ∧ (Kd.R (Kd.int .u8) 5 w' w.heap.size (fun k_ => some k_ ≠ (s_.1 : Value).ownBlock) s_.2 y122) ∧ (Below w.heap.size w w')) ?_ ?_
                            rotate_left
                            · intro hJ1_2_5_10_12_15_19
                              refine join_ (σ := Value) 7 #[true, true, true, true, true, true, true, true, true, true, true, true, true, true, true, false, false, true, true, true, false, false, true, true, true, true, false, false, false] (fun s_ => [(23, s_), (24, .string (strOfNums y116)), (27, .string t119), (32, .string t120), (34, .bool true), (41, .string t125), (47, .string t126), (25, .string ((strOfNums y116) ++ (⟨#[110]⟩ : ByteArray))), (28, .string (((strOfNums y116) ++ (⟨#[110]⟩ : ByteArray)) ++ t119)), (29, .string ((((strOfNums y116) ++ (⟨#[110]⟩ : ByteArray)) ++ t119) ++ (⟨#[95]⟩ : ByteArray))), (33, .string ((⟨#[45]⟩ : ByteArray) ++ t120)), (35, .bool true), (36, .int .u8 t113), (39, .int .u64 ji8), (40, .int .u64 (IntKind.u64.wrap ((ji8) - 1))), (44, .string a1), (45, .int .u64 ji8), (46, .int .u64 (IntKind.u64.wrap ((ji8) - 1)))]) (fun s_ w' => (Kd.R (Kd.int .u8) 5 w' w.heap.size (fun _ => True) s_ y116) ∧ (Below w.heap.size w w')) ?_ ?_
                              rotate_left
                              · intro hJ1_2_5_10_12_19_25
                                refine join_ (σ := Value × Value) 8 #[true, true, true, true, true, true, true, true, true, true, true, true, true, true, true, true, false, true, true, false, false, false, true, true, true, false, false, false, false] (fun s_ => [(23, s_.1), (24, .string (strOfNums y116)), (27, .string t119), (32, .string t120), (34, .bool true), (37, s_.2), (25, .string ((strOfNums y116) ++ (⟨#[110]⟩ : ByteArray))), (28, .string (((strOfNums y116) ++ (⟨#[110]⟩ : ByteArray)) ++ t119)), (29, .string ((((strOfNums y116) ++ (⟨#[110]⟩ : ByteArray)) ++ t119) ++ (⟨#[95]⟩ : ByteArray))), (33, .string ((⟨#[45]⟩ : ByteArray) ++ t120)), (35, .bool true), (36, .int .u8 t113), (39, .int .u64 ji8), (40, .int .u64 (IntKind.u64.wrap ((ji8) - 1))), (44, .string a1), (45, .int .u64 ji8), (46, .int .u64 (IntKind.u64.wrap ((ji8) - 1)))]) (fun s_ w' => (Kd.R (Kd.int .u8) 5 w' w.heap.size (fun k_ => some k_ ≠ (s_.2 : Value).ownBlock) s_.1 y116) ∧ (Kd.R (Kd.int .u8) 5 w' w.heap.size (fun k_ => some k_ ≠ (s_.1 : Value).ownBlock) s_.2 y122) ∧ (Below w.heap.size w w')) ?_ ?_
                                rotate_left
                                · intro hJ1_2_5_10_12_15
                                  refine join_ (σ := Value) 8 #[true, true, true, true, true, true, true, true, true, true, true, true, true, true, true, false, false, true, true, true, false, false, true, true, true, false, false, false, false] (fun s_ => [(23, s_), (24, .string (strOfNums y116)), (27, .string t119), (32, .string t120), (34, .bool true), (41, .string t125), (25, .string ((strOfNums y116) ++ (⟨#[110]⟩ : ByteArray))), (28, .string (((strOfNums y116) ++ (⟨#[110]⟩ : ByteArray)) ++ t119)), (29, .string ((((strOfNums y116) ++ (⟨#[110]⟩ : ByteArray)) ++ t119) ++ (⟨#[95]⟩ : ByteArray))), (33, .string ((⟨#[45]⟩ : ByteArray) ++ t120)), (35, .bool true), (36, .int .u8 t113), (39, .int .u64 ji8), (40, .int .u64 (IntKind.u64.wrap ((ji8) - 1))), (44, .string a1), (45, .int .u64 ji8), (46, .int .u64 (IntKind.u64.wrap ((ji8) - 1)))]) (fun s_ w' => (Kd.R (Kd.int .u8) 5 w' w.heap.size (fun _ => True) s_ y116) ∧ (Below w.heap.size w w')) ?_ ?_
                                  rotate_left
                                  · intro hJ1_2_5_10_12_19
                                    refine join_ (σ := Value) 9 #[true, true, true, true, true, true, true, true, true, true, true, true, true, true, true, false, false, true, true, false, false, false, true, true, true, false, false, false, false] (fun s_ => [(23, s_), (24, .string (strOfNums y116)), (27, .string t119), (32, .string t120), (34, .bool true), (25, .string ((strOfNums y116) ++ (⟨#[110]⟩ : ByteArray))), (28, .string (((strOfNums y116) ++ (⟨#[110]⟩ : ByteArray)) ++ t119)), (29, .string ((((strOfNums y116) ++ (⟨#[110]⟩ : ByteArray)) ++ t119) ++ (⟨#[95]⟩ : ByteArray))), (33, .string ((⟨#[45]⟩ : ByteArray) ++ t120)), (35, .bool true), (36, .int .u8 t113), (39, .int .u64 ji8), (40, .int .u64 (IntKind.u64.wrap ((ji8) - 1))), (44, .string a1), (45, .int .u64 ji8), (46, .int .u64 (IntKind.u64.wrap ((ji8) - 1)))]) (fun s_ w' => (Kd.R (Kd.int .u8) 5 w' w.heap.size (fun _ => True) s_ y116) ∧ (Below w.heap.size w w')) ?_ ?_
                                    rotate_left
                                    · intro hJ1_2_5_10_12
                                      refine join_ (σ := Value) 17 #[true, true, true, true, true, true, true, true, true, true, true, true, false, false, false, false, false, false, false, false, false, false, false, false, false, false, false, false, false] (fun s_ => [(23, s_), (24, .string (strOfNums y116)), (27, .string t119), (32, .string t120), (25, .string ((strOfNums y116) ++ (⟨#[110]⟩ : ByteArray))), (28, .string (((strOfNums y116) ++ (⟨#[110]⟩ : ByteArray)) ++ t119)), (29, .string ((((strOfNums y116) ++ (⟨#[110]⟩ : ByteArray)) ++ t119) ++ (⟨#[95]⟩ : ByteArray))), (33, .string ((⟨#[45]⟩ : ByteArray) ++ t120))]) (fun s_ w' => (Kd.R (Kd.int .u8) 5 w' w.heap.size (fun _ => True) s_ y116) ∧ (Below w.heap.size w w')) ?_ ?_
                                      rotate_left
                                      · intro hJ1_2_5_10
                                        refine join_ (σ := Value) 19 #[true, true, true, true, true, true, true, true, true, true, false, false, false, false, false, false, false, false, false, false, false, false, false, false, false, false, false, false, false] (fun s_ => [(23, s_), (24, .string (strOfNums y116)), (27, .string t119), (25, .string ((strOfNums y116) ++ (⟨#[110]⟩ : ByteArray))), (28, .string (((strOfNums y116) ++ (⟨#[110]⟩ : ByteArray)) ++ t119)), (29, .string ((((strOfNums y116) ++ (⟨#[110]⟩ : ByteArray)) ++ t119) ++ (⟨#[95]⟩ : ByteArray)))]) (fun s_ w' => (Kd.R (Kd.int .u8) 5 w' w.heap.size (fun _ => True) s_ y116) ∧ (Below w.heap.size w w')) ?_ ?_
                                        rotate_left
                                        · intro hJ1_2_5
                                          refine join_ (σ := Value) 21 #[true, true, false, false, true, true, false, false, true, true, true, true, false, false, false, false, false, false, false, false, false, false, false, false, false, false, false, false, false] (fun s_ => [(23, s_), (27, .string t119), (32, .string t120), (33, .string ((⟨#[45]⟩ : ByteArray) ++ t120))]) (fun s_ w' => (Kd.R (Kd.int .u8) 5 w' w.heap.size (fun _ => True) s_ y116) ∧ (Below w.heap.size w w')) ?_ ?_
                                          rotate_left
                                          · intro hJ1_5_10
                                            refine join_ (σ := Value) 22 #[true, true, true, true, true, false, false, false, true, true, false, false, false, false, false, false, false, false, false, false, false, false, false, false, false, false, false, false, false] (fun s_ => [(23, s_), (24, .string (strOfNums y116)), (25, .string ((strOfNums y116) ++ (⟨#[110]⟩ : ByteArray)))]) (fun s_ w' => (Kd.R (Kd.int .u8) 5 w' w.heap.size (fun _ => True) s_ y116) ∧ (Below w.heap.size w w')) ?_ ?_
                                            rotate_left
                                            · intro hJ1_2
                                              refine join_ (σ := Value) 23 #[true, true, false, false, true, true, false, false, true, true, false, false, false, false, false, false, false, false, false, false, false, false, false, false, false, false, false, false, false] (fun s_ => [(23, s_), (27, .string t119)]) (fun s_ w' => (Kd.R (Kd.int .u8) 5 w' w.heap.size (fun _ => True) s_ y116) ∧ (Below w.heap.size w w')) ?_ ?_
                                              rotate_left
                                              · intro hJ1_5
                                                refine join_ (σ := Unit) 22 #[true, false, false, false, true, true, false, false, true, true, true, true, false, false, false, false, false, false, false, false, false, false, false, false, false, false, false, false, false] (fun s_ => [(27, .string t119), (32, .string t120), (33, .string ((⟨#[45]⟩ : ByteArray) ++ t120))]) (fun s_ w' => (Below w.heap.size w w')) ?_ ?_
                                                rotate_left
                                                · intro hJ5_10
                                                  refine join_ (σ := Value) 24 #[true, true, false, false, true, false, false, false, true, true, false, false, false, false, false, false, false, false, false, false, false, false, false, false, false, false, false, false, false] (fun s_ => [(23, s_)]) (fun s_ w' => (Kd.R (Kd.int .u8) 5 w' w.heap.size (fun _ => True) s_ y116) ∧ (Below w.heap.size w w')) ?_ ?_
                                                  rotate_left
                                                  · intro hJ1
                                                    refine join_ (σ := Unit) 24 #[true, false, false, false, true, true, false, false, true, true, false, false, false, false, false, false, false, false, false, false, false, false, false, false, false, false, false, false, false] (fun s_ => [(27, .string t119)]) (fun s_ w' => (Below w.heap.size w w')) ?_ ?_
                                                    rotate_left
                                                    · intro hJ5
                                                      refine two_ (i := 1) (j := 5) (Ni := some 23) (Nj := some 27) #[true, true, false, false, true, false, false, false, true, true, false, false, false, false, false, false, false, false, false, false, false, false, false, false, false, false, false, false, false] #[true, false, false, false, true, true, false, false, true, true, false, false, false, false, false, false, false, false, false, false, false, false, false, false, false, false, false, false, false] rfl rfl rfl rfl (two_of HT_.out (by kernel_rfl)) (by decide) (by decide) (fun K hK => ?_) (fun K hK => ?_)
                                                      · skip
                                                        refine Kd.R_lit_step (Kd.int .u8) _ 5 ?hg (N := 23) ?hd (xs := ([t113] : List Int)) (inner := [.int .u8 t113]) (ok := fun _ => True) (okp := fun _ => True) ?hr ?hp (fun _ hk => hk) trivial (Below.refl _ _) (Nat.le_refl _) (by simp) ?_; (case hd => rfl); (case hg => rfl); (case hr => first | (go_simp; done) | (go_simp; rfl)); (case hp => exact (Reps.one (show Kd.M (Kd.int .u8) _ _ _ t113 [.int .u8 t113] from rfl) (Reps.none _ _)))
                                                        intro v117 w23 ho24 hb hg_ hnew_
                                                        clear hg_ hnew_
                                                        (first | rw [← Ny116.out] at ho24 | (simp only [Int.reduceToNat] at ho24; rw [← Ny116.out] at ho24))
                                                        have n0_ := Aside0.mk (Kd.R_lower ho24 (below_size (by repeat (first | (with_reducible first | exact HB.out | apply below_alloc | apply pw_below_drewN | apply below_drew1) | exact HB.out | exact Below.refl _ _))))
                                                        have n1_ := Aside0.mk (below_step (by repeat (first | (with_reducible first | exact HB.out | apply below_alloc | apply pw_below_drewN | apply below_drew1) | exact HB.out | exact Below.refl _ _)) hb)
                                                        clear HB
                                                        have HO118 := n0_
                                                        have HB := n1_
                                                        clear n0_ n1_
                                                        clear hb ho24
                                                        refine hK.out _ _ trivial (fun hHeld => ?_)
                                                        clear hK K
                                                        refine norm_ (a' := ?_) ?_ ?_
                                                        rotate_left
                                                        · show Act.put _ (some 23) _ = _
                                                          simp only [Act.put, List.setIfInBounds_toArray, List.set_cons_zero, List.set_cons_succ, i64_w, i32_w]
                                                          rfl
                                                        exact norm_ (by first | (simp only [putAll, Act.put, List.setIfInBounds_toArray, List.set_cons_zero, List.set_cons_succ]; done) | (simp only [putAll, Act.put, List.setIfInBounds_toArray, List.set_cons_zero, List.set_cons_succ]; rfl)) (hJ1 (v117) _ ⟨(by (with_reducible repeat (first | apply Kd.R_alloc | apply Kd.R_drewN | apply Kd.R_drew)); exact HO118.out), (by repeat (first | (with_reducible first | exact HB.out | apply below_alloc | apply pw_below_drewN | apply below_drew1) | exact HB.out | exact Below.refl _ _))⟩)
                                                      · skip
                                                        refine goes_ Tryd.func15 (by kernel_rfl) rfl #[.int .u64 ji8] (by rfl) rfl rfl (by (try simp only [List.map_toArray, List.map_cons, List.map_nil]); first | done | (simp only [hji8]; rfl) | rfl | (simp only [List.length_drop, List.length_take]; rfl)) ?_
                                                        with_reducible refine (spec_RustHex.calls k ji8 t119 _ A10.out).mono ?_
                                                        rintro e w23 ⟨rfl, hb⟩
                                                        refine ⟨_, rfl, ?_⟩
                                                        have n0_ := Aside0.mk (below_step (by repeat (first | (with_reducible first | exact HB.out | apply below_alloc | apply pw_below_drewN | apply below_drew1) | exact HB.out | exact Below.refl _ _)) hb)
                                                        clear HB
                                                        have HB := n0_
                                                        clear n0_
                                                        (try clear hb)
                                                        (try clear hb2)
                                                        (try clear hk)
                                                        (try clear hi)
                                                        refine hK.out _ _ trivial (fun hHeld => ?_)
                                                        clear hK K
                                                        refine norm_ (a' := ?_) ?_ ?_
                                                        rotate_left
                                                        · show Act.put _ (some 27) _ = _
                                                          simp only [Act.put, List.setIfInBounds_toArray, List.set_cons_zero, List.set_cons_succ, i64_w, i32_w]
                                                          rfl
                                                        exact norm_ (by first | (simp only [putAll, Act.put, List.setIfInBounds_toArray, List.set_cons_zero, List.set_cons_succ]; done) | (simp only [putAll, Act.put, List.setIfInBounds_toArray, List.set_cons_zero, List.set_cons_succ]; rfl)) (hJ5 () _ (by repeat (first | (with_reducible first | exact HB.out | apply below_alloc | apply pw_below_drewN | apply below_drew1) | exact HB.out | exact Below.refl _ _)))
                                                    · skip
                                                      rintro _ w24 h0_
                                                      have n0_ : Aside0 (Below w.heap.size w w24) := ⟨h0_⟩
                                                      clear HB
                                                      clear h0_
                                                      have HB := n0_
                                                      clear n0_
                                                      have hHeld := trivial
                                                      refine norm_ (a' := ?_) ?_ ?_
                                                      rotate_left
                                                      · simp only [putAll, Act.put, List.setIfInBounds_toArray, List.set_cons_zero, List.set_cons_succ]
                                                        rfl
                                                      refine two_ (i := 1) (j := 10) (Ni := some 23) (Nj := some 32) #[true, true, false, false, true, true, false, false, true, true, false, false, false, false, false, false, false, false, false, false, false, false, false, false, false, false, false, false, false] #[true, false, false, false, true, true, false, false, true, true, true, false, false, false, false, false, false, false, false, false, false, false, false, false, false, false, false, false, false] rfl rfl rfl rfl (two_of HT_.out (by kernel_rfl)) (by decide) (by decide) (fun K hK => ?_) (fun K hK => ?_)
                                                      · skip
                                                        refine Kd.R_lit_step (Kd.int .u8) _ 5 ?hg (N := 23) ?hd (xs := ([t113] : List Int)) (inner := [.int .u8 t113]) (ok := fun _ => True) (okp := fun _ => True) ?hr ?hp (fun _ hk => hk) trivial (Below.refl _ _) (Nat.le_refl _) (by simp) ?_; (case hd => rfl); (case hg => rfl); (case hr => first | (go_simp; done) | (go_simp; rfl)); (case hp => exact (Reps.one (show Kd.M (Kd.int .u8) _ _ _ t113 [.int .u8 t113] from rfl) (Reps.none _ _)))
                                                        intro v117 w25 ho26 hb hg_ hnew_
                                                        clear hg_ hnew_
                                                        (first | rw [← Ny116.out] at ho26 | (simp only [Int.reduceToNat] at ho26; rw [← Ny116.out] at ho26))
                                                        have n0_ := Aside0.mk (Kd.R_lower ho26 (below_size (by repeat (first | (with_reducible first | exact HB.out | apply below_alloc | apply pw_below_drewN | apply below_drew1) | exact HB.out | exact Below.refl _ _))))
                                                        have n1_ := Aside0.mk (below_step (by repeat (first | (with_reducible first | exact HB.out | apply below_alloc | apply pw_below_drewN | apply below_drew1) | exact HB.out | exact Below.refl _ _)) hb)
                                                        clear HB
                                                        have HO118 := n0_
                                                        have HB := n1_
                                                        clear n0_ n1_
                                                        clear hb ho26
                                                        refine hK.out _ _ trivial (fun hHeld => ?_)
                                                        clear hK K
                                                        refine norm_ (a' := ?_) ?_ ?_
                                                        rotate_left
                                                        · show Act.put _ (some 23) _ = _
                                                          simp only [Act.put, List.setIfInBounds_toArray, List.set_cons_zero, List.set_cons_succ, i64_w, i32_w]
                                                          rfl
                                                        exact norm_ (by first | (simp only [putAll, Act.put, List.setIfInBounds_toArray, List.set_cons_zero, List.set_cons_succ]; done) | (simp only [putAll, Act.put, List.setIfInBounds_toArray, List.set_cons_zero, List.set_cons_succ]; rfl)) (hJ1_5 (v117) _ ⟨(by (with_reducible repeat (first | apply Kd.R_alloc | apply Kd.R_drewN | apply Kd.R_drew)); exact HO118.out), (by repeat (first | (with_reducible first | exact HB.out | apply below_alloc | apply pw_below_drewN | apply below_drew1) | exact HB.out | exact Below.refl _ _))⟩)
                                                      · skip
                                                        refine goes_ Tryd.func24 (by kernel_rfl) rfl #[.int .u64 ji8] (by rfl) rfl rfl (by (try simp only [List.map_toArray, List.map_cons, List.map_nil]); first | done | (simp only [hji8]; rfl) | rfl | (simp only [List.length_drop, List.length_take]; rfl)) ?_
                                                        with_reducible refine (spec_RustDecimal.calls k ji8 t120 _ A13.out).mono ?_
                                                        rintro e w25 ⟨rfl, hb⟩
                                                        refine ⟨_, rfl, ?_⟩
                                                        have n0_ := Aside0.mk (below_step (by repeat (first | (with_reducible first | exact HB.out | apply below_alloc | apply pw_below_drewN | apply below_drew1) | exact HB.out | exact Below.refl _ _)) hb)
                                                        clear HB
                                                        have HB := n0_
                                                        clear n0_
                                                        (try clear hb)
                                                        (try clear hb2)
                                                        (try clear hk)
                                                        (try clear hi)
                                                        refine hK.out _ _ trivial (fun hHeld => ?_)
                                                        clear hK K
                                                        refine norm_ (a' := ?_) ?_ ?_
                                                        rotate_left
                                                        · show Act.put _ (some 32) _ = _
                                                          simp only [Act.put, List.setIfInBounds_toArray, List.set_cons_zero, List.set_cons_succ, i64_w, i32_w]
                                                          rfl
                                                        refine pure_ (i := 11) (N := some 33) (v := ?_) (a' := ?_) #[true, false, false, false, true, true, false, false, true, true, true, true, false, false, false, false, false, false, false, false, false, false, false, false, false, false, false, false, false] rfl rfl (any_of HT_.out (by kernel_rfl)) (fun _ _ _ h => h) (Or.inl ⟨by rfl, ?_⟩) ?_ ?_
                                                        rotate_left
                                                        · intro w'
                                                          go_simp
                                                          with_reducible rfl
                                                        rotate_left
                                                        · simp only [Act.put, List.setIfInBounds_toArray, List.set_cons_zero, List.set_cons_succ, i64_w, i32_w]
                                                          rfl
                                                        exact norm_ (by first | (simp only [putAll, Act.put, List.setIfInBounds_toArray, List.set_cons_zero, List.set_cons_succ]; done) | (simp only [putAll, Act.put, List.setIfInBounds_toArray, List.set_cons_zero, List.set_cons_succ]; rfl)) (hJ5_10 () _ (by repeat (first | (with_reducible first | exact HB.out | apply below_alloc | apply pw_below_drewN | apply below_drew1) | exact HB.out | exact Below.refl _ _)))
                                                  · skip
                                                    rintro v117 w25 ⟨h0_, h1_⟩
                                                    have n0_ : Aside0 (Kd.R (Kd.int .u8) 5 w25 w.heap.size (fun _ => True) v117 y116) := ⟨h0_⟩
                                                    have n1_ : Aside0 (Below w.heap.size w w25) := ⟨h1_⟩
                                                    clear HB
                                                    clear h0_ h1_
                                                    have HO118 := n0_
                                                    have HB := n1_
                                                    clear n0_ n1_
                                                    have hHeld := trivial
                                                    refine norm_ (a' := ?_) ?_ ?_
                                                    rotate_left
                                                    · simp only [putAll, Act.put, List.setIfInBounds_toArray, List.set_cons_zero, List.set_cons_succ]
                                                      rfl
                                                    refine two_ (i := 2) (j := 5) (Ni := some 24) (Nj := some 27) #[true, true, true, false, true, false, false, false, true, true, false, false, false, false, false, false, false, false, false, false, false, false, false, false, false, false, false, false, false] #[true, true, false, false, true, true, false, false, true, true, false, false, false, false, false, false, false, false, false, false, false, false, false, false, false, false, false, false, false] rfl rfl rfl rfl (two_of HT_.out (by kernel_rfl)) (by decide) (by decide) (fun K hK => ?_) (fun K hK => ?_)
                                                    · skip
                                                      have hcv26 := own_string (P := Tryd.prog) Tryd.underlying27 Tryd.underlying5 Tryd.underlying9 (Kd.own_of_R HO118.out)
                                                      refine value_ (w1 := ?_) (v := ?_) (by rfl) rfl ?_ ?_
                                                      rotate_left 2
                                                      · go_simp
                                                        constructor
                                                        · rfl
                                                        · rfl
                                                      clear hcv26
                                                      refine hK.out _ _ trivial (fun hHeld => ?_)
                                                      clear hK K
                                                      refine norm_ (a' := ?_) ?_ ?_
                                                      rotate_left
                                                      · show Act.put _ (some 24) _ = _
                                                        simp only [Act.put, List.setIfInBounds_toArray, List.set_cons_zero, List.set_cons_succ, i64_w, i32_w]
                                                        rfl
                                                      refine pure_ (i := 3) (N := some 25) (v := ?_) (a' := ?_) #[true, true, true, true, true, false, false, false, true, true, false, false, false, false, false, false, false, false, false, false, false, false, false, false, false, false, false, false, false] rfl rfl (any_of HT_.out (by kernel_rfl)) (fun _ _ _ h => h) (Or.inl ⟨by rfl, ?_⟩) ?_ ?_
                                                      rotate_left
                                                      · intro w'
                                                        go_simp
                                                        with_reducible rfl
                                                      rotate_left
                                                      · simp only [Act.put, List.setIfInBounds_toArray, List.set_cons_zero, List.set_cons_succ, i64_w, i32_w]
                                                        rfl
                                                      exact norm_ (by first | (simp only [putAll, Act.put, List.setIfInBounds_toArray, List.set_cons_zero, List.set_cons_succ]; done) | (simp only [putAll, Act.put, List.setIfInBounds_toArray, List.set_cons_zero, List.set_cons_succ]; rfl)) (hJ1_2 (v117) _ ⟨(by (with_reducible repeat (first | apply Kd.R_alloc | apply Kd.R_drewN | apply Kd.R_drew)); exact HO118.out), (by repeat (first | (with_reducible first | exact HB.out | apply below_alloc | apply pw_below_drewN | apply below_drew1) | exact HB.out | exact Below.refl _ _))⟩)
                                                    · skip
                                                      refine goes_ Tryd.func15 (by kernel_rfl) rfl #[.int .u64 ji8] (by rfl) rfl rfl (by (try simp only [List.map_toArray, List.map_cons, List.map_nil]); first | done | (simp only [hji8]; rfl) | rfl | (simp only [List.length_drop, List.length_take]; rfl)) ?_
                                                      with_reducible refine (spec_RustHex.calls k ji8 t119 _ A10.out).mono ?_
                                                      rintro e w26 ⟨rfl, hb⟩
                                                      refine ⟨_, rfl, ?_⟩
                                                      have n0_ := Aside0.mk (Kd.R_below (by (with_reducible repeat (first | apply Kd.R_alloc | apply Kd.R_drewN | apply Kd.R_drew)); exact HO118.out) hb)
                                                      have n1_ := Aside0.mk (below_step (by repeat (first | (with_reducible first | exact HB.out | apply below_alloc | apply pw_below_drewN | apply below_drew1) | exact HB.out | exact Below.refl _ _)) hb)
                                                      clear HO118
                                                      clear HB
                                                      have HO118 := n0_
                                                      have HB := n1_
                                                      clear n0_ n1_
                                                      (try clear hb)
                                                      (try clear hb2)
                                                      (try clear hk)
                                                      (try clear hi)
                                                      refine hK.out _ _ trivial (fun hHeld => ?_)
                                                      clear hK K
                                                      refine norm_ (a' := ?_) ?_ ?_
                                                      rotate_left
                                                      · show Act.put _ (some 27) _ = _
                                                        simp only [Act.put, List.setIfInBounds_toArray, List.set_cons_zero, List.set_cons_succ, i64_w, i32_w]
                                                        rfl
                                                      exact norm_ (by first | (simp only [putAll, Act.put, List.setIfInBounds_toArray, List.set_cons_zero, List.set_cons_succ]; done) | (simp only [putAll, Act.put, List.setIfInBounds_toArray, List.set_cons_zero, List.set_cons_succ]; rfl)) (hJ1_5 (v117) _ ⟨(by (with_reducible repeat (first | apply Kd.R_alloc | apply Kd.R_drewN | apply Kd.R_drew)); exact HO118.out), (by repeat (first | (with_reducible first | exact HB.out | apply below_alloc | apply pw_below_drewN | apply below_drew1) | exact HB.out | exact Below.refl _ _))⟩)
                                                · skip
                                                  rintro _ w25 h0_
                                                  have n0_ : Aside0 (Below w.heap.size w w25) := ⟨h0_⟩
                                                  clear HB
                                                  clear h0_
                                                  have HB := n0_
                                                  clear n0_
                                                  have hHeld := trivial
                                                  refine norm_ (a' := ?_) ?_ ?_
                                                  rotate_left
                                                  · simp only [putAll, Act.put, List.setIfInBounds_toArray, List.set_cons_zero, List.set_cons_succ]
                                                    rfl
                                                  refine one_ (i := 1) (N := some 23) #[true, true, false, false, true, true, false, false, true, true, true, true, false, false, false, false, false, false, false, false, false, false, false, false, false, false, false, false, false] rfl rfl (one_of HT_.out (by kernel_rfl)) (by decide) (fun K hK => ?_)
                                                  refine Kd.R_lit_step (Kd.int .u8) _ 5 ?hg (N := 23) ?hd (xs := ([t113] : List Int)) (inner := [.int .u8 t113]) (ok := fun _ => True) (okp := fun _ => True) ?hr ?hp (fun _ hk => hk) trivial (Below.refl _ _) (Nat.le_refl _) (by simp) ?_; (case hd => rfl); (case hg => rfl); (case hr => first | (go_simp; done) | (go_simp; rfl)); (case hp => exact (Reps.one (show Kd.M (Kd.int .u8) _ _ _ t113 [.int .u8 t113] from rfl) (Reps.none _ _)))
                                                  intro v117 w26 ho27 hb hg_ hnew_
                                                  clear hg_ hnew_
                                                  (first | rw [← Ny116.out] at ho27 | (simp only [Int.reduceToNat] at ho27; rw [← Ny116.out] at ho27))
                                                  have n0_ := Aside0.mk (Kd.R_lower ho27 (below_size (by repeat (first | (with_reducible first | exact HB.out | apply below_alloc | apply pw_below_drewN | apply below_drew1) | exact HB.out | exact Below.refl _ _))))
                                                  have n1_ := Aside0.mk (below_step (by repeat (first | (with_reducible first | exact HB.out | apply below_alloc | apply pw_below_drewN | apply below_drew1) | exact HB.out | exact Below.refl _ _)) hb)
                                                  clear HB
                                                  have HO118 := n0_
                                                  have HB := n1_
                                                  clear n0_ n1_
                                                  clear hb ho27
                                                  refine hK.out _ _ trivial (fun hHeld => ?_)
                                                  clear hK K
                                                  refine norm_ (a' := ?_) ?_ ?_
                                                  rotate_left
                                                  · show Act.put _ (some 23) _ = _
                                                    simp only [Act.put, List.setIfInBounds_toArray, List.set_cons_zero, List.set_cons_succ, i64_w, i32_w]
                                                    rfl
                                                  exact norm_ (by first | (simp only [putAll, Act.put, List.setIfInBounds_toArray, List.set_cons_zero, List.set_cons_succ]; done) | (simp only [putAll, Act.put, List.setIfInBounds_toArray, List.set_cons_zero, List.set_cons_succ]; rfl)) (hJ1_5_10 (v117) _ ⟨(by (with_reducible repeat (first | apply Kd.R_alloc | apply Kd.R_drewN | apply Kd.R_drew)); exact HO118.out), (by repeat (first | (with_reducible first | exact HB.out | apply below_alloc | apply pw_below_drewN | apply below_drew1) | exact HB.out | exact Below.refl _ _))⟩)
                                              · skip
                                                rintro v117 w26 ⟨h0_, h1_⟩
                                                have n0_ : Aside0 (Kd.R (Kd.int .u8) 5 w26 w.heap.size (fun _ => True) v117 y116) := ⟨h0_⟩
                                                have n1_ : Aside0 (Below w.heap.size w w26) := ⟨h1_⟩
                                                clear HB
                                                clear h0_ h1_
                                                have HO118 := n0_
                                                have HB := n1_
                                                clear n0_ n1_
                                                have hHeld := trivial
                                                refine norm_ (a' := ?_) ?_ ?_
                                                rotate_left
                                                · simp only [putAll, Act.put, List.setIfInBounds_toArray, List.set_cons_zero, List.set_cons_succ]
                                                  rfl
                                                refine two_ (i := 2) (j := 10) (Ni := some 24) (Nj := some 32) #[true, true, true, false, true, true, false, false, true, true, false, false, false, false, false, false, false, false, false, false, false, false, false, false, false, false, false, false, false] #[true, true, false, false, true, true, false, false, true, true, true, false, false, false, false, false, false, false, false, false, false, false, false, false, false, false, false, false, false] rfl rfl rfl rfl (two_of HT_.out (by kernel_rfl)) (by decide) (by decide) (fun K hK => ?_) (fun K hK => ?_)
                                                · skip
                                                  have hcv27 := own_string (P := Tryd.prog) Tryd.underlying27 Tryd.underlying5 Tryd.underlying9 (Kd.own_of_R HO118.out)
                                                  refine value_ (w1 := ?_) (v := ?_) (by rfl) rfl ?_ ?_
                                                  rotate_left 2
                                                  · go_simp
                                                    constructor
                                                    · rfl
                                                    · rfl
                                                  clear hcv27
                                                  refine hK.out _ _ trivial (fun hHeld => ?_)
                                                  clear hK K
                                                  refine norm_ (a' := ?_) ?_ ?_
                                                  rotate_left
                                                  · show Act.put _ (some 24) _ = _
                                                    simp only [Act.put, List.setIfInBounds_toArray, List.set_cons_zero, List.set_cons_succ, i64_w, i32_w]
                                                    rfl
                                                  refine pure_ (i := 3) (N := some 25) (v := ?_) (a' := ?_) #[true, true, true, true, true, true, false, false, true, true, false, false, false, false, false, false, false, false, false, false, false, false, false, false, false, false, false, false, false] rfl rfl (any_of HT_.out (by kernel_rfl)) (fun _ _ _ h => h) (Or.inl ⟨by rfl, ?_⟩) ?_ ?_
                                                  rotate_left
                                                  · intro w'
                                                    go_simp
                                                    with_reducible rfl
                                                  rotate_left
                                                  · simp only [Act.put, List.setIfInBounds_toArray, List.set_cons_zero, List.set_cons_succ, i64_w, i32_w]
                                                    rfl
                                                  refine pure_ (i := 6) (N := some 28) (v := ?_) (a' := ?_) #[true, true, true, true, true, true, true, false, true, true, false, false, false, false, false, false, false, false, false, false, false, false, false, false, false, false, false, false, false] rfl rfl (any_of HT_.out (by kernel_rfl)) (fun _ _ _ h => h) (Or.inl ⟨by rfl, ?_⟩) ?_ ?_
                                                  rotate_left
                                                  · intro w'
                                                    go_simp
                                                    with_reducible rfl
                                                  rotate_left
                                                  · simp only [Act.put, List.setIfInBounds_toArray, List.set_cons_zero, List.set_cons_succ, i64_w, i32_w]
                                                    rfl
                                                  refine pure_ (i := 7) (N := some 29) (v := ?_) (a' := ?_) #[true, true, true, true, true, true, true, true, true, true, false, false, false, false, false, false, false, false, false, false, false, false, false, false, false, false, false, false, false] rfl rfl (any_of HT_.out (by kernel_rfl)) (fun _ _ _ h => h) (Or.inl ⟨by rfl, ?_⟩) ?_ ?_
                                                  rotate_left
                                                  · intro w'
                                                    go_simp
                                                    with_reducible rfl
                                                  rotate_left
                                                  · simp only [Act.put, List.setIfInBounds_toArray, List.set_cons_zero, List.set_cons_succ, i64_w, i32_w]
                                                    rfl
                                                  exact norm_ (by first | (simp only [putAll, Act.put, List.setIfInBounds_toArray, List.set_cons_zero, List.set_cons_succ]; done) | (simp only [putAll, Act.put, List.setIfInBounds_toArray, List.set_cons_zero, List.set_cons_succ]; rfl)) (hJ1_2_5 (v117) _ ⟨(by (with_reducible repeat (first | apply Kd.R_alloc | apply Kd.R_drewN | apply Kd.R_drew)); exact HO118.out), (by repeat (first | (with_reducible first | exact HB.out | apply below_alloc | apply pw_below_drewN | apply below_drew1) | exact HB.out | exact Below.refl _ _))⟩)
                                                · skip
                                                  refine goes_ Tryd.func24 (by kernel_rfl) rfl #[.int .u64 ji8] (by rfl) rfl rfl (by (try simp only [List.map_toArray, List.map_cons, List.map_nil]); first | done | (simp only [hji8]; rfl) | rfl | (simp only [List.length_drop, List.length_take]; rfl)) ?_
                                                  with_reducible refine (spec_RustDecimal.calls k ji8 t120 _ A13.out).mono ?_
                                                  rintro e w27 ⟨rfl, hb⟩
                                                  refine ⟨_, rfl, ?_⟩
                                                  have n0_ := Aside0.mk (Kd.R_below (by (with_reducible repeat (first | apply Kd.R_alloc | apply Kd.R_drewN | apply Kd.R_drew)); exact HO118.out) hb)
                                                  have n1_ := Aside0.mk (below_step (by repeat (first | (with_reducible first | exact HB.out | apply below_alloc | apply pw_below_drewN | apply below_drew1) | exact HB.out | exact Below.refl _ _)) hb)
                                                  clear HO118
                                                  clear HB
                                                  have HO118 := n0_
                                                  have HB := n1_
                                                  clear n0_ n1_
                                                  (try clear hb)
                                                  (try clear hb2)
                                                  (try clear hk)
                                                  (try clear hi)
                                                  refine hK.out _ _ trivial (fun hHeld => ?_)
                                                  clear hK K
                                                  refine norm_ (a' := ?_) ?_ ?_
                                                  rotate_left
                                                  · show Act.put _ (some 32) _ = _
                                                    simp only [Act.put, List.setIfInBounds_toArray, List.set_cons_zero, List.set_cons_succ, i64_w, i32_w]
                                                    rfl
                                                  refine pure_ (i := 11) (N := some 33) (v := ?_) (a' := ?_) #[true, true, false, false, true, true, false, false, true, true, true, true, false, false, false, false, false, false, false, false, false, false, false, false, false, false, false, false, false] rfl rfl (any_of HT_.out (by kernel_rfl)) (fun _ _ _ h => h) (Or.inl ⟨by rfl, ?_⟩) ?_ ?_
                                                  rotate_left
                                                  · intro w'
                                                    go_simp
                                                    with_reducible rfl
                                                  rotate_left
                                                  · simp only [Act.put, List.setIfInBounds_toArray, List.set_cons_zero, List.set_cons_succ, i64_w, i32_w]
                                                    rfl
                                                  exact norm_ (by first | (simp only [putAll, Act.put, List.setIfInBounds_toArray, List.set_cons_zero, List.set_cons_succ]; done) | (simp only [putAll, Act.put, List.setIfInBounds_toArray, List.set_cons_zero, List.set_cons_succ]; rfl)) (hJ1_5_10 (v117) _ ⟨(by (with_reducible repeat (first | apply Kd.R_alloc | apply Kd.R_drewN | apply Kd.R_drew)); exact HO118.out), (by repeat (first | (with_reducible first | exact HB.out | apply below_alloc | apply pw_below_drewN | apply below_drew1) | exact HB.out | exact Below.refl _ _))⟩)
                                            · skip
                                              rintro v117 w26 ⟨h0_, h1_⟩
                                              have n0_ : Aside0 (Kd.R (Kd.int .u8) 5 w26 w.heap.size (fun _ => True) v117 y116) := ⟨h0_⟩
                                              have n1_ : Aside0 (Below w.heap.size w w26) := ⟨h1_⟩
                                              clear HB
                                              clear h0_ h1_
                                              have HO118 := n0_
                                              have HB := n1_
                                              clear n0_ n1_
                                              have hHeld := trivial
                                              refine norm_ (a' := ?_) ?_ ?_
                                              rotate_left
                                              · simp only [putAll, Act.put, List.setIfInBounds_toArray, List.set_cons_zero, List.set_cons_succ]
                                                rfl
                                              refine one_ (i := 5) (N := some 27) #[true, true, true, true, true, true, false, false, true, true, false, false, false, false, false, false, false, false, false, false, false, false, false, false, false, false, false, false, false] rfl rfl (one_of HT_.out (by kernel_rfl)) (by decide) (fun K hK => ?_)
                                              refine goes_ Tryd.func15 (by kernel_rfl) rfl #[.int .u64 ji8] (by rfl) rfl rfl (by (try simp only [List.map_toArray, List.map_cons, List.map_nil]); first | done | (simp only [hji8]; rfl) | rfl | (simp only [List.length_drop, List.length_take]; rfl)) ?_
                                              with_reducible refine (spec_RustHex.calls k ji8 t119 _ A10.out).mono ?_
                                              rintro e w27 ⟨rfl, hb⟩
                                              refine ⟨_, rfl, ?_⟩
                                              have n0_ := Aside0.mk (Kd.R_below (by (with_reducible repeat (first | apply Kd.R_alloc | apply Kd.R_drewN | apply Kd.R_drew)); exact HO118.out) hb)
                                              have n1_ := Aside0.mk (below_step (by repeat (first | (with_reducible first | exact HB.out | apply below_alloc | apply pw_below_drewN | apply below_drew1) | exact HB.out | exact Below.refl _ _)) hb)
                                              clear HO118
                                              clear HB
                                              have HO118 := n0_
                                              have HB := n1_
                                              clear n0_ n1_
                                              (try clear hb)
                                              (try clear hb2)
                                              (try clear hk)
                                              (try clear hi)
                                              refine hK.out _ _ trivial (fun hHeld => ?_)
                                              clear hK K
                                              refine norm_ (a' := ?_) ?_ ?_
                                              rotate_left
                                              · show Act.put _ (some 27) _ = _
                                                simp only [Act.put, List.setIfInBounds_toArray, List.set_cons_zero, List.set_cons_succ, i64_w, i32_w]
                                                rfl
                                              refine pure_ (i := 6) (N := some 28) (v := ?_) (a' := ?_) #[true, true, true, true, true, true, true, false, true, true, false, false, false, false, false, false, false, false, false, false, false, false, false, false, false, false, false, false, false] rfl rfl (any_of HT_.out (by kernel_rfl)) (fun _ _ _ h => h) (Or.inl ⟨by rfl, ?_⟩) ?_ ?_
                                              rotate_left
                                              · intro w'
                                                go_simp
                                                with_reducible rfl
                                              rotate_left
                                              · simp only [Act.put, List.setIfInBounds_toArray, List.set_cons_zero, List.set_cons_succ, i64_w, i32_w]
                                                rfl
                                              refine pure_ (i := 7) (N := some 29) (v := ?_) (a' := ?_) #[true, true, true, true, true, true, true, true, true, true, false, false, false, false, false, false, false, false, false, false, false, false, false, false, false, false, false, false, false] rfl rfl (any_of HT_.out (by kernel_rfl)) (fun _ _ _ h => h) (Or.inl ⟨by rfl, ?_⟩) ?_ ?_
                                              rotate_left
                                              · intro w'
                                                go_simp
                                                with_reducible rfl
                                              rotate_left
                                              · simp only [Act.put, List.setIfInBounds_toArray, List.set_cons_zero, List.set_cons_succ, i64_w, i32_w]
                                                rfl
                                              exact norm_ (by first | (simp only [putAll, Act.put, List.setIfInBounds_toArray, List.set_cons_zero, List.set_cons_succ]; done) | (simp only [putAll, Act.put, List.setIfInBounds_toArray, List.set_cons_zero, List.set_cons_succ]; rfl)) (hJ1_2_5 (v117) _ ⟨(by (with_reducible repeat (first | apply Kd.R_alloc | apply Kd.R_drewN | apply Kd.R_drew)); exact HO118.out), (by repeat (first | (with_reducible first | exact HB.out | apply below_alloc | apply pw_below_drewN | apply below_drew1) | exact HB.out | exact Below.refl _ _))⟩)
                                          · skip
                                            rintro v117 w27 ⟨h0_, h1_⟩
                                            have n0_ : Aside0 (Kd.R (Kd.int .u8) 5 w27 w.heap.size (fun _ => True) v117 y116) := ⟨h0_⟩
                                            have n1_ : Aside0 (Below w.heap.size w w27) := ⟨h1_⟩
                                            clear HB
                                            clear h0_ h1_
                                            have HO118 := n0_
                                            have HB := n1_
                                            clear n0_ n1_
                                            have hHeld := trivial
                                            refine norm_ (a' := ?_) ?_ ?_
                                            rotate_left
                                            · simp only [putAll, Act.put, List.setIfInBounds_toArray, List.set_cons_zero, List.set_cons_succ]
                                              rfl
                                            refine one_ (i := 2) (N := some 24) #[true, true, true, false, true, true, false, false, true, true, true, true, false, false, false, false, false, false, false, false, false, false, false, false, false, false, false, false, false] rfl rfl (one_of HT_.out (by kernel_rfl)) (by decide) (fun K hK => ?_)
                                            have hcv28 := own_string (P := Tryd.prog) Tryd.underlying27 Tryd.underlying5 Tryd.underlying9 (Kd.own_of_R HO118.out)
                                            refine value_ (w1 := ?_) (v := ?_) (by rfl) rfl ?_ ?_
                                            rotate_left 2
                                            · go_simp
                                              constructor
                                              · rfl
                                              · rfl
                                            clear hcv28
                                            refine hK.out _ _ trivial (fun hHeld => ?_)
                                            clear hK K
                                            refine norm_ (a' := ?_) ?_ ?_
                                            rotate_left
                                            · show Act.put _ (some 24) _ = _
                                              simp only [Act.put, List.setIfInBounds_toArray, List.set_cons_zero, List.set_cons_succ, i64_w, i32_w]
                                              rfl
                                            refine pure_ (i := 3) (N := some 25) (v := ?_) (a' := ?_) #[true, true, true, true, true, true, false, false, true, true, true, true, false, false, false, false, false, false, false, false, false, false, false, false, false, false, false, false, false] rfl rfl (any_of HT_.out (by kernel_rfl)) (fun _ _ _ h => h) (Or.inl ⟨by rfl, ?_⟩) ?_ ?_
                                            rotate_left
                                            · intro w'
                                              go_simp
                                              with_reducible rfl
                                            rotate_left
                                            · simp only [Act.put, List.setIfInBounds_toArray, List.set_cons_zero, List.set_cons_succ, i64_w, i32_w]
                                              rfl
                                            refine pure_ (i := 6) (N := some 28) (v := ?_) (a' := ?_) #[true, true, true, true, true, true, true, false, true, true, true, true, false, false, false, false, false, false, false, false, false, false, false, false, false, false, false, false, false] rfl rfl (any_of HT_.out (by kernel_rfl)) (fun _ _ _ h => h) (Or.inl ⟨by rfl, ?_⟩) ?_ ?_
                                            rotate_left
                                            · intro w'
                                              go_simp
                                              with_reducible rfl
                                            rotate_left
                                            · simp only [Act.put, List.setIfInBounds_toArray, List.set_cons_zero, List.set_cons_succ, i64_w, i32_w]
                                              rfl
                                            refine pure_ (i := 7) (N := some 29) (v := ?_) (a' := ?_) #[true, true, true, true, true, true, true, true, true, true, true, true, false, false, false, false, false, false, false, false, false, false, false, false, false, false, false, false, false] rfl rfl (any_of HT_.out (by kernel_rfl)) (fun _ _ _ h => h) (Or.inl ⟨by rfl, ?_⟩) ?_ ?_
                                            rotate_left
                                            · intro w'
                                              go_simp
                                              with_reducible rfl
                                            rotate_left
                                            · simp only [Act.put, List.setIfInBounds_toArray, List.set_cons_zero, List.set_cons_succ, i64_w, i32_w]
                                              rfl
                                            exact norm_ (by first | (simp only [putAll, Act.put, List.setIfInBounds_toArray, List.set_cons_zero, List.set_cons_succ]; done) | (simp only [putAll, Act.put, List.setIfInBounds_toArray, List.set_cons_zero, List.set_cons_succ]; rfl)) (hJ1_2_5_10 (v117) _ ⟨(by (with_reducible repeat (first | apply Kd.R_alloc | apply Kd.R_drewN | apply Kd.R_drew)); exact HO118.out), (by repeat (first | (with_reducible first | exact HB.out | apply below_alloc | apply pw_below_drewN | apply below_drew1) | exact HB.out | exact Below.refl _ _))⟩)
                                        · skip
                                          rintro v117 w27 ⟨h0_, h1_⟩
                                          have n0_ : Aside0 (Kd.R (Kd.int .u8) 5 w27 w.heap.size (fun _ => True) v117 y116) := ⟨h0_⟩
                                          have n1_ : Aside0 (Below w.heap.size w w27) := ⟨h1_⟩
                                          clear HB
                                          clear h0_ h1_
                                          have HO118 := n0_
                                          have HB := n1_
                                          clear n0_ n1_
                                          have hHeld := trivial
                                          refine norm_ (a' := ?_) ?_ ?_
                                          rotate_left
                                          · simp only [putAll, Act.put, List.setIfInBounds_toArray, List.set_cons_zero, List.set_cons_succ]
                                            rfl
                                          refine one_ (i := 10) (N := some 32) #[true, true, true, true, true, true, true, true, true, true, true, false, false, false, false, false, false, false, false, false, false, false, false, false, false, false, false, false, false] rfl rfl (one_of HT_.out (by kernel_rfl)) (by decide) (fun K hK => ?_)
                                          refine goes_ Tryd.func24 (by kernel_rfl) rfl #[.int .u64 ji8] (by rfl) rfl rfl (by (try simp only [List.map_toArray, List.map_cons, List.map_nil]); first | done | (simp only [hji8]; rfl) | rfl | (simp only [List.length_drop, List.length_take]; rfl)) ?_
                                          with_reducible refine (spec_RustDecimal.calls k ji8 t120 _ A13.out).mono ?_
                                          rintro e w28 ⟨rfl, hb⟩
                                          refine ⟨_, rfl, ?_⟩
                                          have n0_ := Aside0.mk (Kd.R_below (by (with_reducible repeat (first | apply Kd.R_alloc | apply Kd.R_drewN | apply Kd.R_drew)); exact HO118.out) hb)
                                          have n1_ := Aside0.mk (below_step (by repeat (first | (with_reducible first | exact HB.out | apply below_alloc | apply pw_below_drewN | apply below_drew1) | exact HB.out | exact Below.refl _ _)) hb)
                                          clear HO118
                                          clear HB
                                          have HO118 := n0_
                                          have HB := n1_
                                          clear n0_ n1_
                                          (try clear hb)
                                          (try clear hb2)
                                          (try clear hk)
                                          (try clear hi)
                                          refine hK.out _ _ trivial (fun hHeld => ?_)
                                          clear hK K
                                          refine norm_ (a' := ?_) ?_ ?_
                                          rotate_left
                                          · show Act.put _ (some 32) _ = _
                                            simp only [Act.put, List.setIfInBounds_toArray, List.set_cons_zero, List.set_cons_succ, i64_w, i32_w]
                                            rfl
                                          refine pure_ (i := 11) (N := some 33) (v := ?_) (a' := ?_) #[true, true, true, true, true, true, true, true, true, true, true, true, false, false, false, false, false, false, false, false, false, false, false, false, false, false, false, false, false] rfl rfl (any_of HT_.out (by kernel_rfl)) (fun _ _ _ h => h) (Or.inl ⟨by rfl, ?_⟩) ?_ ?_
                                          rotate_left
                                          · intro w'
                                            go_simp
                                            with_reducible rfl
                                          rotate_left
                                          · simp only [Act.put, List.setIfInBounds_toArray, List.set_cons_zero, List.set_cons_succ, i64_w, i32_w]
                                            rfl
                                          exact norm_ (by first | (simp only [putAll, Act.put, List.setIfInBounds_toArray, List.set_cons_zero, List.set_cons_succ]; done) | (simp only [putAll, Act.put, List.setIfInBounds_toArray, List.set_cons_zero, List.set_cons_succ]; rfl)) (hJ1_2_5_10 (v117) _ ⟨(by (with_reducible repeat (first | apply Kd.R_alloc | apply Kd.R_drewN | apply Kd.R_drew)); exact HO118.out), (by repeat (first | (with_reducible first | exact HB.out | apply below_alloc | apply pw_below_drewN | apply below_drew1) | exact HB.out | exact Below.refl _ _))⟩)
                                      · skip
                                        rintro v117 w28 ⟨h0_, h1_⟩
                                        have n0_ : Aside0 (Kd.R (Kd.int .u8) 5 w28 w.heap.size (fun _ => True) v117 y116) := ⟨h0_⟩
                                        have n1_ : Aside0 (Below w.heap.size w w28) := ⟨h1_⟩
                                        clear HB
                                        clear h0_ h1_
                                        have HO118 := n0_
                                        have HB := n1_
                                        clear n0_ n1_
                                        have hHeld := trivial
                                        refine norm_ (a' := ?_) ?_ ?_
                                        rotate_left
                                        · simp only [putAll, Act.put, List.setIfInBounds_toArray, List.set_cons_zero, List.set_cons_succ]
                                          rfl
                                        refine one_ (i := 12) (N := some 34) #[true, true, true, true, true, true, true, true, true, true, true, true, true, false, false, false, false, false, false, false, false, false, false, false, false, false, false, false, false] rfl rfl (one_of HT_.out (by kernel_rfl)) (by decide) (fun K hK => ?_)
                                        refine goes_ Tryd.func22 (by kernel_rfl) rfl #[.string ((((strOfNums y116) ++ (⟨#[110]⟩ : ByteArray)) ++ t119) ++ (⟨#[95]⟩ : ByteArray)), .string a1, .string ((⟨#[45]⟩ : ByteArray) ++ t120)] (by rfl) rfl rfl (by (try simp only [List.map_toArray, List.map_cons, List.map_nil]); first | done | rfl | (simp only [List.length_drop, List.length_take]; rfl)) ?_
                                        with_reducible refine (laws_constantIs.calls ((((strOfNums y116) ++ (⟨#[110]⟩ : ByteArray)) ++ t119) ++ (⟨#[95]⟩ : ByteArray)) a1 ((⟨#[45]⟩ : ByteArray) ++ t120) true _ (show StrIs _ from ?side1) A15.out).mono ?_
                                        (case side1 => exact Stays.below hT_ (by first | (repeat (first | (with_reducible first | exact HB.out | apply below_alloc | apply pw_below_drewN | apply below_drew1) | exact HB.out | exact Below.refl _ _)) | (repeat (first | exact Below.refl _ _ | apply below_drew1 | apply pw_below_drewN))))
                                        rintro e w29 ⟨rfl, hb⟩
                                        refine ⟨_, rfl, ?_⟩
                                        have n0_ := Aside0.mk (Kd.R_below (by (with_reducible repeat (first | apply Kd.R_alloc | apply Kd.R_drewN | apply Kd.R_drew)); exact HO118.out) hb)
                                        have n1_ := Aside0.mk (below_step (by repeat (first | (with_reducible first | exact HB.out | apply below_alloc | apply pw_below_drewN | apply below_drew1) | exact HB.out | exact Below.refl _ _)) hb)
                                        clear HO118
                                        clear HB
                                        have HO118 := n0_
                                        have HB := n1_
                                        clear n0_ n1_
                                        (try clear hb)
                                        (try clear hb2)
                                        (try clear hk)
                                        (try clear hi)
                                        refine hK.out _ _ trivial (fun hHeld => ?_)
                                        clear hK K
                                        refine norm_ (a' := ?_) ?_ ?_
                                        rotate_left
                                        · show Act.put _ (some 34) _ = _
                                          simp only [Act.put, List.setIfInBounds_toArray, List.set_cons_zero, List.set_cons_succ, i64_w, i32_w]
                                          rfl
                                        refine pure_ (i := 13) (N := some 35) (v := ?_) (a' := ?_) #[true, true, true, true, true, true, true, true, true, true, true, true, true, true, false, false, false, false, false, false, false, false, false, false, false, false, false, false, false] rfl rfl (any_of HT_.out (by kernel_rfl)) (fun _ _ _ h => h) (Or.inl ⟨by rfl, ?_⟩) ?_ ?_
                                        rotate_left
                                        · intro w'
                                          go_simp
                                          with_reducible rfl
                                        rotate_left
                                        · simp only [Act.put, List.setIfInBounds_toArray, List.set_cons_zero, List.set_cons_succ, i64_w, i32_w]
                                          rfl
                                        refine pure_ (i := 14) (N := some 36) (v := ?_) (a' := ?_) #[true, true, true, true, true, true, true, true, true, true, true, true, true, true, true, false, false, false, false, false, false, false, false, false, false, false, false, false, false] rfl rfl (any_of HT_.out (by kernel_rfl)) (fun _ _ _ h => h) (Or.inl ⟨by rfl, ?_⟩) ?_ ?_
                                        rotate_left
                                        · intro w'
                                          go_simp
                                          with_reducible rfl
                                        rotate_left
                                        · simp only [Act.put, List.setIfInBounds_toArray, List.set_cons_zero, List.set_cons_succ, i64_w, i32_w]
                                          rfl
                                        refine pure_ (i := 17) (N := some 39) (v := ?_) (a' := ?_) #[true, true, true, true, true, true, true, true, true, true, true, true, true, true, true, false, false, true, false, false, false, false, false, false, false, false, false, false, false] rfl rfl (any_of HT_.out (by kernel_rfl)) (fun _ _ _ h => h) (Or.inl ⟨by rfl, ?_⟩) ?_ ?_
                                        rotate_left
                                        · intro w'
                                          go_simp
                                          with_reducible rfl
                                        rotate_left
                                        · simp only [Act.put, List.setIfInBounds_toArray, List.set_cons_zero, List.set_cons_succ, i64_w, i32_w]
                                          rfl
                                        refine pure_ (i := 18) (N := some 40) (v := ?_) (a' := ?_) #[true, true, true, true, true, true, true, true, true, true, true, true, true, true, true, false, false, true, true, false, false, false, false, false, false, false, false, false, false] rfl rfl (any_of HT_.out (by kernel_rfl)) (fun _ _ _ h => h) (Or.inl ⟨by rfl, ?_⟩) ?_ ?_
                                        rotate_left
                                        · intro w'
                                          go_simp
                                          with_reducible rfl
                                        rotate_left
                                        · simp only [Act.put, List.setIfInBounds_toArray, List.set_cons_zero, List.set_cons_succ, i64_w, i32_w]
                                          rfl
                                        refine pure_ (i := 22) (N := some 44) (v := ?_) (a' := ?_) #[true, true, true, true, true, true, true, true, true, true, true, true, true, true, true, false, false, true, true, false, false, false, true, false, false, false, false, false, false] rfl rfl (any_of HT_.out (by kernel_rfl)) (fun _ _ _ h => h) (Or.inl ⟨by rfl, ?_⟩) ?_ ?_
                                        rotate_left
                                        · intro w'
                                          go_simp
                                          with_reducible rfl
                                        rotate_left
                                        · simp only [Act.put, List.setIfInBounds_toArray, List.set_cons_zero, List.set_cons_succ, i64_w, i32_w]
                                          rfl
                                        refine pure_ (i := 23) (N := some 45) (v := ?_) (a' := ?_) #[true, true, true, true, true, true, true, true, true, true, true, true, true, true, true, false, false, true, true, false, false, false, true, true, false, false, false, false, false] rfl rfl (any_of HT_.out (by kernel_rfl)) (fun _ _ _ h => h) (Or.inl ⟨by rfl, ?_⟩) ?_ ?_
                                        rotate_left
                                        · intro w'
                                          go_simp
                                          with_reducible rfl
                                        rotate_left
                                        · simp only [Act.put, List.setIfInBounds_toArray, List.set_cons_zero, List.set_cons_succ, i64_w, i32_w]
                                          rfl
                                        refine pure_ (i := 24) (N := some 46) (v := ?_) (a' := ?_) #[true, true, true, true, true, true, true, true, true, true, true, true, true, true, true, false, false, true, true, false, false, false, true, true, true, false, false, false, false] rfl rfl (any_of HT_.out (by kernel_rfl)) (fun _ _ _ h => h) (Or.inl ⟨by rfl, ?_⟩) ?_ ?_
                                        rotate_left
                                        · intro w'
                                          go_simp
                                          with_reducible rfl
                                        rotate_left
                                        · simp only [Act.put, List.setIfInBounds_toArray, List.set_cons_zero, List.set_cons_succ, i64_w, i32_w]
                                          rfl
                                        exact norm_ (by first | (simp only [putAll, Act.put, List.setIfInBounds_toArray, List.set_cons_zero, List.set_cons_succ]; done) | (simp only [putAll, Act.put, List.setIfInBounds_toArray, List.set_cons_zero, List.set_cons_succ]; rfl)) (hJ1_2_5_10_12 (v117) _ ⟨(by (with_reducible repeat (first | apply Kd.R_alloc | apply Kd.R_drewN | apply Kd.R_drew)); exact HO118.out), (by repeat (first | (with_reducible first | exact HB.out | apply below_alloc | apply pw_below_drewN | apply below_drew1) | exact HB.out | exact Below.refl _ _))⟩)
                                    · skip
                                      rintro v117 w29 ⟨h0_, h1_⟩
                                      have n0_ : Aside0 (Kd.R (Kd.int .u8) 5 w29 w.heap.size (fun _ => True) v117 y116) := ⟨h0_⟩
                                      have n1_ : Aside0 (Below w.heap.size w w29) := ⟨h1_⟩
                                      clear HB
                                      clear h0_ h1_
                                      have HO118 := n0_
                                      have HB := n1_
                                      clear n0_ n1_
                                      have hHeld := trivial
                                      refine norm_ (a' := ?_) ?_ ?_
                                      rotate_left
                                      · simp only [putAll, Act.put, List.setIfInBounds_toArray, List.set_cons_zero, List.set_cons_succ]
                                        rfl
                                      refine two_ (i := 15) (j := 19) (Ni := some 37) (Nj := some 41) #[true, true, true, true, true, true, true, true, true, true, true, true, true, true, true, true, false, true, true, false, false, false, true, true, true, false, false, false, false] #[true, true, true, true, true, true, true, true, true, true, true, true, true, true, true, false, false, true, true, true, false, false, true, true, true, false, false, false, false] rfl rfl rfl rfl (two_of HT_.out (by kernel_rfl)) (by decide) (by decide) (fun K hK => ?_) (fun K hK => ?_)
                                      · skip
                                        refine Kd.R_lit_step (Kd.int .u8) _ 5 ?hg (N := 37) ?hd (xs := ([t113] : List Int)) (inner := [.int .u8 t113]) (ok := fun _ => True) (okp := fun _ => True) ?hr ?hp (fun _ hk => hk) trivial (Below.refl _ _) (Nat.le_refl _) (by simp) ?_; (case hd => rfl); (case hg => rfl); (case hr => first | (go_simp; done) | (go_simp; rfl)); (case hp => exact (Reps.one (show Kd.M (Kd.int .u8) _ _ _ t113 [.int .u8 t113] from rfl) (Reps.none _ _)))
                                        intro v123 w30 ho31 hb hg_ hnew_
                                        clear hg_ hnew_
                                        (first | rw [← Ny122.out] at ho31 | (simp only [Int.reduceToNat] at ho31; rw [← Ny122.out] at ho31))
                                        have n0_ := Aside0.mk (Kd.R_elder' (by (with_reducible repeat (first | apply Kd.R_alloc | apply Kd.R_drewN | apply Kd.R_drew)); exact HO118.out) (Kd.R_base ho31) hb)
                                        have n1_ := Aside0.mk (Kd.R_lower (Kd.R_new' ho31 (Kd.R_lt (by (with_reducible repeat (first | apply Kd.R_alloc | apply Kd.R_drewN | apply Kd.R_drew)); exact HO118.out))) (below_size (by repeat (first | (with_reducible first | exact HB.out | apply below_alloc | apply pw_below_drewN | apply below_drew1) | exact HB.out | exact Below.refl _ _))))
                                        have n2_ := Aside0.mk (below_step (by repeat (first | (with_reducible first | exact HB.out | apply below_alloc | apply pw_below_drewN | apply below_drew1) | exact HB.out | exact Below.refl _ _)) hb)
                                        clear HO118
                                        clear HB
                                        have HO118 := n0_
                                        have HO124 := n1_
                                        have HB := n2_
                                        clear n0_ n1_ n2_
                                        clear hb ho31
                                        refine hK.out _ _ trivial (fun hHeld => ?_)
                                        clear hK K
                                        refine norm_ (a' := ?_) ?_ ?_
                                        rotate_left
                                        · show Act.put _ (some 37) _ = _
                                          simp only [Act.put, List.setIfInBounds_toArray, List.set_cons_zero, List.set_cons_succ, i64_w, i32_w]
                                          rfl
                                        exact norm_ (by first | (simp only [putAll, Act.put, List.setIfInBounds_toArray, List.set_cons_zero, List.set_cons_succ]; done) | (simp only [putAll, Act.put, List.setIfInBounds_toArray, List.set_cons_zero, List.set_cons_succ]; rfl)) (hJ1_2_5_10_12_15 (v117, v123) _ ⟨(by (with_reducible repeat (first | apply Kd.R_alloc | apply Kd.R_drewN | apply Kd.R_drew)); exact Kd.R_mono HO118.out (fun _ hk => hk.2)), (by (with_reducible repeat (first | apply Kd.R_alloc | apply Kd.R_drewN | apply Kd.R_drew)); exact Kd.R_mono HO124.out (fun _ hk => hk.2)), (by repeat (first | (with_reducible first | exact HB.out | apply below_alloc | apply pw_below_drewN | apply below_drew1) | exact HB.out | exact Below.refl _ _))⟩)
                                      · skip
                                        refine goes_ Tryd.func15 (by kernel_rfl) rfl #[.int .u64 (IntKind.u64.wrap ((ji8) - 1))] (by rfl) rfl rfl (by (try simp only [List.map_toArray, List.map_cons, List.map_nil]); first | done | (simp only [hji8]; rfl) | rfl | (simp only [List.length_drop, List.length_take]; rfl)) ?_
                                        with_reducible refine (spec_RustHex.calls k (IntKind.u64.wrap ((ji8) - 1)) t125 _ A17.out).mono ?_
                                        rintro e w30 ⟨rfl, hb⟩
                                        refine ⟨_, rfl, ?_⟩
                                        have n0_ := Aside0.mk (Kd.R_below (by (with_reducible repeat (first | apply Kd.R_alloc | apply Kd.R_drewN | apply Kd.R_drew)); exact HO118.out) hb)
                                        have n1_ := Aside0.mk (below_step (by repeat (first | (with_reducible first | exact HB.out | apply below_alloc | apply pw_below_drewN | apply below_drew1) | exact HB.out | exact Below.refl _ _)) hb)
                                        clear HO118
                                        clear HB
                                        have HO118 := n0_
                                        have HB := n1_
                                        clear n0_ n1_
                                        (try clear hb)
                                        (try clear hb2)
                                        (try clear hk)
                                        (try clear hi)
                                        refine hK.out _ _ trivial (fun hHeld => ?_)
                                        clear hK K
                                        refine norm_ (a' := ?_) ?_ ?_
                                        rotate_left
                                        · show Act.put _ (some 41) _ = _
                                          simp only [Act.put, List.setIfInBounds_toArray, List.set_cons_zero, List.set_cons_succ, i64_w, i32_w]
                                          rfl
                                        exact norm_ (by first | (simp only [putAll, Act.put, List.setIfInBounds_toArray, List.set_cons_zero, List.set_cons_succ]; done) | (simp only [putAll, Act.put, List.setIfInBounds_toArray, List.set_cons_zero, List.set_cons_succ]; rfl)) (hJ1_2_5_10_12_19 (v117) _ ⟨(by (with_reducible repeat (first | apply Kd.R_alloc | apply Kd.R_drewN | apply Kd.R_drew)); exact HO118.out), (by repeat (first | (with_reducible first | exact HB.out | apply below_alloc | apply pw_below_drewN | apply below_drew1) | exact HB.out | exact Below.refl _ _))⟩)
                                  · skip
                                    rintro v117 w30 ⟨h0_, h1_⟩
                                    have n0_ : Aside0 (Kd.R (Kd.int .u8) 5 w30 w.heap.size (fun _ => True) v117 y116) := ⟨h0_⟩
                                    have n1_ : Aside0 (Below w.heap.size w w30) := ⟨h1_⟩
                                    clear HB
                                    clear h0_ h1_
                                    have HO118 := n0_
                                    have HB := n1_
                                    clear n0_ n1_
                                    have hHeld := trivial
                                    refine norm_ (a' := ?_) ?_ ?_
                                    rotate_left
                                    · simp only [putAll, Act.put, List.setIfInBounds_toArray, List.set_cons_zero, List.set_cons_succ]
                                      rfl
                                    refine two_ (i := 15) (j := 25) (Ni := some 37) (Nj := some 47) #[true, true, true, true, true, true, true, true, true, true, true, true, true, true, true, true, false, true, true, true, false, false, true, true, true, false, false, false, false] #[true, true, true, true, true, true, true, true, true, true, true, true, true, true, true, false, false, true, true, true, false, false, true, true, true, true, false, false, false] rfl rfl rfl rfl (two_of HT_.out (by kernel_rfl)) (by decide) (by decide) (fun K hK => ?_) (fun K hK => ?_)
                                    · skip
                                      refine Kd.R_lit_step (Kd.int .u8) _ 5 ?hg (N := 37) ?hd (xs := ([t113] : List Int)) (inner := [.int .u8 t113]) (ok := fun _ => True) (okp := fun _ => True) ?hr ?hp (fun _ hk => hk) trivial (Below.refl _ _) (Nat.le_refl _) (by simp) ?_; (case hd => rfl); (case hg => rfl); (case hr => first | (go_simp; done) | (go_simp; rfl)); (case hp => exact (Reps.one (show Kd.M (Kd.int .u8) _ _ _ t113 [.int .u8 t113] from rfl) (Reps.none _ _)))
                                      intro v123 w31 ho32 hb hg_ hnew_
                                      clear hg_ hnew_
                                      (first | rw [← Ny122.out] at ho32 | (simp only [Int.reduceToNat] at ho32; rw [← Ny122.out] at ho32))
                                      have n0_ := Aside0.mk (Kd.R_elder' (by (with_reducible repeat (first | apply Kd.R_alloc | apply Kd.R_drewN | apply Kd.R_drew)); exact HO118.out) (Kd.R_base ho32) hb)
                                      have n1_ := Aside0.mk (Kd.R_lower (Kd.R_new' ho32 (Kd.R_lt (by (with_reducible repeat (first | apply Kd.R_alloc | apply Kd.R_drewN | apply Kd.R_drew)); exact HO118.out))) (below_size (by repeat (first | (with_reducible first | exact HB.out | apply below_alloc | apply pw_below_drewN | apply below_drew1) | exact HB.out | exact Below.refl _ _))))
                                      have n2_ := Aside0.mk (below_step (by repeat (first | (with_reducible first | exact HB.out | apply below_alloc | apply pw_below_drewN | apply below_drew1) | exact HB.out | exact Below.refl _ _)) hb)
                                      clear HO118
                                      clear HB
                                      have HO118 := n0_
                                      have HO124 := n1_
                                      have HB := n2_
                                      clear n0_ n1_ n2_
                                      clear hb ho32
                                      refine hK.out _ _ trivial (fun hHeld => ?_)
                                      clear hK K
                                      refine norm_ (a' := ?_) ?_ ?_
                                      rotate_left
                                      · show Act.put _ (some 37) _ = _
                                        simp only [Act.put, List.setIfInBounds_toArray, List.set_cons_zero, List.set_cons_succ, i64_w, i32_w]
                                        rfl
                                      exact norm_ (by first | (simp only [putAll, Act.put, List.setIfInBounds_toArray, List.set_cons_zero, List.set_cons_succ]; done) | (simp only [putAll, Act.put, List.setIfInBounds_toArray, List.set_cons_zero, List.set_cons_succ]; rfl)) (hJ1_2_5_10_12_15_19 (v117, v123) _ ⟨(by (with_reducible repeat (first | apply Kd.R_alloc | apply Kd.R_drewN | apply Kd.R_drew)); exact Kd.R_mono HO118.out (fun _ hk => hk.2)), (by (with_reducible repeat (first | apply Kd.R_alloc | apply Kd.R_drewN | apply Kd.R_drew)); exact Kd.R_mono HO124.out (fun _ hk => hk.2)), (by repeat (first | (with_reducible first | exact HB.out | apply below_alloc | apply pw_below_drewN | apply below_drew1) | exact HB.out | exact Below.refl _ _))⟩)
                                    · skip
                                      refine goes_ Tryd.func24 (by kernel_rfl) rfl #[.int .u64 (IntKind.u64.wrap ((ji8) - 1))] (by rfl) rfl rfl (by (try simp only [List.map_toArray, List.map_cons, List.map_nil]); first | done | (simp only [hji8]; rfl) | rfl | (simp only [List.length_drop, List.length_take]; rfl)) ?_
                                      with_reducible refine (spec_RustDecimal.calls k (IntKind.u64.wrap ((ji8) - 1)) t126 _ A20.out).mono ?_
                                      rintro e w31 ⟨rfl, hb⟩
                                      refine ⟨_, rfl, ?_⟩
                                      have n0_ := Aside0.mk (Kd.R_below (by (with_reducible repeat (first | apply Kd.R_alloc | apply Kd.R_drewN | apply Kd.R_drew)); exact HO118.out) hb)
                                      have n1_ := Aside0.mk (below_step (by repeat (first | (with_reducible first | exact HB.out | apply below_alloc | apply pw_below_drewN | apply below_drew1) | exact HB.out | exact Below.refl _ _)) hb)
                                      clear HO118
                                      clear HB
                                      have HO118 := n0_
                                      have HB := n1_
                                      clear n0_ n1_
                                      (try clear hb)
                                      (try clear hb2)
                                      (try clear hk)
                                      (try clear hi)
                                      refine hK.out _ _ trivial (fun hHeld => ?_)
                                      clear hK K
                                      refine norm_ (a' := ?_) ?_ ?_
                                      rotate_left
                                      · show Act.put _ (some 47) _ = _
                                        simp only [Act.put, List.setIfInBounds_toArray, List.set_cons_zero, List.set_cons_succ, i64_w, i32_w]
                                        rfl
                                      exact norm_ (by first | (simp only [putAll, Act.put, List.setIfInBounds_toArray, List.set_cons_zero, List.set_cons_succ]; done) | (simp only [putAll, Act.put, List.setIfInBounds_toArray, List.set_cons_zero, List.set_cons_succ]; rfl)) (hJ1_2_5_10_12_19_25 (v117) _ ⟨(by (with_reducible repeat (first | apply Kd.R_alloc | apply Kd.R_drewN | apply Kd.R_drew)); exact HO118.out), (by repeat (first | (with_reducible first | exact HB.out | apply below_alloc | apply pw_below_drewN | apply below_drew1) | exact HB.out | exact Below.refl _ _))⟩)
                                · skip
                                  rintro ⟨v117, v123⟩ w31 ⟨h0_, h1_, h2_⟩
                                  have n0_ : Aside0 (Kd.R (Kd.int .u8) 5 w31 w.heap.size (fun k_ => some k_ ≠ (v123 : Value).ownBlock) v117 y116) := ⟨h0_⟩
                                  have n1_ : Aside0 (Kd.R (Kd.int .u8) 5 w31 w.heap.size (fun k_ => some k_ ≠ (v117 : Value).ownBlock) v123 y122) := ⟨h1_⟩
                                  have n2_ : Aside0 (Below w.heap.size w w31) := ⟨h2_⟩
                                  clear HB
                                  clear h0_ h1_ h2_
                                  have HO118 := n0_
                                  have HO124 := n1_
                                  have HB := n2_
                                  clear n0_ n1_ n2_
                                  have hHeld := trivial
                                  refine norm_ (a' := ?_) ?_ ?_
                                  rotate_left
                                  · simp only [putAll, Act.put, List.setIfInBounds_toArray, List.set_cons_zero, List.set_cons_succ]
                                    rfl
                                  refine two_ (i := 16) (j := 19) (Ni := some 38) (Nj := some 41) #[true, true, true, true, true, true, true, true, true, true, true, true, true, true, true, true, true, true, true, false, false, false, true, true, true, false, false, false, false] #[true, true, true, true, true, true, true, true, true, true, true, true, true, true, true, true, false, true, true, true, false, false, true, true, true, false, false, false, false] rfl rfl rfl rfl (two_of HT_.out (by kernel_rfl)) (by decide) (by decide) (fun K hK => ?_) (fun K hK => ?_)
                                  · skip
                                    have hcv32 := own_string (P := Tryd.prog) Tryd.underlying27 Tryd.underlying5 Tryd.underlying9 (Kd.own_of_R HO124.out)
                                    refine value_ (w1 := ?_) (v := ?_) (by rfl) rfl ?_ ?_
                                    rotate_left 2
                                    · go_simp
                                      constructor
                                      · rfl
                                      · rfl
                                    clear hcv32
                                    refine hK.out _ _ trivial (fun hHeld => ?_)
                                    clear hK K
                                    refine norm_ (a' := ?_) ?_ ?_
                                    rotate_left
                                    · show Act.put _ (some 38) _ = _
                                      simp only [Act.put, List.setIfInBounds_toArray, List.set_cons_zero, List.set_cons_succ, i64_w, i32_w]
                                      rfl
                                    exact norm_ (by first | (simp only [putAll, Act.put, List.setIfInBounds_toArray, List.set_cons_zero, List.set_cons_succ]; done) | (simp only [putAll, Act.put, List.setIfInBounds_toArray, List.set_cons_zero, List.set_cons_succ]; rfl)) (hJ1_2_5_10_12_15_16 (v117, v123) _ ⟨(by (with_reducible repeat (first | apply Kd.R_alloc | apply Kd.R_drewN | apply Kd.R_drew)); exact HO118.out), (by (with_reducible repeat (first | apply Kd.R_alloc | apply Kd.R_drewN | apply Kd.R_drew)); exact HO124.out), (by repeat (first | (with_reducible first | exact HB.out | apply below_alloc | apply pw_below_drewN | apply below_drew1) | exact HB.out | exact Below.refl _ _))⟩)
                                  · skip
                                    refine goes_ Tryd.func15 (by kernel_rfl) rfl #[.int .u64 (IntKind.u64.wrap ((ji8) - 1))] (by rfl) rfl rfl (by (try simp only [List.map_toArray, List.map_cons, List.map_nil]); first | done | (simp only [hji8]; rfl) | rfl | (simp only [List.length_drop, List.length_take]; rfl)) ?_
                                    with_reducible refine (spec_RustHex.calls k (IntKind.u64.wrap ((ji8) - 1)) t125 _ A17.out).mono ?_
                                    rintro e w32 ⟨rfl, hb⟩
                                    refine ⟨_, rfl, ?_⟩
                                    have n0_ := Aside0.mk (Kd.R_below (by (with_reducible repeat (first | apply Kd.R_alloc | apply Kd.R_drewN | apply Kd.R_drew)); exact HO118.out) hb)
                                    have n1_ := Aside0.mk (Kd.R_below (by (with_reducible repeat (first | apply Kd.R_alloc | apply Kd.R_drewN | apply Kd.R_drew)); exact HO124.out) hb)
                                    have n2_ := Aside0.mk (below_step (by repeat (first | (with_reducible first | exact HB.out | apply below_alloc | apply pw_below_drewN | apply below_drew1) | exact HB.out | exact Below.refl _ _)) hb)
                                    clear HO118
                                    clear HO124
                                    clear HB
                                    have HO118 := n0_
                                    have HO124 := n1_
                                    have HB := n2_
                                    clear n0_ n1_ n2_
                                    (try clear hb)
                                    (try clear hb2)
                                    (try clear hk)
                                    (try clear hi)
                                    refine hK.out _ _ trivial (fun hHeld => ?_)
                                    clear hK K
                                    refine norm_ (a' := ?_) ?_ ?_
                                    rotate_left
                                    · show Act.put _ (some 41) _ = _
                                      simp only [Act.put, List.setIfInBounds_toArray, List.set_cons_zero, List.set_cons_succ, i64_w, i32_w]
                                      rfl
                                    exact norm_ (by first | (simp only [putAll, Act.put, List.setIfInBounds_toArray, List.set_cons_zero, List.set_cons_succ]; done) | (simp only [putAll, Act.put, List.setIfInBounds_toArray, List.set_cons_zero, List.set_cons_succ]; rfl)) (hJ1_2_5_10_12_15_19 (v117, v123) _ ⟨(by (with_reducible repeat (first | apply Kd.R_alloc | apply Kd.R_drewN | apply Kd.R_drew)); exact HO118.out), (by (with_reducible repeat (first | apply Kd.R_alloc | apply Kd.R_drewN | apply Kd.R_drew)); exact HO124.out), (by repeat (first | (with_reducible first | exact HB.out | apply below_alloc | apply pw_below_drewN | apply below_drew1) | exact HB.out | exact Below.refl _ _))⟩)
                              · skip
                                rintro v117 w31 ⟨h0_, h1_⟩
                                have n0_ : Aside0 (Kd.R (Kd.int .u8) 5 w31 w.heap.size (fun _ => True) v117 y116) := ⟨h0_⟩
                                have n1_ : Aside0 (Below w.heap.size w w31) := ⟨h1_⟩
                                clear HB
                                clear h0_ h1_
                                have HO118 := n0_
                                have HB := n1_
                                clear n0_ n1_
                                have hHeld := trivial
                                refine norm_ (a' := ?_) ?_ ?_
                                rotate_left
                                · simp only [putAll, Act.put, List.setIfInBounds_toArray, List.set_cons_zero, List.set_cons_succ]
                                  rfl
                                refine one_ (i := 15) (N := some 37) #[true, true, true, true, true, true, true, true, true, true, true, true, true, true, true, true, false, true, true, true, false, false, true, true, true, true, false, false, false] rfl rfl (one_of HT_.out (by kernel_rfl)) (by decide) (fun K hK => ?_)
                                refine Kd.R_lit_step (Kd.int .u8) _ 5 ?hg (N := 37) ?hd (xs := ([t113] : List Int)) (inner := [.int .u8 t113]) (ok := fun _ => True) (okp := fun _ => True) ?hr ?hp (fun _ hk => hk) trivial (Below.refl _ _) (Nat.le_refl _) (by simp) ?_; (case hd => rfl); (case hg => rfl); (case hr => first | (go_simp; done) | (go_simp; rfl)); (case hp => exact (Reps.one (show Kd.M (Kd.int .u8) _ _ _ t113 [.int .u8 t113] from rfl) (Reps.none _ _)))
                                intro v123 w32 ho33 hb hg_ hnew_
                                clear hg_ hnew_
                                (first | rw [← Ny122.out] at ho33 | (simp only [Int.reduceToNat] at ho33; rw [← Ny122.out] at ho33))
                                have n0_ := Aside0.mk (Kd.R_elder' (by (with_reducible repeat (first | apply Kd.R_alloc | apply Kd.R_drewN | apply Kd.R_drew)); exact HO118.out) (Kd.R_base ho33) hb)
                                have n1_ := Aside0.mk (Kd.R_lower (Kd.R_new' ho33 (Kd.R_lt (by (with_reducible repeat (first | apply Kd.R_alloc | apply Kd.R_drewN | apply Kd.R_drew)); exact HO118.out))) (below_size (by repeat (first | (with_reducible first | exact HB.out | apply below_alloc | apply pw_below_drewN | apply below_drew1) | exact HB.out | exact Below.refl _ _))))
                                have n2_ := Aside0.mk (below_step (by repeat (first | (with_reducible first | exact HB.out | apply below_alloc | apply pw_below_drewN | apply below_drew1) | exact HB.out | exact Below.refl _ _)) hb)
                                clear HO118
                                clear HB
                                have HO118 := n0_
                                have HO124 := n1_
                                have HB := n2_
                                clear n0_ n1_ n2_
                                clear hb ho33
                                refine hK.out _ _ trivial (fun hHeld => ?_)
                                clear hK K
                                refine norm_ (a' := ?_) ?_ ?_
                                rotate_left
                                · show Act.put _ (some 37) _ = _
                                  simp only [Act.put, List.setIfInBounds_toArray, List.set_cons_zero, List.set_cons_succ, i64_w, i32_w]
                                  rfl
                                exact norm_ (by first | (simp only [putAll, Act.put, List.setIfInBounds_toArray, List.set_cons_zero, List.set_cons_succ]; done) | (simp only [putAll, Act.put, List.setIfInBounds_toArray, List.set_cons_zero, List.set_cons_succ]; rfl)) (hJ1_2_5_10_12_15_19_25 (v117, v123) _ ⟨(by (with_reducible repeat (first | apply Kd.R_alloc | apply Kd.R_drewN | apply Kd.R_drew)); exact Kd.R_mono HO118.out (fun _ hk => hk.2)), (by (with_reducible repeat (first | apply Kd.R_alloc | apply Kd.R_drewN | apply Kd.R_drew)); exact Kd.R_mono HO124.out (fun _ hk => hk.2)), (by repeat (first | (with_reducible first | exact HB.out | apply below_alloc | apply pw_below_drewN | apply below_drew1) | exact HB.out | exact Below.refl _ _))⟩)
                            · skip
                              rintro ⟨v117, v123⟩ w32 ⟨h0_, h1_, h2_⟩
                              have n0_ : Aside0 (Kd.R (Kd.int .u8) 5 w32 w.heap.size (fun k_ => some k_ ≠ (v123 : Value).ownBlock) v117 y116) := ⟨h0_⟩
                              have n1_ : Aside0 (Kd.R (Kd.int .u8) 5 w32 w.heap.size (fun k_ => some k_ ≠ (v117 : Value).ownBlock) v123 y122) := ⟨h1_⟩
                              have n2_ : Aside0 (Below w.heap.size w w32) := ⟨h2_⟩
                              clear HB
                              clear h0_ h1_ h2_
                              have HO118 := n0_
                              have HO124 := n1_
                              have HB := n2_
                              clear n0_ n1_ n2_
                              have hHeld := trivial
                              refine norm_ (a' := ?_) ?_ ?_
                              rotate_left
                              · simp only [putAll, Act.put, List.setIfInBounds_toArray, List.set_cons_zero, List.set_cons_succ]
                                rfl
                              refine two_ (i := 16) (j := 25) (Ni := some 38) (Nj := some 47) #[true, true, true, true, true, true, true, true, true, true, true, true, true, true, true, true, true, true, true, true, false, false, true, true, true, false, false, false, false] #[true, true, true, true, true, true, true, true, true, true, true, true, true, true, true, true, false, true, true, true, false, false, true, true, true, true, false, false, false] rfl rfl rfl rfl (two_of HT_.out (by kernel_rfl)) (by decide) (by decide) (fun K hK => ?_) (fun K hK => ?_)
                              · skip
                                have hcv33 := own_string (P := Tryd.prog) Tryd.underlying27 Tryd.underlying5 Tryd.underlying9 (Kd.own_of_R HO124.out)
                                refine value_ (w1 := ?_) (v := ?_) (by rfl) rfl ?_ ?_
                                rotate_left 2
                                · go_simp
                                  constructor
                                  · rfl
                                  · rfl
                                clear hcv33
                                refine hK.out _ _ trivial (fun hHeld => ?_)
                                clear hK K
                                refine norm_ (a' := ?_) ?_ ?_
                                rotate_left
                                · show Act.put _ (some 38) _ = _
                                  simp only [Act.put, List.setIfInBounds_toArray, List.set_cons_zero, List.set_cons_succ, i64_w, i32_w]
                                  rfl
                                refine pure_ (i := 20) (N := some 42) (v := ?_) (a' := ?_) #[true, true, true, true, true, true, true, true, true, true, true, true, true, true, true, true, true, true, true, true, true, false, true, true, true, false, false, false, false] rfl rfl (any_of HT_.out (by kernel_rfl)) (fun _ _ _ h => h) (Or.inl ⟨by rfl, ?_⟩) ?_ ?_
                                rotate_left
                                · intro w'
                                  go_simp
                                  with_reducible rfl
                                rotate_left
                                · simp only [Act.put, List.setIfInBounds_toArray, List.set_cons_zero, List.set_cons_succ, i64_w, i32_w]
                                  rfl
                                refine pure_ (i := 21) (N := some 43) (v := ?_) (a' := ?_) #[true, true, true, true, true, true, true, true, true, true, true, true, true, true, true, true, true, true, true, true, true, true, true, true, true, false, false, false, false] rfl rfl (any_of HT_.out (by kernel_rfl)) (fun _ _ _ h => h) (Or.inl ⟨by rfl, ?_⟩) ?_ ?_
                                rotate_left
                                · intro w'
                                  go_simp
                                  with_reducible rfl
                                rotate_left
                                · simp only [Act.put, List.setIfInBounds_toArray, List.set_cons_zero, List.set_cons_succ, i64_w, i32_w]
                                  rfl
                                exact norm_ (by first | (simp only [putAll, Act.put, List.setIfInBounds_toArray, List.set_cons_zero, List.set_cons_succ]; done) | (simp only [putAll, Act.put, List.setIfInBounds_toArray, List.set_cons_zero, List.set_cons_succ]; rfl)) (hJ1_2_5_10_12_15_16_19 (v117, v123) _ ⟨(by (with_reducible repeat (first | apply Kd.R_alloc | apply Kd.R_drewN | apply Kd.R_drew)); exact HO118.out), (by (with_reducible repeat (first | apply Kd.R_alloc | apply Kd.R_drewN | apply Kd.R_drew)); exact HO124.out), (by repeat (first | (with_reducible first | exact HB.out | apply below_alloc | apply pw_below_drewN | apply below_drew1) | exact HB.out | exact Below.refl _ _))⟩)
                              · skip
                                refine goes_ Tryd.func24 (by kernel_rfl) rfl #[.int .u64 (IntKind.u64.wrap ((ji8) - 1))] (by rfl) rfl rfl (by (try simp only [List.map_toArray, List.map_cons, List.map_nil]); first | done | (simp only [hji8]; rfl) | rfl | (simp only [List.length_drop, List.length_take]; rfl)) ?_
                                with_reducible refine (spec_RustDecimal.calls k (IntKind.u64.wrap ((ji8) - 1)) t126 _ A20.out).mono ?_
                                rintro e w33 ⟨rfl, hb⟩
                                refine ⟨_, rfl, ?_⟩
                                have n0_ := Aside0.mk (Kd.R_below (by (with_reducible repeat (first | apply Kd.R_alloc | apply Kd.R_drewN | apply Kd.R_drew)); exact HO118.out) hb)
                                have n1_ := Aside0.mk (Kd.R_below (by (with_reducible repeat (first | apply Kd.R_alloc | apply Kd.R_drewN | apply Kd.R_drew)); exact HO124.out) hb)
                                have n2_ := Aside0.mk (below_step (by repeat (first | (with_reducible first | exact HB.out | apply below_alloc | apply pw_below_drewN | apply below_drew1) | exact HB.out | exact Below.refl _ _)) hb)
                                clear HO118
                                clear HO124
                                clear HB
                                have HO118 := n0_
                                have HO124 := n1_
                                have HB := n2_
                                clear n0_ n1_ n2_
                                (try clear hb)
                                (try clear hb2)
                                (try clear hk)
                                (try clear hi)
                                refine hK.out _ _ trivial (fun hHeld => ?_)
                                clear hK K
                                refine norm_ (a' := ?_) ?_ ?_
                                rotate_left
                                · show Act.put _ (some 47) _ = _
                                  simp only [Act.put, List.setIfInBounds_toArray, List.set_cons_zero, List.set_cons_succ, i64_w, i32_w]
                                  rfl
                                exact norm_ (by first | (simp only [putAll, Act.put, List.setIfInBounds_toArray, List.set_cons_zero, List.set_cons_succ]; done) | (simp only [putAll, Act.put, List.setIfInBounds_toArray, List.set_cons_zero, List.set_cons_succ]; rfl)) (hJ1_2_5_10_12_15_19_25 (v117, v123) _ ⟨(by (with_reducible repeat (first | apply Kd.R_alloc | apply Kd.R_drewN | apply Kd.R_drew)); exact HO118.out), (by (with_reducible repeat (first | apply Kd.R_alloc | apply Kd.R_drewN | apply Kd.R_drew)); exact HO124.out), (by repeat (first | (with_reducible first | exact HB.out | apply below_alloc | apply pw_below_drewN | apply below_drew1) | exact HB.out | exact Below.refl _ _))⟩)
                          · skip
                            rintro ⟨v117, v123⟩ w32 ⟨h0_, h1_, h2_⟩
                            have n0_ : Aside0 (Kd.R (Kd.int .u8) 5 w32 w.heap.size (fun k_ => some k_ ≠ (v123 : Value).ownBlock) v117 y116) := ⟨h0_⟩
                            have n1_ : Aside0 (Kd.R (Kd.int .u8) 5 w32 w.heap.size (fun k_ => some k_ ≠ (v117 : Value).ownBlock) v123 y122) := ⟨h1_⟩
                            have n2_ : Aside0 (Below w.heap.size w w32) := ⟨h2_⟩
                            clear HB
                            clear h0_ h1_ h2_
                            have HO118 := n0_
                            have HO124 := n1_
                            have HB := n2_
                            clear n0_ n1_ n2_
                            have hHeld := trivial
                            refine norm_ (a' := ?_) ?_ ?_
                            rotate_left
                            · simp only [putAll, Act.put, List.setIfInBounds_toArray, List.set_cons_zero, List.set_cons_succ]
                              rfl
                            refine one_ (i := 19) (N := some 41) #[true, true, true, true, true, true, true, true, true, true, true, true, true, true, true, true, true, true, true, true, false, false, true, true, true, false, false, false, false] rfl rfl (one_of HT_.out (by kernel_rfl)) (by decide) (fun K hK => ?_)
                            refine goes_ Tryd.func15 (by kernel_rfl) rfl #[.int .u64 (IntKind.u64.wrap ((ji8) - 1))] (by rfl) rfl rfl (by (try simp only [List.map_toArray, List.map_cons, List.map_nil]); first | done | (simp only [hji8]; rfl) | rfl | (simp only [List.length_drop, List.length_take]; rfl)) ?_
                            with_reducible refine (spec_RustHex.calls k (IntKind.u64.wrap ((ji8) - 1)) t125 _ A17.out).mono ?_
                            rintro e w33 ⟨rfl, hb⟩
                            refine ⟨_, rfl, ?_⟩
                            have n0_ := Aside0.mk (Kd.R_below (by (with_reducible repeat (first | apply Kd.R_alloc | apply Kd.R_drewN | apply Kd.R_drew)); exact HO118.out) hb)
                            have n1_ := Aside0.mk (Kd.R_below (by (with_reducible repeat (first | apply Kd.R_alloc | apply Kd.R_drewN | apply Kd.R_drew)); exact HO124.out) hb)
                            have n2_ := Aside0.mk (below_step (by repeat (first | (with_reducible first | exact HB.out | apply below_alloc | apply pw_below_drewN | apply below_drew1) | exact HB.out | exact Below.refl _ _)) hb)
                            clear HO118
                            clear HO124
                            clear HB
                            have HO118 := n0_
                            have HO124 := n1_
                            have HB := n2_
                            clear n0_ n1_ n2_
                            (try clear hb)
                            (try clear hb2)
                            (try clear hk)
                            (try clear hi)
                            refine hK.out _ _ trivial (fun hHeld => ?_)
                            clear hK K
                            refine norm_ (a' := ?_) ?_ ?_
                            rotate_left
                            · show Act.put _ (some 41) _ = _
                              simp only [Act.put, List.setIfInBounds_toArray, List.set_cons_zero, List.set_cons_succ, i64_w, i32_w]
                              rfl
                            refine pure_ (i := 20) (N := some 42) (v := ?_) (a' := ?_) #[true, true, true, true, true, true, true, true, true, true, true, true, true, true, true, true, true, true, true, true, true, false, true, true, true, false, false, false, false] rfl rfl (any_of HT_.out (by kernel_rfl)) (fun _ _ _ h => h) (Or.inl ⟨by rfl, ?_⟩) ?_ ?_
                            rotate_left
                            · intro w'
                              go_simp
                              with_reducible rfl
                            rotate_left
                            · simp only [Act.put, List.setIfInBounds_toArray, List.set_cons_zero, List.set_cons_succ, i64_w, i32_w]
                              rfl
                            refine pure_ (i := 21) (N := some 43) (v := ?_) (a' := ?_) #[true, true, true, true, true, true, true, true, true, true, true, true, true, true, true, true, true, true, true, true, true, true, true, true, true, false, false, false, false] rfl rfl (any_of HT_.out (by kernel_rfl)) (fun _ _ _ h => h) (Or.inl ⟨by rfl, ?_⟩) ?_ ?_
                            rotate_left
                            · intro w'
                              go_simp
                              with_reducible rfl
                            rotate_left
                            · simp only [Act.put, List.setIfInBounds_toArray, List.set_cons_zero, List.set_cons_succ, i64_w, i32_w]
                              rfl
                            exact norm_ (by first | (simp only [putAll, Act.put, List.setIfInBounds_toArray, List.set_cons_zero, List.set_cons_succ]; done) | (simp only [putAll, Act.put, List.setIfInBounds_toArray, List.set_cons_zero, List.set_cons_succ]; rfl)) (hJ1_2_5_10_12_15_16_19 (v117, v123) _ ⟨(by (with_reducible repeat (first | apply Kd.R_alloc | apply Kd.R_drewN | apply Kd.R_drew)); exact HO118.out), (by (with_reducible repeat (first | apply Kd.R_alloc | apply Kd.R_drewN | apply Kd.R_drew)); exact HO124.out), (by repeat (first | (with_reducible first | exact HB.out | apply below_alloc | apply pw_below_drewN | apply below_drew1) | exact HB.out | exact Below.refl _ _))⟩)
                        · skip
                          rintro ⟨v117, v123⟩ w33 ⟨h0_, h1_, h2_⟩
                          have n0_ : Aside0 (Kd.R (Kd.int .u8) 5 w33 w.heap.size (fun k_ => some k_ ≠ (v123 : Value).ownBlock) v117 y116) := ⟨h0_⟩
                          have n1_ : Aside0 (Kd.R (Kd.int .u8) 5 w33 w.heap.size (fun k_ => some k_ ≠ (v117 : Value).ownBlock) v123 y122) := ⟨h1_⟩
                          have n2_ : Aside0 (Below w.heap.size w w33) := ⟨h2_⟩
                          clear HB
                          clear h0_ h1_ h2_
                          have HO118 := n0_
                          have HO124 := n1_
                          have HB := n2_
                          clear n0_ n1_ n2_
                          have hHeld := trivial
                          refine norm_ (a' := ?_) ?_ ?_
                          rotate_left
                          · simp only [putAll, Act.put, List.setIfInBounds_toArray, List.set_cons_zero, List.set_cons_succ]
                            rfl
                          refine one_ (i := 16) (N := some 38) #[true, true, true, true, true, true, true, true, true, true, true, true, true, true, true, true, true, true, true, true, false, false, true, true, true, true, false, false, false] rfl rfl (one_of HT_.out (by kernel_rfl)) (by decide) (fun K hK => ?_)
                          have hcv34 := own_string (P := Tryd.prog) Tryd.underlying27 Tryd.underlying5 Tryd.underlying9 (Kd.own_of_R HO124.out)
                          refine value_ (w1 := ?_) (v := ?_) (by rfl) rfl ?_ ?_
                          rotate_left 2
                          · go_simp
                            constructor
                            · rfl
                            · rfl
                          clear hcv34
                          refine hK.out _ _ trivial (fun hHeld => ?_)
                          clear hK K
                          refine norm_ (a' := ?_) ?_ ?_
                          rotate_left
                          · show Act.put _ (some 38) _ = _
                            simp only [Act.put, List.setIfInBounds_toArray, List.set_cons_zero, List.set_cons_succ, i64_w, i32_w]
                            rfl
                          refine pure_ (i := 20) (N := some 42) (v := ?_) (a' := ?_) #[true, true, true, true, true, true, true, true, true, true, true, true, true, true, true, true, true, true, true, true, true, false, true, true, true, true, false, false, false] rfl rfl (any_of HT_.out (by kernel_rfl)) (fun _ _ _ h => h) (Or.inl ⟨by rfl, ?_⟩) ?_ ?_
                          rotate_left
                          · intro w'
                            go_simp
                            with_reducible rfl
                          rotate_left
                          · simp only [Act.put, List.setIfInBounds_toArray, List.set_cons_zero, List.set_cons_succ, i64_w, i32_w]
                            rfl
                          refine pure_ (i := 21) (N := some 43) (v := ?_) (a' := ?_) #[true, true, true, true, true, true, true, true, true, true, true, true, true, true, true, true, true, true, true, true, true, true, true, true, true, true, false, false, false] rfl rfl (any_of HT_.out (by kernel_rfl)) (fun _ _ _ h => h) (Or.inl ⟨by rfl, ?_⟩) ?_ ?_
                          rotate_left
                          · intro w'
                            go_simp
                            with_reducible rfl
                          rotate_left
                          · simp only [Act.put, List.setIfInBounds_toArray, List.set_cons_zero, List.set_cons_succ, i64_w, i32_w]
                            rfl
                          exact norm_ (by first | (simp only [putAll, Act.put, List.setIfInBounds_toArray, List.set_cons_zero, List.set_cons_succ]; done) | (simp only [putAll, Act.put, List.setIfInBounds_toArray, List.set_cons_zero, List.set_cons_succ]; rfl)) (hJ1_2_5_10_12_15_16_19_25 (v117, v123) _ ⟨(by (with_reducible repeat (first | apply Kd.R_alloc | apply Kd.R_drewN | apply Kd.R_drew)); exact HO118.out), (by (with_reducible repeat (first | apply Kd.R_alloc | apply Kd.R_drewN | apply Kd.R_drew)); exact HO124.out), (by repeat (first | (with_reducible first | exact HB.out | apply below_alloc | apply pw_below_drewN | apply below_drew1) | exact HB.out | exact Below.refl _ _))⟩)
                      · skip
                        rintro ⟨v117, v123⟩ w33 ⟨h0_, h1_, h2_⟩
                        have n0_ : Aside0 (Kd.R (Kd.int .u8) 5 w33 w.heap.size (fun k_ => some k_ ≠ (v123 : Value).ownBlock) v117 y116) := ⟨h0_⟩
                        have n1_ : Aside0 (Kd.R (Kd.int .u8) 5 w33 w.heap.size (fun k_ => some k_ ≠ (v117 : Value).ownBlock) v123 y122) := ⟨h1_⟩
                        have n2_ : Aside0 (Below w.heap.size w w33) := ⟨h2_⟩
                        clear HB
                        clear h0_ h1_ h2_
                        have HO118 := n0_
                        have HO124 := n1_
                        have HB := n2_
                        clear n0_ n1_ n2_
                        have hHeld := trivial
                        refine norm_ (a' := ?_) ?_ ?_
                        rotate_left
                        · simp only [putAll, Act.put, List.setIfInBounds_toArray, List.set_cons_zero, List.set_cons_succ]
                          rfl
                        refine one_ (i := 25) (N := some 47) #[true, true, true, true, true, true, true, true, true, true, true, true, true, true, true, true, true, true, true, true, true, true, true, true, true, true, false, false, false] rfl rfl (one_of HT_.out (by kernel_rfl)) (by decide) (fun K hK => ?_)
                        refine goes_ Tryd.func24 (by kernel_rfl) rfl #[.int .u64 (IntKind.u64.wrap ((ji8) - 1))] (by rfl) rfl rfl (by (try simp only [List.map_toArray, List.map_cons, List.map_nil]); first | done | (simp only [hji8]; rfl) | rfl | (simp only [List.length_drop, List.length_take]; rfl)) ?_
                        with_reducible refine (spec_RustDecimal.calls k (IntKind.u64.wrap ((ji8) - 1)) t126 _ A20.out).mono ?_
                        rintro e w34 ⟨rfl, hb⟩
                        refine ⟨_, rfl, ?_⟩
                        have n0_ := Aside0.mk (Kd.R_below (by (with_reducible repeat (first | apply Kd.R_alloc | apply Kd.R_drewN | apply Kd.R_drew)); exact HO118.out) hb)
                        have n1_ := Aside0.mk (Kd.R_below (by (with_reducible repeat (first | apply Kd.R_alloc | apply Kd.R_drewN | apply Kd.R_drew)); exact HO124.out) hb)
                        have n2_ := Aside0.mk (below_step (by repeat (first | (with_reducible first | exact HB.out | apply below_alloc | apply pw_below_drewN | apply below_drew1) | exact HB.out | exact Below.refl _ _)) hb)
                        clear HO118
                        clear HO124
                        clear HB
                        have HO118 := n0_
                        have HO124 := n1_
                        have HB := n2_
                        clear n0_ n1_ n2_
                        (try clear hb)
                        (try clear hb2)
                        (try clear hk)
                        (try clear hi)
                        refine hK.out _ _ trivial (fun hHeld => ?_)
                        clear hK K
                        refine norm_ (a' := ?_) ?_ ?_
                        rotate_left
                        · show Act.put _ (some 47) _ = _
                          simp only [Act.put, List.setIfInBounds_toArray, List.set_cons_zero, List.set_cons_succ, i64_w, i32_w]
                          rfl
                        exact norm_ (by first | (simp only [putAll, Act.put, List.setIfInBounds_toArray, List.set_cons_zero, List.set_cons_succ]; done) | (simp only [putAll, Act.put, List.setIfInBounds_toArray, List.set_cons_zero, List.set_cons_succ]; rfl)) (hJ1_2_5_10_12_15_16_19_25 (v117, v123) _ ⟨(by (with_reducible repeat (first | apply Kd.R_alloc | apply Kd.R_drewN | apply Kd.R_drew)); exact HO118.out), (by (with_reducible repeat (first | apply Kd.R_alloc | apply Kd.R_drewN | apply Kd.R_drew)); exact HO124.out), (by repeat (first | (with_reducible first | exact HB.out | apply below_alloc | apply pw_below_drewN | apply below_drew1) | exact HB.out | exact Below.refl _ _))⟩)
                    rintro ⟨v117, v123⟩ w34 ⟨h0_, h1_, h2_⟩
                    have n0_ : Aside0 (Kd.R (Kd.int .u8) 5 w34 w.heap.size (fun k_ => some k_ ≠ (v123 : Value).ownBlock) v117 y116) := ⟨h0_⟩
                    have n1_ : Aside0 (Kd.R (Kd.int .u8) 5 w34 w.heap.size (fun k_ => some k_ ≠ (v117 : Value).ownBlock) v123 y122) := ⟨h1_⟩
                    have n2_ : Aside0 (Below w.heap.size w w34) := ⟨h2_⟩
                    clear HB
                    clear h0_ h1_ h2_
                    have HO118 := n0_
                    have HO124 := n1_
                    have HB := n2_
                    clear n0_ n1_ n2_
                    have hHeld := trivial
                    refine norm_ (a' := ?_) ?_ ?_
                    rotate_left
                    · simp only [putAll, Act.put, List.setIfInBounds_toArray, List.set_cons_zero, List.set_cons_succ]
                      rfl
                    refine one_ (i := 26) (N := some 48) #[true, true, true, true, true, true, true, true, true, true, true, true, true, true, true, true, true, true, true, true, true, true, true, true, true, true, true, false, false] rfl rfl (one_of HT_.out (by kernel_rfl)) (by decide) (fun K hK => ?_)
                    refine goes_ Tryd.func22 (by kernel_rfl) rfl #[.string (((strOfNums y122) ++ t125) ++ (⟨#[95]⟩ : ByteArray)), .string a1, .string t126] (by rfl) rfl rfl (by (try simp only [List.map_toArray, List.map_cons, List.map_nil]); first | done | rfl | (simp only [List.length_drop, List.length_take]; rfl)) ?_
                    with_reducible refine (laws_constantIs.calls (((strOfNums y122) ++ t125) ++ (⟨#[95]⟩ : ByteArray)) a1 t126 t127 _ (show StrIs _ from ?side1) A21.out).mono ?_
                    (case side1 => exact Stays.below hT_ (by first | (repeat (first | (with_reducible first | exact HB.out | apply below_alloc | apply pw_below_drewN | apply below_drew1) | exact HB.out | exact Below.refl _ _)) | (repeat (first | exact Below.refl _ _ | apply below_drew1 | apply pw_below_drewN))))
                    rintro e w35 ⟨rfl, hb⟩
                    refine ⟨_, rfl, ?_⟩
                    have n0_ := Aside0.mk (Kd.R_below (by (with_reducible repeat (first | apply Kd.R_alloc | apply Kd.R_drewN | apply Kd.R_drew)); exact HO118.out) hb)
                    have n1_ := Aside0.mk (Kd.R_below (by (with_reducible repeat (first | apply Kd.R_alloc | apply Kd.R_drewN | apply Kd.R_drew)); exact HO124.out) hb)
                    have n2_ := Aside0.mk (below_step (by repeat (first | (with_reducible first | exact HB.out | apply below_alloc | apply pw_below_drewN | apply below_drew1) | exact HB.out | exact Below.refl _ _)) hb)
                    clear HO118
                    clear HO124
                    clear HB
                    have HO118 := n0_
                    have HO124 := n1_
                    have HB := n2_
                    clear n0_ n1_ n2_
                    (try clear hb)
                    (try clear hb2)
                    (try clear hk)
                    (try clear hi)
                    refine hK.out _ _ trivial (fun hHeld => ?_)
                    clear hK K
                    refine norm_ (a' := ?_) ?_ ?_
                    rotate_left
                    · show Act.put _ (some 48) _ = _
                      simp only [Act.put, List.setIfInBounds_toArray, List.set_cons_zero, List.set_cons_succ, i64_w, i32_w]
                      rfl
                    refine pure_ (i := 27) (N := some 49) (v := ?_) (a' := ?_) #[true, true, true, true, true, true, true, true, true, true, true, true, true, true, true, true, true, true, true, true, true, true, true, true, true, true, true, true, false] rfl rfl (any_of HT_.out (by kernel_rfl)) (fun _ _ _ h => h) (Or.inl ⟨by rfl, ?_⟩) ?_ ?_
                    rotate_left
                    · intro w'
                      go_simp
                      with_reducible rfl
                    rotate_left
                    · simp only [Act.put, List.setIfInBounds_toArray, List.set_cons_zero, List.set_cons_succ, i64_w, i32_w]
                      rfl
                    refine pure_ (i := 28) (N := some 4) (v := ?_) (a' := ?_) #[true, true, true, true, true, true, true, true, true, true, true, true, true, true, true, true, true, true, true, true, true, true, true, true, true, true, true, true, true] rfl rfl (any_of HT_.out (by kernel_rfl)) (fun _ _ _ h => h) (Or.inl ⟨by rfl, ?_⟩) ?_ ?_
                    rotate_left
                    · intro w'
                      go_simp
                      with_reducible rfl
                    rotate_left
                    · simp only [Act.put, List.setIfInBounds_toArray, List.set_cons_zero, List.set_cons_succ, i64_w, i32_w]
                      rfl
                    refine done_ (done_of HT_.out (by kernel_rfl)) ?_
                    try go_wp2
                    go_ret
                    exact ⟨by first | rfl | (simp [errW_none, errW_some] <;> rfl) | (simp only [← hji6, ← hji8]; first | rfl | (simp [errW_none, errW_some] <;> rfl)) | (simp [*, errW_none, errW_some] <;> rfl), by repeat (first | (with_reducible first | exact HB.out | apply below_alloc | apply pw_below_drewN | apply below_drew1) | exact HB.out)⟩
                  · rw [if_neg c19] at H
                    exact absurd H (by simp)
                · rw [if_neg c18] at H
                  exact absurd H (by simp)
              · replace c16 := Bool.eq_false_iff.mpr c16
                subst c16
                have H1 : (some false) = some r := by rw [if_neg (show ¬ (false = true) by decide)] at H; exact H
                clear H
                have H := H1
                clear H1
                obtain rfl := Option.some.inj H
                go_enter Tryd.func6, Tryd.ntmps6
                try go_wp2_with (first | ((with_reducible refine gate_callee (f := 18) rfl ?_); refine goesL_ (some 13) rfl rfl Tryd.func18 (by kernel_rfl) rfl #[.int .i64 a0] rfl (by (try simp only [List.map_toArray, List.map_cons, List.map_nil]); first | done | rfl | (simp only [List.length_drop, List.length_take]; rfl)) ?_; (with_reducible refine (spec_RustSigned.calls a0 t113 _ A4.out).mono ?_); rintro e w' ⟨rfl, ⟨nd, rfl⟩⟩; refine ⟨_, rfl, ?_⟩) | ((with_reducible refine gate_callee (f := 23) rfl ?_); refine goesL_ (some 16) rfl rfl Tryd.func23 (by kernel_rfl) rfl #[.int .u8 t113] rfl (by (try simp only [List.map_toArray, List.map_cons, List.map_nil]); first | done | rfl | (simp only [List.length_drop, List.length_take]; rfl)) ?_; (with_reducible refine (spec_RustBits.calls k t113 t114 t115 _ A5.out).mono ?_); rintro e w' ⟨rfl, ⟨nd, rfl⟩⟩; refine ⟨_, rfl, ?_⟩))
                have n0_ := Aside0.mk (below_drew1 HB.out)
                clear HB
                have HB := n0_
                clear n0_
                refine start_ (n := 29) (S := fun w' => True) (ds := []) #[false, false, false, false, false, false, false, false, false, false, false, false, false, false, false, false, false, false, false, false, false, false, false, false, false, false, false, false, false] (by kernel_rfl) rfl rfl trivial (fun hHeld => ?_); refine with_tabW laws_FnConstantLeast.tab6 laws_FnConstantLeast.bits6 (fun HT_ HW_ => ?_)
                generalize w.drew = w36 at HB hHeld ⊢
                refine pure_ (i := 0) (N := some 22) (v := ?_) (a' := ?_) #[true, false, false, false, false, false, false, false, false, false, false, false, false, false, false, false, false, false, false, false, false, false, false, false, false, false, false, false, false] rfl rfl (any_of HT_.out (by kernel_rfl)) (fun _ _ _ h => h) (Or.inl ⟨by rfl, ?_⟩) ?_ ?_
                rotate_left
                · intro w'
                  go_simp
                  with_reducible rfl
                rotate_left
                · simp only [Act.put, List.setIfInBounds_toArray, List.set_cons_zero, List.set_cons_succ, i64_w, i32_w]
                  rfl
                refine pure_ (i := 4) (N := some 26) (v := ?_) (a' := ?_) #[true, false, false, false, true, false, false, false, false, false, false, false, false, false, false, false, false, false, false, false, false, false, false, false, false, false, false, false, false] rfl rfl (any_of HT_.out (by kernel_rfl)) (fun _ _ _ h => h) (Or.inl ⟨by rfl, ?_⟩) ?_ ?_
                rotate_left
                · intro w'
                  go_simp
                  with_reducible rfl
                rotate_left
                · simp only [Act.put, List.setIfInBounds_toArray, List.set_cons_zero, List.set_cons_succ, i64_w, i32_w]
                  rfl
                refine pure_ (i := 8) (N := some 30) (v := ?_) (a' := ?_) #[true, false, false, false, true, false, false, false, true, false, false, false, false, false, false, false, false, false, false, false, false, false, false, false, false, false, false, false, false] rfl rfl (any_of HT_.out (by kernel_rfl)) (fun _ _ _ h => h) (Or.inl ⟨by rfl, ?_⟩) ?_ ?_
                rotate_left
                · intro w'
                  go_simp
                  with_reducible rfl
                rotate_left
                · simp only [Act.put, List.setIfInBounds_toArray, List.set_cons_zero, List.set_cons_succ, i64_w, i32_w]
                  rfl
                refine pure_ (i := 9) (N := some 31) (v := ?_) (a' := ?_) #[true, false, false, false, true, false, false, false, true, true, false, false, false, false, false, false, false, false, false, false, false, false, false, false, false, false, false, false, false] rfl rfl (any_of HT_.out (by kernel_rfl)) (fun _ _ _ h => h) (Or.inl ⟨by rfl, ?_⟩) ?_ ?_
                rotate_left
                · intro w'
                  go_simp
                  with_reducible rfl
                rotate_left
                · simp only [Act.put, List.setIfInBounds_toArray, List.set_cons_zero, List.set_cons_succ, i64_w, i32_w]
                  rfl
                refine join_ (σ := Value) 17 #[true, true, true, true, true, true, true, true, true, true, true, true, false, false, false, false, false, false, false, false, false, false, false, false, false, false, false, false, false] (fun s_ => [(23, s_), (24, .string (strOfNums y116)), (27, .string t119), (32, .string t120), (25, .string ((strOfNums y116) ++ (⟨#[110]⟩ : ByteArray))), (28, .string (((strOfNums y116) ++ (⟨#[110]⟩ : ByteArray)) ++ t119)), (29, .string ((((strOfNums y116) ++ (⟨#[110]⟩ : ByteArray)) ++ t119) ++ (⟨#[95]⟩ : ByteArray))), (33, .string ((⟨#[45]⟩ : ByteArray) ++ t120))]) (fun s_ w' => (Kd.R (Kd.int .u8) 5 w' w.heap.size (fun _ => True) s_ y116) ∧ (Below w.heap.size w w')) ?_ ?_
                rotate_left
                · intro hJ1_2_5_10
                  refine join_ (σ := Value) 19 #[true, true, true, true, true, true, true, true, true, true, false, false, false, false, false, false, false, false, false, false, false, false, false, false, false, false, false, false, false] (fun s_ => [(23, s_), (24, .string (strOfNums y116)), (27, .string t119), (25, .string ((strOfNums y116) ++ (⟨#[110]⟩ : ByteArray))), (28, .string (((strOfNums y116) ++ (⟨#[110]⟩ : ByteArray)) ++ t119)), (29, .string ((((strOfNums y116) ++ (⟨#[110]⟩ : ByteArray)) ++ t119) ++ (⟨#[95]⟩ : ByteArray)))]) (fun s_ w' => (Kd.R (Kd.int .u8) 5 w' w.heap.size (fun _ => True) s_ y116) ∧ (Below w.heap.size w w')) ?_ ?_
                  rotate_left
                  · intro hJ1_2_5
                    refine join_ (σ := Value) 21 #[true, true, false, false, true, true, false, false, true, true, true, true, false, false, false, false, false, false, false, false, false, false, false, false, false, false, false, false, false] (fun s_ => [(23, s_), (27, .string t119), (32, .string t120), (33, .string ((⟨#[45]⟩ : ByteArray) ++ t120))]) (fun s_ w' => (Kd.R (Kd.int .u8) 5 w' w.heap.size (fun _ => True) s_ y116) ∧ (Below w.heap.size w w')) ?_ ?_
                    rotate_left
                    · intro hJ1_5_10
                      refine join_ (σ := Value) 22 #[true, true, true, true, true, false, false, false, true, true, false, false, false, false, false, false, false, false, false, false, false, false, false, false, false, false, false, false, false] (fun s_ => [(23, s_), (24, .string (strOfNums y116)), (25, .string ((strOfNums y116) ++ (⟨#[110]⟩ : ByteArray)))]) (fun s_ w' => (Kd.R (Kd.int .u8) 5 w' w.heap.size (fun _ => True) s_ y116) ∧ (Below w.heap.size w w')) ?_ ?_
                      rotate_left
                      · intro hJ1_2
                        refine join_ (σ := Value) 23 #[true, true, false, false, true, true, false, false, true, true, false, false, false, false, false, false, false, false, false, false, false, false, false, false, false, false, false, false, false] (fun s_ => [(23, s_), (27, .string t119)]) (fun s_ w' => (Kd.R (Kd.int .u8) 5 w' w.heap.size (fun _ => True) s_ y116) ∧ (Below w.heap.size w w')) ?_ ?_
                        rotate_left
                        · intro hJ1_5
                          refine join_ (σ := Unit) 22 #[true, false, false, false, true, true, false, false, true, true, true, true, false, false, false, false, false, false, false, false, false, false, false, false, false, false, false, false, false] (fun s_ => [(27, .string t119), (32, .string t120), (33, .string ((⟨#[45]⟩ : ByteArray) ++ t120))]) (fun s_ w' => (Below w.heap.size w w')) ?_ ?_
                          rotate_left
                          · intro hJ5_10
                            refine join_ (σ := Value) 24 #[true, true, false, false, true, false, false, false, true, true, false, false, false, false, false, false, false, false, false, false, false, false, false, false, false, false, false, false, false] (fun s_ => [(23, s_)]) (fun s_ w' => (Kd.R (Kd.int .u8) 5 w' w.heap.size (fun _ => True) s_ y116) ∧ (Below w.heap.size w w')) ?_ ?_
                            rotate_left
                            · intro hJ1
                              refine join_ (σ := Unit) 24 #[true, false, false, false, true, true, false, false, true, true, false, false, false, false, false, false, false, false, false, false, false, false, false, false, false, false, false, false, false] (fun s_ => [(27, .string t119)]) (fun s_ w' => (Below w.heap.size w w')) ?_ ?_
                              rotate_left
                              · intro hJ5
                                refine two_ (i := 1) (j := 5) (Ni := some 23) (Nj := some 27) #[true, true, false, false, true, false, false, false, true, true, false, false, false, false, false, false, false, false, false, false, false, false, false, false, false, false, false, false, false] #[true, false, false, false, true, true, false, false, true, true, false, false, false, false, false, false, false, false, false, false, false, false, false, false, false, false, false, false, false] rfl rfl rfl rfl (two_of HT_.out (by kernel_rfl)) (by decide) (by decide) (fun K hK => ?_) (fun K hK => ?_)
                                · skip
                                  refine Kd.R_lit_step (Kd.int .u8) _ 5 ?hg (N := 23) ?hd (xs := ([t113] : List Int)) (inner := [.int .u8 t113]) (ok := fun _ => True) (okp := fun _ => True) ?hr ?hp (fun _ hk => hk) trivial (Below.refl _ _) (Nat.le_refl _) (by simp) ?_; (case hd => rfl); (case hg => rfl); (case hr => first | (go_simp; done) | (go_simp; rfl)); (case hp => exact (Reps.one (show Kd.M (Kd.int .u8) _ _ _ t113 [.int .u8 t113] from rfl) (Reps.none _ _)))
                                  intro v117 w37 ho38 hb hg_ hnew_
                                  clear hg_ hnew_
                                  (first | rw [← Ny116.out] at ho38 | (simp only [Int.reduceToNat] at ho38; rw [← Ny116.out] at ho38))
                                  have n0_ := Aside0.mk (Kd.R_lower ho38 (below_size (by repeat (first | (with_reducible first | exact HB.out | apply below_alloc | apply pw_below_drewN | apply below_drew1) | exact HB.out | exact Below.refl _ _))))
                                  have n1_ := Aside0.mk (below_step (by repeat (first | (with_reducible first | exact HB.out | apply below_alloc | apply pw_below_drewN | apply below_drew1) | exact HB.out | exact Below.refl _ _)) hb)
                                  clear HB
                                  have HO118 := n0_
                                  have HB := n1_
                                  clear n0_ n1_
                                  clear hb ho38
                                  refine hK.out _ _ trivial (fun hHeld => ?_)
                                  clear hK K
                                  refine norm_ (a' := ?_) ?_ ?_
                                  rotate_left
                                  · show Act.put _ (some 23) _ = _
                                    simp only [Act.put, List.setIfInBounds_toArray, List.set_cons_zero, List.set_cons_succ, i64_w, i32_w]
                                    rfl
                                  exact norm_ (by first | (simp only [putAll, Act.put, List.setIfInBounds_toArray, List.set_cons_zero, List.set_cons_succ]; done) | (simp only [putAll, Act.put, List.setIfInBounds_toArray, List.set_cons_zero, List.set_cons_succ]; rfl)) (hJ1 (v117) _ ⟨(by (with_reducible repeat (first | apply Kd.R_alloc | apply Kd.R_drewN | apply Kd.R_drew)); exact HO118.out), (by repeat (first | (with_reducible first | exact HB.out | apply below_alloc | apply pw_below_drewN | apply below_drew1) | exact HB.out | exact Below.refl _ _))⟩)
                                · skip
                                  refine goes_ Tryd.func15 (by kernel_rfl) rfl #[.int .u64 ji8] (by rfl) rfl rfl (by (try simp only [List.map_toArray, List.map_cons, List.map_nil]); first | done | (simp only [hji8]; rfl) | rfl | (simp only [List.length_drop, List.length_take]; rfl)) ?_
                                  with_reducible refine (spec_RustHex.calls k ji8 t119 _ A10.out).mono ?_
                                  rintro e w37 ⟨rfl, hb⟩
                                  refine ⟨_, rfl, ?_⟩
                                  have n0_ := Aside0.mk (below_step (by repeat (first | (with_reducible first | exact HB.out | apply below_alloc | apply pw_below_drewN | apply below_drew1) | exact HB.out | exact Below.refl _ _)) hb)
                                  clear HB
                                  have HB := n0_
                                  clear n0_
                                  (try clear hb)
                                  (try clear hb2)
                                  (try clear hk)
                                  (try clear hi)
                                  refine hK.out _ _ trivial (fun hHeld => ?_)
                                  clear hK K
                                  refine norm_ (a' := ?_) ?_ ?_
                                  rotate_left
                                  · show Act.put _ (some 27) _ = _
                                    simp only [Act.put, List.setIfInBounds_toArray, List.set_cons_zero, List.set_cons_succ, i64_w, i32_w]
                                    rfl
                                  exact norm_ (by first | (simp only [putAll, Act.put, List.setIfInBounds_toArray, List.set_cons_zero, List.set_cons_succ]; done) | (simp only [putAll, Act.put, List.setIfInBounds_toArray, List.set_cons_zero, List.set_cons_succ]; rfl)) (hJ5 () _ (by repeat (first | (with_reducible first | exact HB.out | apply below_alloc | apply pw_below_drewN | apply below_drew1) | exact HB.out | exact Below.refl _ _)))
                              · skip
                                rintro _ w38 h0_
                                have n0_ : Aside0 (Below w.heap.size w w38) := ⟨h0_⟩
                                clear HB
                                clear h0_
                                have HB := n0_
                                clear n0_
                                have hHeld := trivial
                                refine norm_ (a' := ?_) ?_ ?_
                                rotate_left
                                · simp only [putAll, Act.put, List.setIfInBounds_toArray, List.set_cons_zero, List.set_cons_succ]
                                  rfl
                                refine two_ (i := 1) (j := 10) (Ni := some 23) (Nj := some 32) #[true, true, false, false, true, true, false, false, true, true, false, false, false, false, false, false, false, false, false, false, false, false, false, false, false, false, false, false, false] #[true, false, false, false, true, true, false, false, true, true, true, false, false, false, false, false, false, false, false, false, false, false, false, false, false, false, false, false, false] rfl rfl rfl rfl (two_of HT_.out (by kernel_rfl)) (by decide) (by decide) (fun K hK => ?_) (fun K hK => ?_)
                                · skip
                                  refine Kd.R_lit_step (Kd.int .u8) _ 5 ?hg (N := 23) ?hd (xs := ([t113] : List Int)) (inner := [.int .u8 t113]) (ok := fun _ => True) (okp := fun _ => True) ?hr ?hp (fun _ hk => hk) trivial (Below.refl _ _) (Nat.le_refl _) (by simp) ?_; (case hd => rfl); (case hg => rfl); (case hr => first | (go_simp; done) | (go_simp; rfl)); (case hp => exact (Reps.one (show Kd.M (Kd.int .u8) _ _ _ t113 [.int .u8 t113] from rfl) (Reps.none _ _)))
                                  intro v117 w39 ho40 hb hg_ hnew_
                                  clear hg_ hnew_
                                  (first | rw [← Ny116.out] at ho40 | (simp only [Int.reduceToNat] at ho40; rw [← Ny116.out] at ho40))
                                  have n0_ := Aside0.mk (Kd.R_lower ho40 (below_size (by repeat (first | (with_reducible first | exact HB.out | apply below_alloc | apply pw_below_drewN | apply below_drew1) | exact HB.out | exact Below.refl _ _))))
                                  have n1_ := Aside0.mk (below_step (by repeat (first | (with_reducible first | exact HB.out | apply below_alloc | apply pw_below_drewN | apply below_drew1) | exact HB.out | exact Below.refl _ _)) hb)
                                  clear HB
                                  have HO118 := n0_
                                  have HB := n1_
                                  clear n0_ n1_
                                  clear hb ho40
                                  refine hK.out _ _ trivial (fun hHeld => ?_)
                                  clear hK K
                                  refine norm_ (a' := ?_) ?_ ?_
                                  rotate_left
                                  · show Act.put _ (some 23) _ = _
                                    simp only [Act.put, List.setIfInBounds_toArray, List.set_cons_zero, List.set_cons_succ, i64_w, i32_w]
                                    rfl
                                  exact norm_ (by first | (simp only [putAll, Act.put, List.setIfInBounds_toArray, List.set_cons_zero, List.set_cons_succ]; done) | (simp only [putAll, Act.put, List.setIfInBounds_toArray, List.set_cons_zero, List.set_cons_succ]; rfl)) (hJ1_5 (v117) _ ⟨(by (with_reducible repeat (first | apply Kd.R_alloc | apply Kd.R_drewN | apply Kd.R_drew)); exact HO118.out), (by repeat (first | (with_reducible first | exact HB.out | apply below_alloc | apply pw_below_drewN | apply below_drew1) | exact HB.out | exact Below.refl _ _))⟩)
                                · skip
                                  refine goes_ Tryd.func24 (by kernel_rfl) rfl #[.int .u64 ji8] (by rfl) rfl rfl (by (try simp only [List.map_toArray, List.map_cons, List.map_nil]); first | done | (simp only [hji8]; rfl) | rfl | (simp only [List.length_drop, List.length_take]; rfl)) ?_
                                  with_reducible refine (spec_RustDecimal.calls k ji8 t120 _ A13.out).mono ?_
                                  rintro e w39 ⟨rfl, hb⟩
                                  refine ⟨_, rfl, ?_⟩
                                  have n0_ := Aside0.mk (below_step (by repeat (first | (with_reducible first | exact HB.out | apply below_alloc | apply pw_below_drewN | apply below_drew1) | exact HB.out | exact Below.refl _ _)) hb)
                                  clear HB
                                  have HB := n0_
                                  clear n0_
                                  (try clear hb)
                                  (try clear hb2)
                                  (try clear hk)
                                  (try clear hi)
                                  refine hK.out _ _ trivial (fun hHeld => ?_)
                                  clear hK K
                                  refine norm_ (a' := ?_) ?_ ?_
                                  rotate_left
                                  · show Act.put _ (some 32) _ = _
                                    simp only [Act.put, List.setIfInBounds_toArray, List.set_cons_zero, List.set_cons_succ, i64_w, i32_w]
                                    rfl
                                  refine pure_ (i := 11) (N := some 33) (v := ?_) (a' := ?_) #[true, false, false, false, true, true, false, false, true, true, true, true, false, false, false, false, false, false, false, false, false, false, false, false, false, false, false, false, false] rfl rfl (any_of HT_.out (by kernel_rfl)) (fun _ _ _ h => h) (Or.inl ⟨by rfl, ?_⟩) ?_ ?_
                                  rotate_left
                                  · intro w'
                                    go_simp
                                    with_reducible rfl
                                  rotate_left
                                  · simp only [Act.put, List.setIfInBounds_toArray, List.set_cons_zero, List.set_cons_succ, i64_w, i32_w]
                                    rfl
                                  exact norm_ (by first | (simp only [putAll, Act.put, List.setIfInBounds_toArray, List.set_cons_zero, List.set_cons_succ]; done) | (simp only [putAll, Act.put, List.setIfInBounds_toArray, List.set_cons_zero, List.set_cons_succ]; rfl)) (hJ5_10 () _ (by repeat (first | (with_reducible first | exact HB.out | apply below_alloc | apply pw_below_drewN | apply below_drew1) | exact HB.out | exact Below.refl _ _)))
                            · skip
                              rintro v117 w39 ⟨h0_, h1_⟩
                              have n0_ : Aside0 (Kd.R (Kd.int .u8) 5 w39 w.heap.size (fun _ => True) v117 y116) := ⟨h0_⟩
                              have n1_ : Aside0 (Below w.heap.size w w39) := ⟨h1_⟩
                              clear HB
                              clear h0_ h1_
                              have HO118 := n0_
                              have HB := n1_
                              clear n0_ n1_
                              have hHeld := trivial
                              refine norm_ (a' := ?_) ?_ ?_
                              rotate_left
                              · simp only [putAll, Act.put, List.setIfInBounds_toArray, List.set_cons_zero, List.set_cons_succ]
                                rfl
                              refine two_ (i := 2) (j := 5) (Ni := some 24) (Nj := some 27) #[true, true, true, false, true, false, false, false, true, true, false, false, false, false, false, false, false, false, false, false, false, false, false, false, false, false, false, false, false] #[true, true, false, false, true, true, false, false, true, true, false, false, false, false, false, false, false, false, false, false, false, false, false, false, false, false, false, false, false] rfl rfl rfl rfl (two_of HT_.out (by kernel_rfl)) (by decide) (by decide) (fun K hK => ?_) (fun K hK => ?_)
                              · skip
                                have hcv40 := own_string (P := Tryd.prog) Tryd.underlying27 Tryd.underlying5 Tryd.underlying9 (Kd.own_of_R HO118.out)
                                refine value_ (w1 := ?_) (v := ?_) (by rfl) rfl ?_ ?_
                                rotate_left 2
                                · go_simp
                                  constructor
                                  · rfl
                                  · rfl
                                clear hcv40
                                refine hK.out _ _ trivial (fun hHeld => ?_)
                                clear hK K
                                refine norm_ (a' := ?_) ?_ ?_
                                rotate_left
                                · show Act.put _ (some 24) _ = _
                                  simp only [Act.put, List.setIfInBounds_toArray, List.set_cons_zero, List.set_cons_succ, i64_w, i32_w]
                                  rfl
                                refine pure_ (i := 3) (N := some 25) (v := ?_) (a' := ?_) #[true, true, true, true, true, false, false, false, true, true, false, false, false, false, false, false, false, false, false, false, false, false, false, false, false, false, false, false, false] rfl rfl (any_of HT_.out (by kernel_rfl)) (fun _ _ _ h => h) (Or.inl ⟨by rfl, ?_⟩) ?_ ?_
                                rotate_left
                                · intro w'
                                  go_simp
                                  with_reducible rfl
                                rotate_left
                                · simp only [Act.put, List.setIfInBounds_toArray, List.set_cons_zero, List.set_cons_succ, i64_w, i32_w]
                                  rfl
                                exact norm_ (by first | (simp only [putAll, Act.put, List.setIfInBounds_toArray, List.set_cons_zero, List.set_cons_succ]; done) | (simp only [putAll, Act.put, List.setIfInBounds_toArray, List.set_cons_zero, List.set_cons_succ]; rfl)) (hJ1_2 (v117) _ ⟨(by (with_reducible repeat (first | apply Kd.R_alloc | apply Kd.R_drewN | apply Kd.R_drew)); exact HO118.out), (by repeat (first | (with_reducible first | exact HB.out | apply below_alloc | apply pw_below_drewN | apply below_drew1) | exact HB.out | exact Below.refl _ _))⟩)
                              · skip
                                refine goes_ Tryd.func15 (by kernel_rfl) rfl #[.int .u64 ji8] (by rfl) rfl rfl (by (try simp only [List.map_toArray, List.map_cons, List.map_nil]); first | done | (simp only [hji8]; rfl) | rfl | (simp only [List.length_drop, List.length_take]; rfl)) ?_
                                with_reducible refine (spec_RustHex.calls k ji8 t119 _ A10.out).mono ?_
                                rintro e w40 ⟨rfl, hb⟩
                                refine ⟨_, rfl, ?_⟩
                                have n0_ := Aside0.mk (Kd.R_below (by (with_reducible repeat (first | apply Kd.R_alloc | apply Kd.R_drewN | apply Kd.R_drew)); exact HO118.out) hb)
                                have n1_ := Aside0.mk (below_step (by repeat (first | (with_reducible first | exact HB.out | apply below_alloc | apply pw_below_drewN | apply below_drew1) | exact HB.out | exact Below.refl _ _)) hb)
                                clear HO118
                                clear HB
                                have HO118 := n0_
                                have HB := n1_
                                clear n0_ n1_
                                (try clear hb)
                                (try clear hb2)
                                (try clear hk)
                                (try clear hi)
                                refine hK.out _ _ trivial (fun hHeld => ?_)
                                clear hK K
                                refine norm_ (a' := ?_) ?_ ?_
                                rotate_left
                                · show Act.put _ (some 27) _ = _
                                  simp only [Act.put, List.setIfInBounds_toArray, List.set_cons_zero, List.set_cons_succ, i64_w, i32_w]
                                  rfl
                                exact norm_ (by first | (simp only [putAll, Act.put, List.setIfInBounds_toArray, List.set_cons_zero, List.set_cons_succ]; done) | (simp only [putAll, Act.put, List.setIfInBounds_toArray, List.set_cons_zero, List.set_cons_succ]; rfl)) (hJ1_5 (v117) _ ⟨(by (with_reducible repeat (first | apply Kd.R_alloc | apply Kd.R_drewN | apply Kd.R_drew)); exact HO118.out), (by repeat (first | (with_reducible first | exact HB.out | apply below_alloc | apply pw_below_drewN | apply below_drew1) | exact HB.out | exact Below.refl _ _))⟩)
                          · skip
                            rintro _ w39 h0_
                            have n0_ : Aside0 (Below w.heap.size w w39) := ⟨h0_⟩
                            clear HB
                            clear h0_
                            have HB := n0_
                            clear n0_
                            have hHeld := trivial
                            refine norm_ (a' := ?_) ?_ ?_
                            rotate_left
                            · simp only [putAll, Act.put, List.setIfInBounds_toArray, List.set_cons_zero, List.set_cons_succ]
                              rfl
                            refine one_ (i := 1) (N := some 23) #[true, true, false, false, true, true, false, false, true, true, true, true, false, false, false, false, false, false, false, false, false, false, false, false, false, false, false, false, false] rfl rfl (one_of HT_.out (by kernel_rfl)) (by decide) (fun K hK => ?_)
                            refine Kd.R_lit_step (Kd.int .u8) _ 5 ?hg (N := 23) ?hd (xs := ([t113] : List Int)) (inner := [.int .u8 t113]) (ok := fun _ => True) (okp := fun _ => True) ?hr ?hp (fun _ hk => hk) trivial (Below.refl _ _) (Nat.le_refl _) (by simp) ?_; (case hd => rfl); (case hg => rfl); (case hr => first | (go_simp; done) | (go_simp; rfl)); (case hp => exact (Reps.one (show Kd.M (Kd.int .u8) _ _ _ t113 [.int .u8 t113] from rfl) (Reps.none _ _)))
                            intro v117 w40 ho41 hb hg_ hnew_
                            clear hg_ hnew_
                            (first | rw [← Ny116.out] at ho41 | (simp only [Int.reduceToNat] at ho41; rw [← Ny116.out] at ho41))
                            have n0_ := Aside0.mk (Kd.R_lower ho41 (below_size (by repeat (first | (with_reducible first | exact HB.out | apply below_alloc | apply pw_below_drewN | apply below_drew1) | exact HB.out | exact Below.refl _ _))))
                            have n1_ := Aside0.mk (below_step (by repeat (first | (with_reducible first | exact HB.out | apply below_alloc | apply pw_below_drewN | apply below_drew1) | exact HB.out | exact Below.refl _ _)) hb)
                            clear HB
                            have HO118 := n0_
                            have HB := n1_
                            clear n0_ n1_
                            clear hb ho41
                            refine hK.out _ _ trivial (fun hHeld => ?_)
                            clear hK K
                            refine norm_ (a' := ?_) ?_ ?_
                            rotate_left
                            · show Act.put _ (some 23) _ = _
                              simp only [Act.put, List.setIfInBounds_toArray, List.set_cons_zero, List.set_cons_succ, i64_w, i32_w]
                              rfl
                            exact norm_ (by first | (simp only [putAll, Act.put, List.setIfInBounds_toArray, List.set_cons_zero, List.set_cons_succ]; done) | (simp only [putAll, Act.put, List.setIfInBounds_toArray, List.set_cons_zero, List.set_cons_succ]; rfl)) (hJ1_5_10 (v117) _ ⟨(by (with_reducible repeat (first | apply Kd.R_alloc | apply Kd.R_drewN | apply Kd.R_drew)); exact HO118.out), (by repeat (first | (with_reducible first | exact HB.out | apply below_alloc | apply pw_below_drewN | apply below_drew1) | exact HB.out | exact Below.refl _ _))⟩)
                        · skip
                          rintro v117 w40 ⟨h0_, h1_⟩
                          have n0_ : Aside0 (Kd.R (Kd.int .u8) 5 w40 w.heap.size (fun _ => True) v117 y116) := ⟨h0_⟩
                          have n1_ : Aside0 (Below w.heap.size w w40) := ⟨h1_⟩
                          clear HB
                          clear h0_ h1_
                          have HO118 := n0_
                          have HB := n1_
                          clear n0_ n1_
                          have hHeld := trivial
                          refine norm_ (a' := ?_) ?_ ?_
                          rotate_left
                          · simp only [putAll, Act.put, List.setIfInBounds_toArray, List.set_cons_zero, List.set_cons_succ]
                            rfl
                          refine two_ (i := 2) (j := 10) (Ni := some 24) (Nj := some 32) #[true, true, true, false, true, true, false, false, true, true, false, false, false, false, false, false, false, false, false, false, false, false, false, false, false, false, false, false, false] #[true, true, false, false, true, true, false, false, true, true, true, false, false, false, false, false, false, false, false, false, false, false, false, false, false, false, false, false, false] rfl rfl rfl rfl (two_of HT_.out (by kernel_rfl)) (by decide) (by decide) (fun K hK => ?_) (fun K hK => ?_)
                          · skip
                            have hcv41 := own_string (P := Tryd.prog) Tryd.underlying27 Tryd.underlying5 Tryd.underlying9 (Kd.own_of_R HO118.out)
                            refine value_ (w1 := ?_) (v := ?_) (by rfl) rfl ?_ ?_
                            rotate_left 2
                            · go_simp
                              constructor
                              · rfl
                              · rfl
                            clear hcv41
                            refine hK.out _ _ trivial (fun hHeld => ?_)
                            clear hK K
                            refine norm_ (a' := ?_) ?_ ?_
                            rotate_left
                            · show Act.put _ (some 24) _ = _
                              simp only [Act.put, List.setIfInBounds_toArray, List.set_cons_zero, List.set_cons_succ, i64_w, i32_w]
                              rfl
                            refine pure_ (i := 3) (N := some 25) (v := ?_) (a' := ?_) #[true, true, true, true, true, true, false, false, true, true, false, false, false, false, false, false, false, false, false, false, false, false, false, false, false, false, false, false, false] rfl rfl (any_of HT_.out (by kernel_rfl)) (fun _ _ _ h => h) (Or.inl ⟨by rfl, ?_⟩) ?_ ?_
                            rotate_left
                            · intro w'
                              go_simp
                              with_reducible rfl
                            rotate_left
                            · simp only [Act.put, List.setIfInBounds_toArray, List.set_cons_zero, List.set_cons_succ, i64_w, i32_w]
                              rfl
                            refine pure_ (i := 6) (N := some 28) (v := ?_) (a' := ?_) #[true, true, true, true, true, true, true, false, true, true, false, false, false, false, false, false, false, false, false, false, false, false, false, false, false, false, false, false, false] rfl rfl (any_of HT_.out (by kernel_rfl)) (fun _ _ _ h => h) (Or.inl ⟨by rfl, ?_⟩) ?_ ?_
                            rotate_left
                            · intro w'
                              go_simp
                              with_reducible rfl
                            rotate_left
                            · simp only [Act.put, List.setIfInBounds_toArray, List.set_cons_zero, List.set_cons_succ, i64_w, i32_w]
                              rfl
                            refine pure_ (i := 7) (N := some 29) (v := ?_) (a' := ?_) #[true, true, true, true, true, true, true, true, true, true, false, false, false, false, false, false, false, false, false, false, false, false, false, false, false, false, false, false, false] rfl rfl (any_of HT_.out (by kernel_rfl)) (fun _ _ _ h => h) (Or.inl ⟨by rfl, ?_⟩) ?_ ?_
                            rotate_left
                            · intro w'
                              go_simp
                              with_reducible rfl
                            rotate_left
                            · simp only [Act.put, List.setIfInBounds_toArray, List.set_cons_zero, List.set_cons_succ, i64_w, i32_w]
                              rfl
                            exact norm_ (by first | (simp only [putAll, Act.put, List.setIfInBounds_toArray, List.set_cons_zero, List.set_cons_succ]; done) | (simp only [putAll, Act.put, List.setIfInBounds_toArray, List.set_cons_zero, List.set_cons_succ]; rfl)) (hJ1_2_5 (v117) _ ⟨(by (with_reducible repeat (first | apply Kd.R_alloc | apply Kd.R_drewN | apply Kd.R_drew)); exact HO118.out), (by repeat (first | (with_reducible first | exact HB.out | apply below_alloc | apply pw_below_drewN | apply below_drew1) | exact HB.out | exact Below.refl _ _))⟩)
                          · skip
                            refine goes_ Tryd.func24 (by kernel_rfl) rfl #[.int .u64 ji8] (by rfl) rfl rfl (by (try simp only [List.map_toArray, List.map_cons, List.map_nil]); first | done | (simp only [hji8]; rfl) | rfl | (simp only [List.length_drop, List.length_take]; rfl)) ?_
                            with_reducible refine (spec_RustDecimal.calls k ji8 t120 _ A13.out).mono ?_
                            rintro e w41 ⟨rfl, hb⟩
                            refine ⟨_, rfl, ?_⟩
                            have n0_ := Aside0.mk (Kd.R_below (by (with_reducible repeat (first | apply Kd.R_alloc | apply Kd.R_drewN | apply Kd.R_drew)); exact HO118.out) hb)
                            have n1_ := Aside0.mk (below_step (by repeat (first | (with_reducible first | exact HB.out | apply below_alloc | apply pw_below_drewN | apply below_drew1) | exact HB.out | exact Below.refl _ _)) hb)
                            clear HO118
                            clear HB
                            have HO118 := n0_
                            have HB := n1_
                            clear n0_ n1_
                            (try clear hb)
                            (try clear hb2)
                            (try clear hk)
                            (try clear hi)
                            refine hK.out _ _ trivial (fun hHeld => ?_)
                            clear hK K
                            refine norm_ (a' := ?_) ?_ ?_
                            rotate_left
                            · show Act.put _ (some 32) _ = _
                              simp only [Act.put, List.setIfInBounds_toArray, List.set_cons_zero, List.set_cons_succ, i64_w, i32_w]
                              rfl
                            refine pure_ (i := 11) (N := some 33) (v := ?_) (a' := ?_) #[true, true, false, false, true, true, false, false, true, true, true, true, false, false, false, false, false, false, false, false, false, false, false, false, false, false, false, false, false] rfl rfl (any_of HT_.out (by kernel_rfl)) (fun _ _ _ h => h) (Or.inl ⟨by rfl, ?_⟩) ?_ ?_
                            rotate_left
                            · intro w'
                              go_simp
                              with_reducible rfl
                            rotate_left
                            · simp only [Act.put, List.setIfInBounds_toArray, List.set_cons_zero, List.set_cons_succ, i64_w, i32_w]
                              rfl
                            exact norm_ (by first | (simp only [putAll, Act.put, List.setIfInBounds_toArray, List.set_cons_zero, List.set_cons_succ]; done) | (simp only [putAll, Act.put, List.setIfInBounds_toArray, List.set_cons_zero, List.set_cons_succ]; rfl)) (hJ1_5_10 (v117) _ ⟨(by (with_reducible repeat (first | apply Kd.R_alloc | apply Kd.R_drewN | apply Kd.R_drew)); exact HO118.out), (by repeat (first | (with_reducible first | exact HB.out | apply below_alloc | apply pw_below_drewN | apply below_drew1) | exact HB.out | exact Below.refl _ _))⟩)
                      · skip
                        rintro v117 w40 ⟨h0_, h1_⟩
                        have n0_ : Aside0 (Kd.R (Kd.int .u8) 5 w40 w.heap.size (fun _ => True) v117 y116) := ⟨h0_⟩
                        have n1_ : Aside0 (Below w.heap.size w w40) := ⟨h1_⟩
                        clear HB
                        clear h0_ h1_
                        have HO118 := n0_
                        have HB := n1_
                        clear n0_ n1_
                        have hHeld := trivial
                        refine norm_ (a' := ?_) ?_ ?_
                        rotate_left
                        · simp only [putAll, Act.put, List.setIfInBounds_toArray, List.set_cons_zero, List.set_cons_succ]
                          rfl
                        refine one_ (i := 5) (N := some 27) #[true, true, true, true, true, true, false, false, true, true, false, false, false, false, false, false, false, false, false, false, false, false, false, false, false, false, false, false, false] rfl rfl (one_of HT_.out (by kernel_rfl)) (by decide) (fun K hK => ?_)
                        refine goes_ Tryd.func15 (by kernel_rfl) rfl #[.int .u64 ji8] (by rfl) rfl rfl (by (try simp only [List.map_toArray, List.map_cons, List.map_nil]); first | done | (simp only [hji8]; rfl) | rfl | (simp only [List.length_drop, List.length_take]; rfl)) ?_
                        with_reducible refine (spec_RustHex.calls k ji8 t119 _ A10.out).mono ?_
                        rintro e w41 ⟨rfl, hb⟩
                        refine ⟨_, rfl, ?_⟩
                        have n0_ := Aside0.mk (Kd.R_below (by (with_reducible repeat (first | apply Kd.R_alloc | apply Kd.R_drewN | apply Kd.R_drew)); exact HO118.out) hb)
                        have n1_ := Aside0.mk (below_step (by repeat (first | (with_reducible first | exact HB.out | apply below_alloc | apply pw_below_drewN | apply below_drew1) | exact HB.out | exact Below.refl _ _)) hb)
                        clear HO118
                        clear HB
                        have HO118 := n0_
                        have HB := n1_
                        clear n0_ n1_
                        (try clear hb)
                        (try clear hb2)
                        (try clear hk)
                        (try clear hi)
                        refine hK.out _ _ trivial (fun hHeld => ?_)
                        clear hK K
                        refine norm_ (a' := ?_) ?_ ?_
                        rotate_left
                        · show Act.put _ (some 27) _ = _
                          simp only [Act.put, List.setIfInBounds_toArray, List.set_cons_zero, List.set_cons_succ, i64_w, i32_w]
                          rfl
                        refine pure_ (i := 6) (N := some 28) (v := ?_) (a' := ?_) #[true, true, true, true, true, true, true, false, true, true, false, false, false, false, false, false, false, false, false, false, false, false, false, false, false, false, false, false, false] rfl rfl (any_of HT_.out (by kernel_rfl)) (fun _ _ _ h => h) (Or.inl ⟨by rfl, ?_⟩) ?_ ?_
                        rotate_left
                        · intro w'
                          go_simp
                          with_reducible rfl
                        rotate_left
                        · simp only [Act.put, List.setIfInBounds_toArray, List.set_cons_zero, List.set_cons_succ, i64_w, i32_w]
                          rfl
                        refine pure_ (i := 7) (N := some 29) (v := ?_) (a' := ?_) #[true, true, true, true, true, true, true, true, true, true, false, false, false, false, false, false, false, false, false, false, false, false, false, false, false, false, false, false, false] rfl rfl (any_of HT_.out (by kernel_rfl)) (fun _ _ _ h => h) (Or.inl ⟨by rfl, ?_⟩) ?_ ?_
                        rotate_left
                        · intro w'
                          go_simp
                          with_reducible rfl
                        rotate_left
                        · simp only [Act.put, List.setIfInBounds_toArray, List.set_cons_zero, List.set_cons_succ, i64_w, i32_w]
                          rfl
                        exact norm_ (by first | (simp only [putAll, Act.put, List.setIfInBounds_toArray, List.set_cons_zero, List.set_cons_succ]; done) | (simp only [putAll, Act.put, List.setIfInBounds_toArray, List.set_cons_zero, List.set_cons_succ]; rfl)) (hJ1_2_5 (v117) _ ⟨(by (with_reducible repeat (first | apply Kd.R_alloc | apply Kd.R_drewN | apply Kd.R_drew)); exact HO118.out), (by repeat (first | (with_reducible first | exact HB.out | apply below_alloc | apply pw_below_drewN | apply below_drew1) | exact HB.out | exact Below.refl _ _))⟩)
                    · skip
                      rintro v117 w41 ⟨h0_, h1_⟩
                      have n0_ : Aside0 (Kd.R (Kd.int .u8) 5 w41 w.heap.size (fun _ => True) v117 y116) := ⟨h0_⟩
                      have n1_ : Aside0 (Below w.heap.size w w41) := ⟨h1_⟩
                      clear HB
                      clear h0_ h1_
                      have HO118 := n0_
                      have HB := n1_
                      clear n0_ n1_
                      have hHeld := trivial
                      refine norm_ (a' := ?_) ?_ ?_
                      rotate_left
                      · simp only [putAll, Act.put, List.setIfInBounds_toArray, List.set_cons_zero, List.set_cons_succ]
                        rfl
                      refine one_ (i := 2) (N := some 24) #[true, true, true, false, true, true, false, false, true, true, true, true, false, false, false, false, false, false, false, false, false, false, false, false, false, false, false, false, false] rfl rfl (one_of HT_.out (by kernel_rfl)) (by decide) (fun K hK => ?_)
                      have hcv42 := own_string (P := Tryd.prog) Tryd.underlying27 Tryd.underlying5 Tryd.underlying9 (Kd.own_of_R HO118.out)
                      refine value_ (w1 := ?_) (v := ?_) (by rfl) rfl ?_ ?_
                      rotate_left 2
                      · go_simp
                        constructor
                        · rfl
                        · rfl
                      clear hcv42
                      refine hK.out _ _ trivial (fun hHeld => ?_)
                      clear hK K
                      refine norm_ (a' := ?_) ?_ ?_
                      rotate_left
                      · show Act.put _ (some 24) _ = _
                        simp only [Act.put, List.setIfInBounds_toArray, List.set_cons_zero, List.set_cons_succ, i64_w, i32_w]
                        rfl
                      refine pure_ (i := 3) (N := some 25) (v := ?_) (a' := ?_) #[true, true, true, true, true, true, false, false, true, true, true, true, false, false, false, false, false, false, false, false, false, false, false, false, false, false, false, false, false] rfl rfl (any_of HT_.out (by kernel_rfl)) (fun _ _ _ h => h) (Or.inl ⟨by rfl, ?_⟩) ?_ ?_
                      rotate_left
                      · intro w'
                        go_simp
                        with_reducible rfl
                      rotate_left
                      · simp only [Act.put, List.setIfInBounds_toArray, List.set_cons_zero, List.set_cons_succ, i64_w, i32_w]
                        rfl
                      refine pure_ (i := 6) (N := some 28) (v := ?_) (a' := ?_) #[true, true, true, true, true, true, true, false, true, true, true, true, false, false, false, false, false, false, false, false, false, false, false, false, false, false, false, false, false] rfl rfl (any_of HT_.out (by kernel_rfl)) (fun _ _ _ h => h) (Or.inl ⟨by rfl, ?_⟩) ?_ ?_
                      rotate_left
                      · intro w'
                        go_simp
                        with_reducible rfl
                      rotate_left
                      · simp only [Act.put, List.setIfInBounds_toArray, List.set_cons_zero, List.set_cons_succ, i64_w, i32_w]
                        rfl
                      refine pure_ (i := 7) (N := some 29) (v := ?_) (a' := ?_) #[true, true, true, true, true, true, true, true, true, true, true, true, false, false, false, false, false, false, false, false, false, false, false, false, false, false, false, false, false] rfl rfl (any_of HT_.out (by kernel_rfl)) (fun _ _ _ h => h) (Or.inl ⟨by rfl, ?_⟩) ?_ ?_
                      rotate_left
                      · intro w'
                        go_simp
                        with_reducible rfl
                      rotate_left
                      · simp only [Act.put, List.setIfInBounds_toArray, List.set_cons_zero, List.set_cons_succ, i64_w, i32_w]
                        rfl
                      exact norm_ (by first | (simp only [putAll, Act.put, List.setIfInBounds_toArray, List.set_cons_zero, List.set_cons_succ]; done) | (simp only [putAll, Act.put, List.setIfInBounds_toArray, List.set_cons_zero, List.set_cons_succ]; rfl)) (hJ1_2_5_10 (v117) _ ⟨(by (with_reducible repeat (first | apply Kd.R_alloc | apply Kd.R_drewN | apply Kd.R_drew)); exact HO118.out), (by repeat (first | (with_reducible first | exact HB.out | apply below_alloc | apply pw_below_drewN | apply below_drew1) | exact HB.out | exact Below.refl _ _))⟩)
                  · skip
                    rintro v117 w41 ⟨h0_, h1_⟩
                    have n0_ : Aside0 (Kd.R (Kd.int .u8) 5 w41 w.heap.size (fun _ => True) v117 y116) := ⟨h0_⟩
                    have n1_ : Aside0 (Below w.heap.size w w41) := ⟨h1_⟩
                    clear HB
                    clear h0_ h1_
                    have HO118 := n0_
                    have HB := n1_
                    clear n0_ n1_
                    have hHeld := trivial
                    refine norm_ (a' := ?_) ?_ ?_
                    rotate_left
                    · simp only [putAll, Act.put, List.setIfInBounds_toArray, List.set_cons_zero, List.set_cons_succ]
                      rfl
                    refine one_ (i := 10) (N := some 32) #[true, true, true, true, true, true, true, true, true, true, true, false, false, false, false, false, false, false, false, false, false, false, false, false, false, false, false, false, false] rfl rfl (one_of HT_.out (by kernel_rfl)) (by decide) (fun K hK => ?_)
                    refine goes_ Tryd.func24 (by kernel_rfl) rfl #[.int .u64 ji8] (by rfl) rfl rfl (by (try simp only [List.map_toArray, List.map_cons, List.map_nil]); first | done | (simp only [hji8]; rfl) | rfl | (simp only [List.length_drop, List.length_take]; rfl)) ?_
                    with_reducible refine (spec_RustDecimal.calls k ji8 t120 _ A13.out).mono ?_
                    rintro e w42 ⟨rfl, hb⟩
                    refine ⟨_, rfl, ?_⟩
                    have n0_ := Aside0.mk (Kd.R_below (by (with_reducible repeat (first | apply Kd.R_alloc | apply Kd.R_drewN | apply Kd.R_drew)); exact HO118.out) hb)
                    have n1_ := Aside0.mk (below_step (by repeat (first | (with_reducible first | exact HB.out | apply below_alloc | apply pw_below_drewN | apply below_drew1) | exact HB.out | exact Below.refl _ _)) hb)
                    clear HO118
                    clear HB
                    have HO118 := n0_
                    have HB := n1_
                    clear n0_ n1_
                    (try clear hb)
                    (try clear hb2)
                    (try clear hk)
                    (try clear hi)
                    refine hK.out _ _ trivial (fun hHeld => ?_)
                    clear hK K
                    refine norm_ (a' := ?_) ?_ ?_
                    rotate_left
                    · show Act.put _ (some 32) _ = _
                      simp only [Act.put, List.setIfInBounds_toArray, List.set_cons_zero, List.set_cons_succ, i64_w, i32_w]
                      rfl
                    refine pure_ (i := 11) (N := some 33) (v := ?_) (a' := ?_) #[true, true, true, true, true, true, true, true, true, true, true, true, false, false, false, false, false, false, false, false, false, false, false, false, false, false, false, false, false] rfl rfl (any_of HT_.out (by kernel_rfl)) (fun _ _ _ h => h) (Or.inl ⟨by rfl, ?_⟩) ?_ ?_
                    rotate_left
                    · intro w'
                      go_simp
                      with_reducible rfl
                    rotate_left
                    · simp only [Act.put, List.setIfInBounds_toArray, List.set_cons_zero, List.set_cons_succ, i64_w, i32_w]
                      rfl
                    exact norm_ (by first | (simp only [putAll, Act.put, List.setIfInBounds_toArray, List.set_cons_zero, List.set_cons_succ]; done) | (simp only [putAll, Act.put, List.setIfInBounds_toArray, List.set_cons_zero, List.set_cons_succ]; rfl)) (hJ1_2_5_10 (v117) _ ⟨(by (with_reducible repeat (first | apply Kd.R_alloc | apply Kd.R_drewN | apply Kd.R_drew)); exact HO118.out), (by repeat (first | (with_reducible first | exact HB.out | apply below_alloc | apply pw_below_drewN | apply below_drew1) | exact HB.out | exact Below.refl _ _))⟩)
                rintro v117 w42 ⟨h0_, h1_⟩
                have n0_ : Aside0 (Kd.R (Kd.int .u8) 5 w42 w.heap.size (fun _ => True) v117 y116) := ⟨h0_⟩
                have n1_ : Aside0 (Below w.heap.size w w42) := ⟨h1_⟩
                clear HB
                clear h0_ h1_
                have HO118 := n0_
                have HB := n1_
                clear n0_ n1_
                have hHeld := trivial
                refine norm_ (a' := ?_) ?_ ?_
                rotate_left
                · simp only [putAll, Act.put, List.setIfInBounds_toArray, List.set_cons_zero, List.set_cons_succ]
                  rfl
                refine one_ (i := 12) (N := some 34) #[true, true, true, true, true, true, true, true, true, true, true, true, true, false, false, false, false, false, false, false, false, false, false, false, false, false, false, false, false] rfl rfl (one_of HT_.out (by kernel_rfl)) (by decide) (fun K hK => ?_)
                refine goes_ Tryd.func22 (by kernel_rfl) rfl #[.string ((((strOfNums y116) ++ (⟨#[110]⟩ : ByteArray)) ++ t119) ++ (⟨#[95]⟩ : ByteArray)), .string a1, .string ((⟨#[45]⟩ : ByteArray) ++ t120)] (by rfl) rfl rfl (by (try simp only [List.map_toArray, List.map_cons, List.map_nil]); first | done | rfl | (simp only [List.length_drop, List.length_take]; rfl)) ?_
                with_reducible refine (laws_constantIs.calls ((((strOfNums y116) ++ (⟨#[110]⟩ : ByteArray)) ++ t119) ++ (⟨#[95]⟩ : ByteArray)) a1 ((⟨#[45]⟩ : ByteArray) ++ t120) false _ (show StrIs _ from ?side1) A15.out).mono ?_
                (case side1 => exact Stays.below hT_ (by first | (repeat (first | (with_reducible first | exact HB.out | apply below_alloc | apply pw_below_drewN | apply below_drew1) | exact HB.out | exact Below.refl _ _)) | (repeat (first | exact Below.refl _ _ | apply below_drew1 | apply pw_below_drewN))))
                rintro e w43 ⟨rfl, hb⟩
                refine ⟨_, rfl, ?_⟩
                have n0_ := Aside0.mk (Kd.R_below (by (with_reducible repeat (first | apply Kd.R_alloc | apply Kd.R_drewN | apply Kd.R_drew)); exact HO118.out) hb)
                have n1_ := Aside0.mk (below_step (by repeat (first | (with_reducible first | exact HB.out | apply below_alloc | apply pw_below_drewN | apply below_drew1) | exact HB.out | exact Below.refl _ _)) hb)
                clear HO118
                clear HB
                have HO118 := n0_
                have HB := n1_
                clear n0_ n1_
                (try clear hb)
                (try clear hb2)
                (try clear hk)
                (try clear hi)
                refine hK.out _ _ trivial (fun hHeld => ?_)
                clear hK K
                refine norm_ (a' := ?_) ?_ ?_
                rotate_left
                · show Act.put _ (some 34) _ = _
                  simp only [Act.put, List.setIfInBounds_toArray, List.set_cons_zero, List.set_cons_succ, i64_w, i32_w]
                  rfl
                refine pure_ (i := 13) (N := some 35) (v := ?_) (a' := ?_) #[true, true, true, true, true, true, true, true, true, true, true, true, true, true, false, false, false, false, false, false, false, false, false, false, false, false, false, false, false] rfl rfl (any_of HT_.out (by kernel_rfl)) (fun _ _ _ h => h) (Or.inl ⟨by rfl, ?_⟩) ?_ ?_
                rotate_left
                · intro w'
                  go_simp
                  with_reducible rfl
                rotate_left
                · simp only [Act.put, List.setIfInBounds_toArray, List.set_cons_zero, List.set_cons_succ, i64_w, i32_w]
                  rfl
                refine pure_ (i := 14) (N := some 36) (v := undef) (a' := ?_) #[true, true, true, true, true, true, true, true, true, true, true, true, true, true, true, false, false, false, false, false, false, false, false, false, false, false, false, false, false] rfl rfl (any_of HT_.out (by kernel_rfl)) (fun _ _ _ h => h) (Or.inr ⟨by rfl, rfl⟩) ?_ ?_
                rotate_left
                · simp only [Act.put, List.setIfInBounds_toArray, List.set_cons_zero, List.set_cons_succ, i64_w, i32_w]
                  rfl
                refine pure_ (i := 15) (N := some 37) (v := undef) (a' := ?_) #[true, true, true, true, true, true, true, true, true, true, true, true, true, true, true, true, false, false, false, false, false, false, false, false, false, false, false, false, false] rfl rfl (any_of HT_.out (by kernel_rfl)) (fun _ _ _ h => h) (Or.inr ⟨by rfl, rfl⟩) ?_ ?_
                rotate_left
                · simp only [Act.put, List.setIfInBounds_toArray, List.set_cons_zero, List.set_cons_succ, i64_w, i32_w]
                  rfl
                refine pure_ (i := 16) (N := some 38) (v := undef) (a' := ?_) #[true, true, true, true, true, true, true, true, true, true, true, true, true, true, true, true, true, false, false, false, false, false, false, false, false, false, false, false, false] rfl rfl (any_of HT_.out (by kernel_rfl)) (fun _ _ _ h => h) (Or.inr ⟨by rfl, rfl⟩) ?_ ?_
                rotate_left
                · simp only [Act.put, List.setIfInBounds_toArray, List.set_cons_zero, List.set_cons_succ, i64_w, i32_w]
                  rfl
                refine pure_ (i := 17) (N := some 39) (v := undef) (a' := ?_) #[true, true, true, true, true, true, true, true, true, true, true, true, true, true, true, true, true, true, false, false, false, false, false, false, false, false, false, false, false] rfl rfl (any_of HT_.out (by kernel_rfl)) (fun _ _ _ h => h) (Or.inr ⟨by rfl, rfl⟩) ?_ ?_
                rotate_left
                · simp only [Act.put, List.setIfInBounds_toArray, List.set_cons_zero, List.set_cons_succ, i64_w, i32_w]
                  rfl
                refine pure_ (i := 18) (N := some 40) (v := undef) (a' := ?_) #[true, true, true, true, true, true, true, true, true, true, true, true, true, true, true, true, true, true, true, false, false, false, false, false, false, false, false, false, false] rfl rfl (any_of HT_.out (by kernel_rfl)) (fun _ _ _ h => h) (Or.inr ⟨by rfl, rfl⟩) ?_ ?_
                rotate_left
                · simp only [Act.put, List.setIfInBounds_toArray, List.set_cons_zero, List.set_cons_succ, i64_w, i32_w]
                  rfl
                refine pure_ (i := 19) (N := some 41) (v := undef) (a' := ?_) #[true, true, true, true, true, true, true, true, true, true, true, true, true, true, true, true, true, true, true, true, false, false, false, false, false, false, false, false, false] rfl rfl (any_of HT_.out (by kernel_rfl)) (fun _ _ _ h => h) (Or.inr ⟨by rfl, rfl⟩) ?_ ?_
                rotate_left
                · simp only [Act.put, List.setIfInBounds_toArray, List.set_cons_zero, List.set_cons_succ, i64_w, i32_w]
                  rfl
                refine pure_ (i := 20) (N := some 42) (v := undef) (a' := ?_) #[true, true, true, true, true, true, true, true, true, true, true, true, true, true, true, true, true, true, true, true, true, false, false, false, false, false, false, false, false] rfl rfl (any_of HT_.out (by kernel_rfl)) (fun _ _ _ h => h) (Or.inr ⟨by rfl, rfl⟩) ?_ ?_
                rotate_left
                · simp only [Act.put, List.setIfInBounds_toArray, List.set_cons_zero, List.set_cons_succ, i64_w, i32_w]
                  rfl
                refine pure_ (i := 21) (N := some 43) (v := undef) (a' := ?_) #[true, true, true, true, true, true, true, true, true, true, true, true, true, true, true, true, true, true, true, true, true, true, false, false, false, false, false, false, false] rfl rfl (any_of HT_.out (by kernel_rfl)) (fun _ _ _ h => h) (Or.inr ⟨by rfl, rfl⟩) ?_ ?_
                rotate_left
                · simp only [Act.put, List.setIfInBounds_toArray, List.set_cons_zero, List.set_cons_succ, i64_w, i32_w]
                  rfl
                refine pure_ (i := 22) (N := some 44) (v := undef) (a' := ?_) #[true, true, true, true, true, true, true, true, true, true, true, true, true, true, true, true, true, true, true, true, true, true, true, false, false, false, false, false, false] rfl rfl (any_of HT_.out (by kernel_rfl)) (fun _ _ _ h => h) (Or.inr ⟨by rfl, rfl⟩) ?_ ?_
                rotate_left
                · simp only [Act.put, List.setIfInBounds_toArray, List.set_cons_zero, List.set_cons_succ, i64_w, i32_w]
                  rfl
                refine pure_ (i := 23) (N := some 45) (v := undef) (a' := ?_) #[true, true, true, true, true, true, true, true, true, true, true, true, true, true, true, true, true, true, true, true, true, true, true, true, false, false, false, false, false] rfl rfl (any_of HT_.out (by kernel_rfl)) (fun _ _ _ h => h) (Or.inr ⟨by rfl, rfl⟩) ?_ ?_
                rotate_left
                · simp only [Act.put, List.setIfInBounds_toArray, List.set_cons_zero, List.set_cons_succ, i64_w, i32_w]
                  rfl
                refine pure_ (i := 24) (N := some 46) (v := undef) (a' := ?_) #[true, true, true, true, true, true, true, true, true, true, true, true, true, true, true, true, true, true, true, true, true, true, true, true, true, false, false, false, false] rfl rfl (any_of HT_.out (by kernel_rfl)) (fun _ _ _ h => h) (Or.inr ⟨by rfl, rfl⟩) ?_ ?_
                rotate_left
                · simp only [Act.put, List.setIfInBounds_toArray, List.set_cons_zero, List.set_cons_succ, i64_w, i32_w]
                  rfl
                refine pure_ (i := 25) (N := some 47) (v := undef) (a' := ?_) #[true, true, true, true, true, true, true, true, true, true, true, true, true, true, true, true, true, true, true, true, true, true, true, true, true, true, false, false, false] rfl rfl (any_of HT_.out (by kernel_rfl)) (fun _ _ _ h => h) (Or.inr ⟨by rfl, rfl⟩) ?_ ?_
                rotate_left
                · simp only [Act.put, List.setIfInBounds_toArray, List.set_cons_zero, List.set_cons_succ, i64_w, i32_w]
                  rfl
                refine pure_ (i := 26) (N := some 48) (v := undef) (a' := ?_) #[true, true, true, true, true, true, true, true, true, true, true, true, true, true, true, true, true, true, true, true, true, true, true, true, true, true, true, false, false] rfl rfl (any_of HT_.out (by kernel_rfl)) (fun _ _ _ h => h) (Or.inr ⟨by rfl, rfl⟩) ?_ ?_
                rotate_left
                · simp only [Act.put, List.setIfInBounds_toArray, List.set_cons_zero, List.set_cons_succ, i64_w, i32_w]
                  rfl
                refine pure_ (i := 27) (N := some 49) (v := ?_) (a' := ?_) #[true, true, true, true, true, true, true, true, true, true, true, true, true, true, true, true, true, true, true, true, true, true, true, true, true, true, true, true, false] rfl rfl (any_of HT_.out (by kernel_rfl)) (fun _ _ _ h => h) (Or.inl ⟨by rfl, ?_⟩) ?_ ?_
                rotate_left
                · intro w'
                  go_simp
                  with_reducible rfl
                rotate_left
                · simp only [Act.put, List.setIfInBounds_toArray, List.set_cons_zero, List.set_cons_succ, i64_w, i32_w]
                  rfl
                refine pure_ (i := 28) (N := some 4) (v := ?_) (a' := ?_) #[true, true, true, true, true, true, true, true, true, true, true, true, true, true, true, true, true, true, true, true, true, true, true, true, true, true, true, true, true] rfl rfl (any_of HT_.out (by kernel_rfl)) (fun _ _ _ h => h) (Or.inl ⟨by rfl, ?_⟩) ?_ ?_
                rotate_left
                · intro w'
                  go_simp
                  with_reducible rfl
                rotate_left
                · simp only [Act.put, List.setIfInBounds_toArray, List.set_cons_zero, List.set_cons_succ, i64_w, i32_w]
                  rfl
                refine done_ (done_of HT_.out (by kernel_rfl)) ?_
                try go_wp2
                go_ret
                exact ⟨by first | rfl | (simp [errW_none, errW_some] <;> rfl) | (simp only [← hji6, ← hji8]; first | rfl | (simp [errW_none, errW_some] <;> rfl)) | (simp [*, errW_none, errW_some] <;> rfl), by repeat (first | (with_reducible first | exact HB.out | apply below_alloc | apply pw_below_drewN | apply below_drew1) | exact HB.out)⟩
            · rw [if_neg c14] at H
              exact absurd H (by simp)
          · rw [if_neg c12] at H
            exact absurd H (by simp)
        · rw [if_neg c11] at H
          exact absurd H (by simp)
      · rw [if_neg c9] at H
        exact absurd H (by simp)
    · rw [if_neg c7] at H
      exact absurd H (by simp)

/-- THE ONE PURE STATEMENT of laws_FnConstantLeast: yours. -/
def laws_FnConstantLeast.Pure : Prop := ∀ (a0 : Int) (a1 : ByteArray), (Lit.int .i64 a0).wf = true → a1.size ≤ 140737488351232 → ∃ k, laws_FnConstantLeast.f k a0 a1 = some true
theorem laws_FnConstantLeast.walk (P : laws_FnConstantLeast.Pure) (a0 : Int) (a1 : ByteArray) (w : World) (hT_ : StrIs w) (w0 : (Lit.int .i64 a0).wf = true) (w1 : a1.size ≤ 140737488351232) :
    Calls Tryd.prog 6 #[.int .i64 a0, .string a1] w fun e w' => e = .returned (.bool true) ∧ Below w.heap.size w w' := by
  obtain ⟨k, h⟩ := P a0 a1 w0 w1
  refine (laws_FnConstantLeast.calls k a0 a1 true w hT_ h).mono ?_
  rintro e w' ⟨rfl, hd⟩
  exact ⟨rfl, hd⟩

end Go.Proofs.YtpmlnhddkbgefaaDoor.PFnConstantLeast
