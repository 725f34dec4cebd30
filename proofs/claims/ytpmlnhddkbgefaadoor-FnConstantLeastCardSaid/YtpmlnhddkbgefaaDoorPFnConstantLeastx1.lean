/- Written by a program of this session (wip/tools/myprint.py) with the kit's print: contracts of the functions that one statement reaches; functions that are proved by hand are taken as printed. Conditions: none. -/
import Derived.Test.YtpmlnhddkbgefaaDoorPFnConstantLeastx0
namespace Go.Proofs.YtpmlnhddkbgefaaDoor.PFnConstantLeast
open Go.RowKit Go.Proofs.YtpmlnhddkbgefaaDoorW.PrintWords Go.Proofs.YtpmlnhddkbgefaaDoorW.PrintLast Go.Proofs.YtpmlnhddkbgefaaDoorW.PrintMore
attribute [local go_sem] max2_int min2_int max_two min_two max_three min_three max_four min_four   -- for this text's walks alone
set_option linter.unusedVariables false
set_option linter.unusedSimpArgs false

/-! ### spec_rustHex: function 39 -/
def spec_rustHex.f : Nat → Int → Option (ByteArray)
  | 0, _ => none
  | k + 1, a0 => if a0 < 16 then (if 0 ≤ a0 then (if a0 ≤ (IntKind.u64.wrap (a0 + 1)) then (if (IntKind.u64.wrap (a0 + 1)) ≤ 16 then (some ((⟨#[48, 49, 50, 51, 52, 53, 54, 55, 56, 57, 97, 98, 99, 100, 101, 102]⟩ : ByteArray).extract (a0 : Int).toNat ((IntKind.u64.wrap (a0 + 1)) : Int).toNat)) else (none)) else (none)) else (none)) else ((spec_rustHex.f k (IntKind.u64.wrap (Int.tdiv a0 16))).bind fun t101 => (if 0 ≤ (Int.tmod a0 16) then (if (Int.tmod a0 16) ≤ (IntKind.u64.wrap ((Int.tmod a0 16) + 1)) then (if (IntKind.u64.wrap ((Int.tmod a0 16) + 1)) ≤ 16 then (if t101.size + ((⟨#[48, 49, 50, 51, 52, 53, 54, 55, 56, 57, 97, 98, 99, 100, 101, 102]⟩ : ByteArray).extract ((Int.tmod a0 16) : Int).toNat ((IntKind.u64.wrap ((Int.tmod a0 16) + 1)) : Int).toNat).size ≤ 9223372036854775807 then (some (t101 ++ ((⟨#[48, 49, 50, 51, 52, 53, 54, 55, 56, 57, 97, 98, 99, 100, 101, 102]⟩ : ByteArray).extract ((Int.tmod a0 16) : Int).toNat ((IntKind.u64.wrap ((Int.tmod a0 16) + 1)) : Int).toNat))) else (none)) else (none)) else (none)) else (none)))
theorem spec_rustHex.mono_l : ∀ k, (∀ y0, LeO (spec_rustHex.f k y0) (spec_rustHex.f (k + 1) y0))
  | 0 => fun _ r h => by simp [spec_rustHex.f] at h
  | k + 1 => by
    have ih0 := spec_rustHex.mono_l k
    · intro y0
      unfold spec_rustHex.f
      repeat' first
      | (with_reducible exact ih0 _)
      | (with_reducible exact LeO.refl _)
      | (with_reducible exact LeO.none _)
      | (with_reducible refine LeO.ite ?_ ?_)
      | (with_reducible refine LeO.bind ?_ (fun _ => ?_))
      | exact ih0 _
      | exact LeO.none _
      | refine LeO.ite ?_ ?_
      | refine LeO.bind ?_ (fun _ => ?_)
theorem spec_rustHex.mono : ∀ a0 k, LeO (spec_rustHex.f k a0) (spec_rustHex.f (k + 1) a0) := by
  intro a0 k
  have ih0 := spec_rustHex.mono_l k
  exact ih0 a0
def spec_rustHex.T3 : Bool × List (List Nat × List Nat) := (true, [([], []), ([0], [0]), ([1], [1]), ([], []), ([3], [3]), ([], []), ([5], [5]), ([6], [6]), ([4, 7], [4, 7]), ([2, 8], [2, 8]), ([9, 2, 0, 1, 2, 3, 4, 5, 6, 7, 8, 9], [9])])
def spec_rustHex.B3 : List Nat := [0, 1, 3, 0, 8, 0, 32, 96, 248, 511, 1023]
theorem spec_rustHex.tab3 : rtab .any (opsOf Tryd.f39 3) = spec_rustHex.T3 := by kernel_rfl
theorem spec_rustHex.bits3 : waitsOk spec_rustHex.T3.2 spec_rustHex.B3 = true := by kernel_rfl
set_option maxHeartbeats 8000000 in
set_option maxRecDepth 100000 in
theorem spec_rustHex.calls (k : Nat) : ∀ (a0 : Int) (r : ByteArray) (w : World) (h : spec_rustHex.f k a0 = some r),
    Calls Tryd.prog 39 #[.int .u64 a0] w fun e w' => e = .returned (.string r) ∧ Below w.heap.size w w' := by
  induction k using Nat.strongRecOn with
  | _ k ih =>
  intro a0 r w h
  cases k with
  | zero => exact absurd h (by simp [spec_rustHex.f])
  | succ k =>
  simp only [spec_rustHex.f] at h
  have HB := Aside0.mk (Below.refl w.heap.size w)
  have H : (if a0 < 16 then (if 0 ≤ a0 then (if a0 ≤ (IntKind.u64.wrap (a0 + 1)) then (if (IntKind.u64.wrap (a0 + 1)) ≤ 16 then (some ((⟨#[48, 49, 50, 51, 52, 53, 54, 55, 56, 57, 97, 98, 99, 100, 101, 102]⟩ : ByteArray).extract (a0 : Int).toNat ((IntKind.u64.wrap (a0 + 1)) : Int).toNat)) else (none)) else (none)) else (none)) else ((spec_rustHex.f k (IntKind.u64.wrap (Int.tdiv a0 16))).bind fun t101 => (if 0 ≤ (Int.tmod a0 16) then (if (Int.tmod a0 16) ≤ (IntKind.u64.wrap ((Int.tmod a0 16) + 1)) then (if (IntKind.u64.wrap ((Int.tmod a0 16) + 1)) ≤ 16 then (if t101.size + ((⟨#[48, 49, 50, 51, 52, 53, 54, 55, 56, 57, 97, 98, 99, 100, 101, 102]⟩ : ByteArray).extract ((Int.tmod a0 16) : Int).toNat ((IntKind.u64.wrap ((Int.tmod a0 16) + 1)) : Int).toNat).size ≤ 9223372036854775807 then (some (t101 ++ ((⟨#[48, 49, 50, 51, 52, 53, 54, 55, 56, 57, 97, 98, 99, 100, 101, 102]⟩ : ByteArray).extract ((Int.tmod a0 16) : Int).toNat ((IntKind.u64.wrap ((Int.tmod a0 16) + 1)) : Int).toNat))) else (none)) else (none)) else (none)) else (none)))) = some r := h
  clear h
  by_cases c2 : a0 < 16
  · rw [if_pos c2] at H
    have c2b0 : decide (a0 < 16) = true := decide_eq_true c2
    clear c2
    by_cases c3 : 0 ≤ a0
    · rw [if_pos c3] at H
      have c3b0 := eq_true c3
      have c3b1 : decide (0 ≤ a0) = true := decide_eq_true c3
      clear c3
      by_cases c4 : a0 ≤ (IntKind.u64.wrap (a0 + 1))
      · rw [if_pos c4] at H
        have c4b0 := eq_true c4
        have c4b1 : decide (a0 ≤ (IntKind.u64.wrap (a0 + 1))) = true := decide_eq_true c4
        by_cases c5 : (IntKind.u64.wrap (a0 + 1)) ≤ 16
        · rw [if_pos c5] at H
          have c5b0 := eq_true c5
          have c5b1 : decide ((IntKind.u64.wrap (a0 + 1)) ≤ 16) = true := decide_eq_true c5
          obtain rfl := Option.some.inj H
          go_enter Tryd.func39, Tryd.ntmps39
          go_wp2
          go_ret
          exact ⟨by first | rfl | (simp [errW_none, errW_some] <;> rfl) | (simp [*, errW_none, errW_some] <;> rfl), by repeat (first | (with_reducible first | exact HB.out | apply below_alloc | apply pw_below_drewN | apply below_drew1) | exact HB.out)⟩
        · rw [if_neg c5] at H
          exact absurd H (by simp)
      · rw [if_neg c4] at H
        exact absurd H (by simp)
    · rw [if_neg c3] at H
      exact absurd H (by simp)
  · rw [if_neg c2] at H
    have c2b0 : decide (a0 < 16) = false := decide_eq_false c2
    clear c2
    replace H := Option.bind_eq_some_iff.mp H
    obtain ⟨t101, A60, H⟩ := H
    replace H : (if 0 ≤ (Int.tmod a0 16) then (if (Int.tmod a0 16) ≤ (IntKind.u64.wrap ((Int.tmod a0 16) + 1)) then (if (IntKind.u64.wrap ((Int.tmod a0 16) + 1)) ≤ 16 then (if t101.size + ((⟨#[48, 49, 50, 51, 52, 53, 54, 55, 56, 57, 97, 98, 99, 100, 101, 102]⟩ : ByteArray).extract ((Int.tmod a0 16) : Int).toNat ((IntKind.u64.wrap ((Int.tmod a0 16) + 1)) : Int).toNat).size ≤ 9223372036854775807 then (some (t101 ++ ((⟨#[48, 49, 50, 51, 52, 53, 54, 55, 56, 57, 97, 98, 99, 100, 101, 102]⟩ : ByteArray).extract ((Int.tmod a0 16) : Int).toNat ((IntKind.u64.wrap ((Int.tmod a0 16) + 1)) : Int).toNat))) else (none)) else (none)) else (none)) else (none)) = some r := H
    have A6 := Aside0.mk A60
    clear A60
    obtain ⟨ji7, hji7⟩ : ∃ j_ : Int, (Int.tmod a0 16) = j_ := ⟨_, rfl⟩
    replace H : (if 0 ≤ (ji7) then (if (ji7) ≤ (IntKind.u64.wrap ((ji7) + 1)) then (if (IntKind.u64.wrap ((ji7) + 1)) ≤ 16 then (if t101.size + ((⟨#[48, 49, 50, 51, 52, 53, 54, 55, 56, 57, 97, 98, 99, 100, 101, 102]⟩ : ByteArray).extract ((ji7) : Int).toNat ((IntKind.u64.wrap ((ji7) + 1)) : Int).toNat).size ≤ 9223372036854775807 then (some (t101 ++ ((⟨#[48, 49, 50, 51, 52, 53, 54, 55, 56, 57, 97, 98, 99, 100, 101, 102]⟩ : ByteArray).extract ((ji7) : Int).toNat ((IntKind.u64.wrap ((ji7) + 1)) : Int).toNat))) else (none)) else (none)) else (none)) else (none)) = some r := by first | (rw [hji7] at H; exact H) | (simp only [hji7] at H ⊢; exact H)
    (try rw [hji7] at A6)
    by_cases c8 : 0 ≤ (ji7)
    · rw [if_pos c8] at H
      have c8b0 := eq_true c8
      have c8b1 : decide (0 ≤ (ji7)) = true := decide_eq_true c8
      clear c8
      by_cases c9 : (ji7) ≤ (IntKind.u64.wrap ((ji7) + 1))
      · rw [if_pos c9] at H
        have c9b0 := eq_true c9
        have c9b1 : decide ((ji7) ≤ (IntKind.u64.wrap ((ji7) + 1))) = true := decide_eq_true c9
        by_cases c10 : (IntKind.u64.wrap ((ji7) + 1)) ≤ 16
        · rw [if_pos c10] at H
          have c10b0 := eq_true c10
          have c10b1 : decide ((IntKind.u64.wrap ((ji7) + 1)) ≤ 16) = true := decide_eq_true c10
          by_cases c11 : t101.size + ((⟨#[48, 49, 50, 51, 52, 53, 54, 55, 56, 57, 97, 98, 99, 100, 101, 102]⟩ : ByteArray).extract ((ji7) : Int).toNat ((IntKind.u64.wrap ((ji7) + 1)) : Int).toNat).size ≤ 9223372036854775807
          · rw [if_pos c11] at H
            have c11b0 := eq_true c11
            have c11b1 : decide (t101.size + ((⟨#[48, 49, 50, 51, 52, 53, 54, 55, 56, 57, 97, 98, 99, 100, 101, 102]⟩ : ByteArray).extract ((ji7) : Int).toNat ((IntKind.u64.wrap ((ji7) + 1)) : Int).toNat).size ≤ 9223372036854775807) = true := decide_eq_true c11
            try have c11b2 : (9223372036854775807 < t101.size + ((⟨#[48, 49, 50, 51, 52, 53, 54, 55, 56, 57, 97, 98, 99, 100, 101, 102]⟩ : ByteArray).extract ((ji7) : Int).toNat ((IntKind.u64.wrap ((ji7) + 1)) : Int).toNat).size) = False := eq_false (Nat.not_lt.2 c11)
            try (have c11q := c11; rw [ByteArray.size_extract, Nat.min_eq_left (by show _ ≤ Array.size _; simp only [List.size_toArray, List.length_cons, List.length_nil]; omega)] at c11q; have c11b3 := eq_false (Nat.not_lt.2 c11q); clear c11q)
            obtain rfl := Option.some.inj H
            go_enter Tryd.func39, Tryd.ntmps39
            try go_wp2
            have n0_ := Aside0.mk (below_drew1 HB.out)
            clear HB
            have HB := n0_
            clear n0_
            refine start_ (n := 11) (S := fun w' => True) (ds := []) #[false, false, false, false, false, false, false, false, false, false, false] (by kernel_rfl) rfl rfl trivial (fun hHeld => ?_); refine with_tabW spec_rustHex.tab3 spec_rustHex.bits3 (fun HT_ HW_ => ?_)
            generalize w.drew = w12 at HB hHeld ⊢
            refine pure_ (i := 0) (N := some 9) (v := ?_) (a' := ?_) #[true, false, false, false, false, false, false, false, false, false, false] rfl rfl (any_of HT_.out (by kernel_rfl)) (fun _ _ _ h => h) (Or.inl ⟨by rfl, ?_⟩) ?_ ?_
            rotate_left
            · intro w'
              go_simp
              with_reducible rfl
            rotate_left
            · simp only [Act.put, List.setIfInBounds_toArray, List.set_cons_zero, List.set_cons_succ, i64_w, i32_w]
              rfl
            refine pure_ (i := 1) (N := some 10) (v := ?_) (a' := ?_) #[true, true, false, false, false, false, false, false, false, false, false] rfl rfl (any_of HT_.out (by kernel_rfl)) (fun _ _ _ h => h) (Or.inl ⟨by rfl, ?_⟩) ?_ ?_
            rotate_left
            · intro w'
              go_simp
              with_reducible rfl
            rotate_left
            · simp only [Act.put, List.setIfInBounds_toArray, List.set_cons_zero, List.set_cons_succ, i64_w, i32_w]
              rfl
            refine pure_ (i := 3) (N := some 12) (v := ?_) (a' := ?_) #[true, true, false, true, false, false, false, false, false, false, false] rfl rfl (any_of HT_.out (by kernel_rfl)) (fun _ _ _ h => h) (Or.inl ⟨by rfl, ?_⟩) ?_ ?_
            rotate_left
            · intro w'
              go_simp
              with_reducible rfl
            rotate_left
            · simp only [Act.put, List.setIfInBounds_toArray, List.set_cons_zero, List.set_cons_succ, i64_w, i32_w]
              rfl
            refine pure_ (i := 4) (N := some 13) (v := ?_) (a' := ?_) #[true, true, false, true, true, false, false, false, false, false, false] rfl rfl (any_of HT_.out (by kernel_rfl)) (fun _ _ _ h => h) (Or.inl ⟨by rfl, ?_⟩) ?_ ?_
            rotate_left
            · intro w'
              go_simp
              with_reducible rfl
            rotate_left
            · simp only [Act.put, List.setIfInBounds_toArray, List.set_cons_zero, List.set_cons_succ, i64_w, i32_w]
              rfl
            refine pure_ (i := 5) (N := some 14) (v := ?_) (a' := ?_) #[true, true, false, true, true, true, false, false, false, false, false] rfl rfl (any_of HT_.out (by kernel_rfl)) (fun _ _ _ h => h) (Or.inl ⟨by rfl, ?_⟩) ?_ ?_
            rotate_left
            · intro w'
              go_simp
              with_reducible rfl
            rotate_left
            · simp only [Act.put, List.setIfInBounds_toArray, List.set_cons_zero, List.set_cons_succ, i64_w, i32_w]
              rfl
            refine pure_ (i := 6) (N := some 15) (v := ?_) (a' := ?_) #[true, true, false, true, true, true, true, false, false, false, false] rfl rfl (any_of HT_.out (by kernel_rfl)) (fun _ _ _ h => h) (Or.inl ⟨by rfl, ?_⟩) ?_ ?_
            rotate_left
            · intro w'
              go_simp
              with_reducible rfl
            rotate_left
            · simp only [Act.put, List.setIfInBounds_toArray, List.set_cons_zero, List.set_cons_succ, i64_w, i32_w]
              rfl
            refine pure_ (i := 7) (N := some 16) (v := ?_) (a' := ?_) #[true, true, false, true, true, true, true, true, false, false, false] rfl rfl (any_of HT_.out (by kernel_rfl)) (fun _ _ _ h => h) (Or.inl ⟨by rfl, ?_⟩) ?_ ?_
            rotate_left
            · intro w'
              go_simp
              with_reducible rfl
            rotate_left
            · simp only [Act.put, List.setIfInBounds_toArray, List.set_cons_zero, List.set_cons_succ, i64_w, i32_w]
              rfl
            refine pure_ (i := 8) (N := some 17) (v := ?_) (a' := ?_) #[true, true, false, true, true, true, true, true, true, false, false] rfl rfl (any_of HT_.out (by kernel_rfl)) (fun _ _ _ h => h) (Or.inl ⟨by rfl, ?_⟩) ?_ ?_
            rotate_left
            · intro w'
              go_simp
              with_reducible rfl
            rotate_left
            · simp only [Act.put, List.setIfInBounds_toArray, List.set_cons_zero, List.set_cons_succ, i64_w, i32_w]
              rfl
            refine one_ (i := 2) (N := some 11) #[true, true, true, true, true, true, true, true, true, false, false] rfl rfl (one_of HT_.out (by kernel_rfl)) (by decide) (fun K hK => ?_)
            refine goes_ Tryd.func39 (by kernel_rfl) rfl #[.int .u64 (IntKind.u64.wrap (Int.tdiv a0 16))] (by rfl) rfl rfl (by (try simp only [List.map_toArray, List.map_cons, List.map_nil]); first | done | rfl | (simp only [List.length_drop, List.length_take]; rfl)) ?_
            with_reducible refine (ih k (by omega) (IntKind.u64.wrap (Int.tdiv a0 16)) t101 _ A6.out).mono ?_
            rintro e w13 ⟨rfl, hb⟩
            refine ⟨_, rfl, ?_⟩
            have n0_ := Aside0.mk (below_step (by repeat (first | (with_reducible first | exact HB.out | apply below_alloc | apply pw_below_drewN | apply below_drew1) | exact HB.out | exact Below.refl _ _)) hb)
            clear HB
            have HB := n0_
            clear n0_
            (try clear hb)
            (try clear hb2)
            (try clear hk)
            (try clear hi)
            refine hK.out _ _ trivial (fun hHeld => ?_)
            clear hK K
            refine norm_ (a' := ?_) ?_ ?_
            rotate_left
            · show Act.put _ (some 11) _ = _
              simp only [Act.put, List.setIfInBounds_toArray, List.set_cons_zero, List.set_cons_succ, i64_w, i32_w]
              rfl
            refine pure_ (i := 9) (N := some 18) (v := ?_) (a' := ?_) #[true, true, true, true, true, true, true, true, true, true, false] rfl rfl (any_of HT_.out (by kernel_rfl)) (fun _ _ _ h => h) (Or.inl ⟨by rfl, ?_⟩) ?_ ?_
            rotate_left
            · intro w'
              go_simp
              with_reducible rfl
            rotate_left
            · simp only [Act.put, List.setIfInBounds_toArray, List.set_cons_zero, List.set_cons_succ, i64_w, i32_w]
              rfl
            refine pure_ (i := 10) (N := some 2) (v := ?_) (a' := ?_) #[true, true, true, true, true, true, true, true, true, true, true] rfl rfl (any_of HT_.out (by kernel_rfl)) (fun _ _ _ h => h) (Or.inl ⟨by rfl, ?_⟩) ?_ ?_
            rotate_left
            · intro w'
              go_simp
              with_reducible rfl
            rotate_left
            · simp only [Act.put, List.setIfInBounds_toArray, List.set_cons_zero, List.set_cons_succ, i64_w, i32_w]
              rfl
            refine done_ (done_of HT_.out (by kernel_rfl)) ?_
            try go_wp2
            go_ret
            exact ⟨by first | rfl | (simp [errW_none, errW_some] <;> rfl) | (simp only [← hji7]; first | rfl | (simp [errW_none, errW_some] <;> rfl)) | (simp [*, errW_none, errW_some] <;> rfl), by repeat (first | (with_reducible first | exact HB.out | apply below_alloc | apply pw_below_drewN | apply below_drew1) | exact HB.out)⟩
          · rw [if_neg c11] at H
            exact absurd H (by simp)
        · rw [if_neg c10] at H
          exact absurd H (by simp)
      · rw [if_neg c9] at H
        exact absurd H (by simp)
    · rw [if_neg c8] at H
      exact absurd H (by simp)

/-! ### spec_RustHex: function 15 -/
def spec_RustHex.f (k : Nat) (a0 : Int) : Option (ByteArray) := (spec_rustHex.f k a0).bind fun t102 => (some t102)
theorem spec_RustHex.mono : ∀ a0 k, LeO (spec_RustHex.f k a0) (spec_RustHex.f (k + 1) a0) := by
  intro a0 k
  unfold spec_RustHex.f
  repeat' first
      | (with_reducible exact spec_rustHex.mono _ _)
      | (with_reducible exact LeO.refl _)
      | (with_reducible exact LeO.none _)
      | (with_reducible refine LeO.ite ?_ ?_)
      | (with_reducible refine LeO.bind ?_ (fun _ => ?_))
      | exact spec_rustHex.mono _ _
      | exact LeO.none _
      | refine LeO.ite ?_ ?_
      | refine LeO.bind ?_ (fun _ => ?_)
set_option maxHeartbeats 8000000 in
set_option maxRecDepth 100000 in
theorem spec_RustHex.calls (k : Nat) (a0 : Int) (r : ByteArray) (w : World) (h : spec_RustHex.f k a0 = some r) :
    Calls Tryd.prog 15 #[.int .u64 a0] w fun e w' => e = .returned (.string r) ∧ Below w.heap.size w w' := by
  have HB := Aside0.mk (Below.refl w.heap.size w)
  have H : ((spec_rustHex.f k a0).bind fun t102 => (some t102)) = some r := h
  clear h
  replace H := Option.bind_eq_some_iff.mp H
  obtain ⟨t102, A20, H⟩ := H
  replace H : (some t102) = some r := H
  have A2 := Aside0.mk A20
  clear A20
  obtain rfl := Option.some.inj H
  go_enter Tryd.func15, Tryd.ntmps15
  go_wp2_with (first | ((with_reducible refine gate_callee (f := 39) rfl ?_); refine goesL_ (some 4) rfl rfl Tryd.func39 (by kernel_rfl) rfl #[.int .u64 a0] rfl (by (try simp only [List.map_toArray, List.map_cons, List.map_nil]); first | done | rfl | (simp only [List.length_drop, List.length_take]; rfl)) ?_; (with_reducible refine (spec_rustHex.calls k a0 t102 _ A2.out).mono ?_); rintro e w3 ⟨rfl, hb⟩; refine ⟨_, rfl, ?_⟩; have n0_ := Aside0.mk (below_step (by repeat (first | (with_reducible first | exact HB.out | apply below_alloc | apply pw_below_drewN | apply below_drew1) | exact HB.out | exact Below.refl _ _)) hb); clear HB; have HB := n0_; clear n0_; (try clear hb); (try clear hb2); (try clear hk); (try clear hi)))
  go_ret
  exact ⟨by first | rfl | (simp [errW_none, errW_some] <;> rfl) | (simp [*, errW_none, errW_some] <;> rfl), by repeat (first | (with_reducible first | exact HB.out | apply below_alloc | apply pw_below_drewN | apply below_drew1) | exact HB.out)⟩

/-! ### spec_RustSigned: function 18 -/
def spec_RustSigned.f (a0 : Int) : Option (Int) := if 0 ≤ (Int.tmod (wrap64 ((Int.tmod a0 6) + 6)) 6) then (if (Int.tmod (wrap64 ((Int.tmod a0 6) + 6)) 6) < 6 then (some (bt (⟨#[97, 115, 108, 120, 110, 105]⟩ : ByteArray) (Int.tmod (wrap64 ((Int.tmod a0 6) + 6)) 6))) else (none)) else (none)
set_option maxHeartbeats 8000000 in
set_option maxRecDepth 100000 in
theorem spec_RustSigned.calls (a0 : Int) (r : Int) (w : World) (h : spec_RustSigned.f a0 = some r) :
    Calls Tryd.prog 18 #[.int .i64 a0] w fun e w' => e = .returned (.int .u8 r) ∧ Drawn0 w w' := by
  have H : (if 0 ≤ (Int.tmod (wrap64 ((Int.tmod a0 6) + 6)) 6) then (if (Int.tmod (wrap64 ((Int.tmod a0 6) + 6)) 6) < 6 then (some (bt (⟨#[97, 115, 108, 120, 110, 105]⟩ : ByteArray) (Int.tmod (wrap64 ((Int.tmod a0 6) + 6)) 6))) else (none)) else (none)) = some r := h
  clear h
  obtain ⟨ji2, hji2⟩ : ∃ j_ : Int, (Int.tmod (wrap64 ((Int.tmod a0 6) + 6)) 6) = j_ := ⟨_, rfl⟩
  replace H : (if 0 ≤ (ji2) then (if (ji2) < 6 then (some (bt (⟨#[97, 115, 108, 120, 110, 105]⟩ : ByteArray) (ji2))) else (none)) else (none)) = some r := by first | (rw [hji2] at H; exact H) | (simp only [hji2] at H ⊢; exact H)
  by_cases c3 : 0 ≤ (ji2)
  · rw [if_pos c3] at H
    have c3b0 : decide (0 ≤ (ji2)) = true := decide_eq_true c3
    clear c3
    by_cases c4 : (ji2) < 6
    · rw [if_pos c4] at H
      have c4b0 : decide ((ji2) < 6) = true := decide_eq_true c4
      clear c4
      obtain rfl := Option.some.inj H
      have p5 : 0 ≤ ((ji2) : Int) := of_decide_eq_true (by first | (with_reducible assumption) | assumption)
      have q5 : (ji2) < (6 : Int) := of_decide_eq_true (by first | (with_reducible assumption) | assumption)
      have hx5 := bt_at (⟨#[97, 115, 108, 120, 110, 105]⟩ : ByteArray) (ji2)
      replace p5 := eq_true p5
      replace q5 := eq_true q5
      go_enter Tryd.func18, Tryd.ntmps18
      go_wp2
      go_ret
      exact ⟨by first | rfl | (simp; done) | (simp only [← hji2] <;> (first | rfl | simp)) | (simp [*]; done), by repeat (first | exact Drawn0.refl _ | apply Drawn0.step)⟩
    · rw [if_neg c4] at H
      exact absurd H (by simp)
  · rw [if_neg c3] at H
    exact absurd H (by simp)

/-! ### laws_constantIs: function 22 -/
def laws_constantIs.f (a0 : ByteArray) (a1 : ByteArray) (a2 : ByteArray) : Option (Bool) := if a0.size + a1.size ≤ 9223372036854775807 then ((impl_Constant.f (a0 ++ a1)).bind fun bt103 => (if bt103.2.2 = true then (if bt103.1.toList = a2.toList then (some (bt103.2.1.toList == a1.toList)) else (some false)) else (some false))) else (none)
set_option maxHeartbeats 8000000 in
set_option maxRecDepth 100000 in
theorem laws_constantIs.calls (a0 : ByteArray) (a1 : ByteArray) (a2 : ByteArray) (r : Bool) (w : World) (hT_ : StrIs w) (h : laws_constantIs.f a0 a1 a2 = some r) :
    Calls Tryd.prog 22 #[.string a0, .string a1, .string a2] w fun e w' => e = .returned (.bool r) ∧ Below w.heap.size w w' := by
  have HB := Aside0.mk (Below.refl w.heap.size w)
  have H : (if a0.size + a1.size ≤ 9223372036854775807 then ((impl_Constant.f (a0 ++ a1)).bind fun bt103 => (if bt103.2.2 = true then (if bt103.1.toList = a2.toList then (some (bt103.2.1.toList == a1.toList)) else (some false)) else (some false))) else (none)) = some r := h
  clear h
  by_cases c4 : a0.size + a1.size ≤ 9223372036854775807
  · rw [if_pos c4] at H
    have c4b0 := eq_true c4
    have c4b1 : decide (a0.size + a1.size ≤ 9223372036854775807) = true := decide_eq_true c4
    try have c4b2 : (9223372036854775807 < a0.size + a1.size) = False := eq_false (Nat.not_lt.2 c4)
    replace H := Option.bind_eq_some_iff.mp H
    obtain ⟨⟨t103, t104, t105⟩, A50, H⟩ := H
    replace H : (if t105 = true then (if t103.toList = a2.toList then (some (t104.toList == a1.toList)) else (some false)) else (some false)) = some r := H
    have A5 := Aside0.mk A50
    clear A50
    by_cases c6 : t105 = true
    · subst c6
      have H1 : (if t103.toList = a2.toList then (some (t104.toList == a1.toList)) else (some false)) = some r := by rw [if_pos rfl] at H; exact H
      clear H
      have H := H1
      clear H1
      by_cases c7 : t103.toList = a2.toList
      · rw [if_pos c7] at H
        have c7b0 : (t103.toList == a2.toList) = true := beq_iff_eq.mpr c7
        have c7b1 : (t103.toList != a2.toList) = false := bne_eq_false_iff_eq.mpr c7
        clear c7
        obtain rfl := Option.some.inj H
        go_enter Tryd.func22, Tryd.ntmps22
        go_wp2_with (first | ((with_reducible refine gate_callee (f := 16) rfl ?_); refine goesL_ (some 14) rfl rfl Tryd.func16 (by kernel_rfl) rfl #[.string (a0 ++ a1)] rfl (by (try simp only [List.map_toArray, List.map_cons, List.map_nil]); first | done | rfl | (simp only [List.length_drop, List.length_take]; rfl)) ?_; (with_reducible refine (impl_Constant.calls (a0 ++ a1) t103 t104 true _ (show StrIs _ from ?side1) A5.out).mono ?_); (case side1 => exact Stays.below hT_ (by first | (repeat (first | (with_reducible first | exact HB.out | apply below_alloc | apply pw_below_drewN | apply below_drew1) | exact HB.out | exact Below.refl _ _)) | (repeat (first | exact Below.refl _ _ | apply below_drew1 | apply pw_below_drewN)))); rintro e w8 ⟨rfl, hb⟩; refine ⟨_, rfl, ?_⟩; have n0_ := Aside0.mk (below_step (by repeat (first | (with_reducible first | exact HB.out | apply below_alloc | apply pw_below_drewN | apply below_drew1) | exact HB.out | exact Below.refl _ _)) hb); clear HB; have HB := n0_; clear n0_; (try clear hb); (try clear hb2); (try clear hk); (try clear hi)))
        go_ret
        exact ⟨by first | rfl | (simp [errW_none, errW_some] <;> rfl) | (simp [*, errW_none, errW_some] <;> rfl), by repeat (first | (with_reducible first | exact HB.out | apply below_alloc | apply pw_below_drewN | apply below_drew1) | exact HB.out)⟩
      · rw [if_neg c7] at H
        have c7b0 : (t103.toList == a2.toList) = false := beq_eq_false_iff_ne.mpr c7
        have c7b1 : (t103.toList != a2.toList) = true := bne_iff_ne.mpr c7
        obtain rfl := Option.some.inj H
        go_enter Tryd.func22, Tryd.ntmps22
        go_wp2_with (first | ((with_reducible refine gate_callee (f := 16) rfl ?_); refine goesL_ (some 14) rfl rfl Tryd.func16 (by kernel_rfl) rfl #[.string (a0 ++ a1)] rfl (by (try simp only [List.map_toArray, List.map_cons, List.map_nil]); first | done | rfl | (simp only [List.length_drop, List.length_take]; rfl)) ?_; (with_reducible refine (impl_Constant.calls (a0 ++ a1) t103 t104 true _ (show StrIs _ from ?side1) A5.out).mono ?_); (case side1 => exact Stays.below hT_ (by first | (repeat (first | (with_reducible first | exact HB.out | apply below_alloc | apply pw_below_drewN | apply below_drew1) | exact HB.out | exact Below.refl _ _)) | (repeat (first | exact Below.refl _ _ | apply below_drew1 | apply pw_below_drewN)))); rintro e w9 ⟨rfl, hb⟩; refine ⟨_, rfl, ?_⟩; have n0_ := Aside0.mk (below_step (by repeat (first | (with_reducible first | exact HB.out | apply below_alloc | apply pw_below_drewN | apply below_drew1) | exact HB.out | exact Below.refl _ _)) hb); clear HB; have HB := n0_; clear n0_; (try clear hb); (try clear hb2); (try clear hk); (try clear hi)))
        go_ret
        exact ⟨by first | rfl | (simp [errW_none, errW_some] <;> rfl) | (simp [*, errW_none, errW_some] <;> rfl), by repeat (first | (with_reducible first | exact HB.out | apply below_alloc | apply pw_below_drewN | apply below_drew1) | exact HB.out)⟩
    · replace c6 := Bool.eq_false_iff.mpr c6
      subst c6
      have H1 : (some false) = some r := by rw [if_neg (show ¬ (false = true) by decide)] at H; exact H
      clear H
      have H := H1
      clear H1
      obtain rfl := Option.some.inj H
      go_enter Tryd.func22, Tryd.ntmps22
      go_wp2_with (first | ((with_reducible refine gate_callee (f := 16) rfl ?_); refine goesL_ (some 14) rfl rfl Tryd.func16 (by kernel_rfl) rfl #[.string (a0 ++ a1)] rfl (by (try simp only [List.map_toArray, List.map_cons, List.map_nil]); first | done | rfl | (simp only [List.length_drop, List.length_take]; rfl)) ?_; (with_reducible refine (impl_Constant.calls (a0 ++ a1) t103 t104 false _ (show StrIs _ from ?side1) A5.out).mono ?_); (case side1 => exact Stays.below hT_ (by first | (repeat (first | (with_reducible first | exact HB.out | apply below_alloc | apply pw_below_drewN | apply below_drew1) | exact HB.out | exact Below.refl _ _)) | (repeat (first | exact Below.refl _ _ | apply below_drew1 | apply pw_below_drewN)))); rintro e w10 ⟨rfl, hb⟩; refine ⟨_, rfl, ?_⟩; have n0_ := Aside0.mk (below_step (by repeat (first | (with_reducible first | exact HB.out | apply below_alloc | apply pw_below_drewN | apply below_drew1) | exact HB.out | exact Below.refl _ _)) hb); clear HB; have HB := n0_; clear n0_; (try clear hb); (try clear hb2); (try clear hk); (try clear hi)))
      go_ret
      exact ⟨by first | rfl | (simp [errW_none, errW_some] <;> rfl) | (simp [*, errW_none, errW_some] <;> rfl), by repeat (first | (with_reducible first | exact HB.out | apply below_alloc | apply pw_below_drewN | apply below_drew1) | exact HB.out)⟩
  · rw [if_neg c4] at H
    exact absurd H (by simp)

/-! ### spec_rustBits: function 43 -/
def spec_rustBits.j0 : Nat → Int → Bool → Option (Int × Bool)
  | 0, _, _ => none
  | k + 1, x4, x11 => if x11 = true then (some (64, true)) else (if x4 = 104 then (some (8, false)) else (if x4 = 116 then (some (16, false)) else (if x4 = 109 then (some (32, false)) else (if x4 = 121 then (some (64, false)) else (if x4 = 111 then (some (64, false)) else (if x4 = 106 then (some (64, false)) else (some (0, false))))))))
def spec_rustBits.f (k : Nat) (a0 : Int) : Option (Int × Bool) := if a0 = 97 then (some (8, true)) else (if a0 = 115 then (some (16, true)) else (if a0 = 108 then (some (32, true)) else (if a0 = 120 then (spec_rustBits.j0 k a0 (a0 == 120)) else (if a0 = 110 then (spec_rustBits.j0 k a0 (a0 == 110)) else (spec_rustBits.j0 k a0 (a0 == 105))))))
theorem spec_rustBits.mono_l : ∀ k, (∀ y0 y1, LeO (spec_rustBits.j0 k y0 y1) (spec_rustBits.j0 (k + 1) y0 y1))
  | 0 => fun _ _ r h => by simp [spec_rustBits.j0] at h
  | k + 1 => by
    have ih0 := spec_rustBits.mono_l k
    · intro y0 y1
      unfold spec_rustBits.j0
      repeat' first
      | (with_reducible exact ih0 _ _)
      | (with_reducible exact LeO.refl _)
      | (with_reducible exact LeO.none _)
      | (with_reducible refine LeO.ite ?_ ?_)
      | (with_reducible refine LeO.bind ?_ (fun _ => ?_))
      | exact ih0 _ _
      | exact LeO.none _
      | refine LeO.ite ?_ ?_
      | refine LeO.bind ?_ (fun _ => ?_)
theorem spec_rustBits.mono : ∀ a0 k, LeO (spec_rustBits.f k a0) (spec_rustBits.f (k + 1) a0) := by
  intro a0 k
  have ih0 := spec_rustBits.mono_l k
  unfold spec_rustBits.f
  repeat' first
      | (with_reducible exact ih0 _ _)
      | (with_reducible exact LeO.refl _)
      | (with_reducible exact LeO.none _)
      | (with_reducible refine LeO.ite ?_ ?_)
      | (with_reducible refine LeO.bind ?_ (fun _ => ?_))
      | exact ih0 _ _
      | exact LeO.none _
      | refine LeO.ite ?_ ?_
      | refine LeO.bind ?_ (fun _ => ?_)
set_option maxHeartbeats 8000000 in
set_option maxRecDepth 100000 in
theorem spec_rustBits.calls (k : Nat) (a0 : Int) (r1 : Int) (r2 : Bool) (w : World) (h : spec_rustBits.f k a0 = some (r1, r2)) :
    Calls Tryd.prog 43 #[.int .u8 a0] w fun e w' => e = .returned (.tuple #[.int .u64 r1, .bool r2]) ∧ Drawn0 w w' := by
  have H : (if a0 = 97 then (some (8, true)) else (if a0 = 115 then (some (16, true)) else (if a0 = 108 then (some (32, true)) else (if a0 = 120 then (spec_rustBits.j0 k a0 (a0 == 120)) else (if a0 = 110 then (spec_rustBits.j0 k a0 (a0 == 110)) else (spec_rustBits.j0 k a0 (a0 == 105))))))) = some (r1, r2) := h
  clear h
  by_cases c2 : a0 = 97
  · rw [if_pos c2] at H
    have c2b0 : (a0 == 97) = true := beq_iff_eq.mpr c2
    have c2b1 : (a0 != 97) = false := bne_eq_false_iff_eq.mpr c2
    clear c2
    simp only [Option.some.injEq, Prod.mk.injEq] at H
    obtain ⟨rfl, rfl⟩ := H
    go_enter Tryd.func43, Tryd.ntmps43
    go_wp2
    go_ret2
    exact ⟨by first | rfl | (simp; done) | (simp [*]; done), by repeat (first | exact Drawn0.refl _ | apply Drawn0.step)⟩
  · rw [if_neg c2] at H
    have c2b0 : (a0 == 97) = false := beq_eq_false_iff_ne.mpr c2
    have c2b1 : (a0 != 97) = true := bne_iff_ne.mpr c2
    by_cases c3 : a0 = 115
    · rw [if_pos c3] at H
      have c3b0 : (a0 == 115) = true := beq_iff_eq.mpr c3
      have c3b1 : (a0 != 115) = false := bne_eq_false_iff_eq.mpr c3
      clear c3
      simp only [Option.some.injEq, Prod.mk.injEq] at H
      obtain ⟨rfl, rfl⟩ := H
      go_enter Tryd.func43, Tryd.ntmps43
      go_wp2
      go_ret2
      exact ⟨by first | rfl | (simp; done) | (simp [*]; done), by repeat (first | exact Drawn0.refl _ | apply Drawn0.step)⟩
    · rw [if_neg c3] at H
      have c3b0 : (a0 == 115) = false := beq_eq_false_iff_ne.mpr c3
      have c3b1 : (a0 != 115) = true := bne_iff_ne.mpr c3
      by_cases c4 : a0 = 108
      · rw [if_pos c4] at H
        have c4b0 : (a0 == 108) = true := beq_iff_eq.mpr c4
        have c4b1 : (a0 != 108) = false := bne_eq_false_iff_eq.mpr c4
        clear c4
        simp only [Option.some.injEq, Prod.mk.injEq] at H
        obtain ⟨rfl, rfl⟩ := H
        go_enter Tryd.func43, Tryd.ntmps43
        go_wp2
        go_ret2
        exact ⟨by first | rfl | (simp; done) | (simp [*]; done), by repeat (first | exact Drawn0.refl _ | apply Drawn0.step)⟩
      · rw [if_neg c4] at H
        have c4b0 : (a0 == 108) = false := beq_eq_false_iff_ne.mpr c4
        have c4b1 : (a0 != 108) = true := bne_iff_ne.mpr c4
        have HC5 := Aside0.mk H
        clear H
        go_enter Tryd.func43, Tryd.ntmps43
        go_upto_if 11 with (fail)
        go_cut [11] (fun v11 wc => ∃ (kq : Nat) (x11_4 : Bool), v11 = .bool x11_4 ∧ Aside0 (spec_rustBits.j0 kq a0 x11_4 = some (r1, r2)) ∧ Aside0 (kq ≤ k) ∧ Drawn0 w wc)
        case first =>
          have H := HC5.out
          clear HC5
          by_cases c6 : a0 = 120
          · rw [if_pos c6] at H
            have c6b0 : (a0 == 120) = true := beq_iff_eq.mpr c6
            have c6b1 : (a0 != 120) = false := bne_eq_false_iff_eq.mpr c6
            clear c6
            (first | rw [c6b0] | (simp only [i64_w, i32_w]; rw [c6b0]) | rw [c6b1] | skip)
            have H' := Aside0.mk H
            clear H
            go_wp2
            go_meet
            case rel => exact ⟨_, ((a0 == 120)), (by first | rfl | (simp; done) | (simp [*]; done)), H', ⟨by first | omega | exact Nat.le_refl _⟩, by repeat (first | exact Drawn0.refl _ | apply Drawn0.step)⟩
          · rw [if_neg c6] at H
            have c6b0 : (a0 == 120) = false := beq_eq_false_iff_ne.mpr c6
            have c6b1 : (a0 != 120) = true := bne_iff_ne.mpr c6
            (first | rw [c6b0] | (simp only [i64_w, i32_w]; rw [c6b0]) | rw [c6b1] | skip)
            by_cases c7 : a0 = 110
            · rw [if_pos c7] at H
              have c7b0 : (a0 == 110) = true := beq_iff_eq.mpr c7
              have c7b1 : (a0 != 110) = false := bne_eq_false_iff_eq.mpr c7
              clear c7
              have H' := Aside0.mk H
              clear H
              go_wp2
              go_meet
              case rel => exact ⟨_, ((a0 == 110)), (by first | rfl | (simp; done) | (simp [*]; done)), H', ⟨by first | omega | exact Nat.le_refl _⟩, by repeat (first | exact Drawn0.refl _ | apply Drawn0.step)⟩
            · rw [if_neg c7] at H
              have c7b0 : (a0 == 110) = false := beq_eq_false_iff_ne.mpr c7
              have c7b1 : (a0 != 110) = true := bne_iff_ne.mpr c7
              have H' := Aside0.mk H
              clear H
              go_wp2
              go_meet
              case rel => exact ⟨_, ((a0 == 105)), (by first | rfl | (simp; done) | (simp [*]; done)), H', ⟨by first | omega | exact Nat.le_refl _⟩, by repeat (first | exact Drawn0.refl _ | apply Drawn0.step)⟩
        case rest =>
          clear HC5
          try clear c2
          try clear c2b0
          try clear c2b1
          try clear p2
          try clear c3
          try clear c3b0
          try clear c3b1
          try clear c4
          try clear c4b0
          try clear c4b1
          try clear c6
          try clear c6b0
          try clear c6b1
          try clear c7
          try clear c7b0
          try clear c7b1
          obtain ⟨kq, x11_4, rfl, HA, HJ4, ⟨mc4, rfl⟩⟩ := hcut
          cases kq with
          | zero => exact absurd HA.out (by simp [spec_rustBits.j0])
          | succ kj4 =>
            have H := HA.out
            clear HA
            simp only [spec_rustBits.j0] at H
            by_cases c8 : x11_4 = true
            · subst c8
              have H1 : (some (64, true)) = some (r1, r2) := by rw [if_pos rfl] at H; exact H
              clear H
              have H := H1
              clear H1
              simp only [Option.some.injEq, Prod.mk.injEq] at H
              obtain ⟨rfl, rfl⟩ := H
              go_wp2
              go_ret2
              exact ⟨by first | rfl | (simp; done) | (simp [*]; done), by repeat (first | exact Drawn0.refl _ | apply Drawn0.step)⟩
            · replace c8 := Bool.eq_false_iff.mpr c8
              subst c8
              have H1 : (if a0 = 104 then (some (8, false)) else (if a0 = 116 then (some (16, false)) else (if a0 = 109 then (some (32, false)) else (if a0 = 121 then (some (64, false)) else (if a0 = 111 then (some (64, false)) else (if a0 = 106 then (some (64, false)) else (some (0, false)))))))) = some (r1, r2) := by rw [if_neg (show ¬ (false = true) by decide)] at H; exact H
              clear H
              have H := H1
              clear H1
              by_cases c9 : a0 = 104
              · rw [if_pos c9] at H
                have c9b0 : (a0 == 104) = true := beq_iff_eq.mpr c9
                have c9b1 : (a0 != 104) = false := bne_eq_false_iff_eq.mpr c9
                clear c9
                simp only [Option.some.injEq, Prod.mk.injEq] at H
                obtain ⟨rfl, rfl⟩ := H
                go_wp2
                go_ret2
                exact ⟨by first | rfl | (simp; done) | (simp [*]; done), by repeat (first | exact Drawn0.refl _ | apply Drawn0.step)⟩
              · rw [if_neg c9] at H
                have c9b0 : (a0 == 104) = false := beq_eq_false_iff_ne.mpr c9
                have c9b1 : (a0 != 104) = true := bne_iff_ne.mpr c9
                by_cases c10 : a0 = 116
                · rw [if_pos c10] at H
                  have c10b0 : (a0 == 116) = true := beq_iff_eq.mpr c10
                  have c10b1 : (a0 != 116) = false := bne_eq_false_iff_eq.mpr c10
                  clear c10
                  simp only [Option.some.injEq, Prod.mk.injEq] at H
                  obtain ⟨rfl, rfl⟩ := H
                  go_wp2
                  go_ret2
                  exact ⟨by first | rfl | (simp; done) | (simp [*]; done), by repeat (first | exact Drawn0.refl _ | apply Drawn0.step)⟩
                · rw [if_neg c10] at H
                  have c10b0 : (a0 == 116) = false := beq_eq_false_iff_ne.mpr c10
                  have c10b1 : (a0 != 116) = true := bne_iff_ne.mpr c10
                  by_cases c11 : a0 = 109
                  · rw [if_pos c11] at H
                    have c11b0 : (a0 == 109) = true := beq_iff_eq.mpr c11
                    have c11b1 : (a0 != 109) = false := bne_eq_false_iff_eq.mpr c11
                    clear c11
                    simp only [Option.some.injEq, Prod.mk.injEq] at H
                    obtain ⟨rfl, rfl⟩ := H
                    go_wp2
                    go_ret2
                    exact ⟨by first | rfl | (simp; done) | (simp [*]; done), by repeat (first | exact Drawn0.refl _ | apply Drawn0.step)⟩
                  · rw [if_neg c11] at H
                    have c11b0 : (a0 == 109) = false := beq_eq_false_iff_ne.mpr c11
                    have c11b1 : (a0 != 109) = true := bne_iff_ne.mpr c11
                    by_cases c12 : a0 = 121
                    · rw [if_pos c12] at H
                      have c12b0 : (a0 == 121) = true := beq_iff_eq.mpr c12
                      have c12b1 : (a0 != 121) = false := bne_eq_false_iff_eq.mpr c12
                      clear c12
                      simp only [Option.some.injEq, Prod.mk.injEq] at H
                      obtain ⟨rfl, rfl⟩ := H
                      go_wp2
                      go_ret2
                      exact ⟨by first | rfl | (simp; done) | (simp [*]; done), by repeat (first | exact Drawn0.refl _ | apply Drawn0.step)⟩
                    · rw [if_neg c12] at H
                      have c12b0 : (a0 == 121) = false := beq_eq_false_iff_ne.mpr c12
                      have c12b1 : (a0 != 121) = true := bne_iff_ne.mpr c12
                      by_cases c13 : a0 = 111
                      · rw [if_pos c13] at H
                        have c13b0 : (a0 == 111) = true := beq_iff_eq.mpr c13
                        have c13b1 : (a0 != 111) = false := bne_eq_false_iff_eq.mpr c13
                        clear c13
                        simp only [Option.some.injEq, Prod.mk.injEq] at H
                        obtain ⟨rfl, rfl⟩ := H
                        go_wp2
                        go_ret2
                        exact ⟨by first | rfl | (simp; done) | (simp [*]; done), by repeat (first | exact Drawn0.refl _ | apply Drawn0.step)⟩
                      · rw [if_neg c13] at H
                        have c13b0 : (a0 == 111) = false := beq_eq_false_iff_ne.mpr c13
                        have c13b1 : (a0 != 111) = true := bne_iff_ne.mpr c13
                        by_cases c14 : a0 = 106
                        · rw [if_pos c14] at H
                          have c14b0 : (a0 == 106) = true := beq_iff_eq.mpr c14
                          have c14b1 : (a0 != 106) = false := bne_eq_false_iff_eq.mpr c14
                          clear c14
                          simp only [Option.some.injEq, Prod.mk.injEq] at H
                          obtain ⟨rfl, rfl⟩ := H
                          go_wp2
                          go_ret2
                          exact ⟨by first | rfl | (simp; done) | (simp [*]; done), by repeat (first | exact Drawn0.refl _ | apply Drawn0.step)⟩
                        · rw [if_neg c14] at H
                          have c14b0 : (a0 == 106) = false := beq_eq_false_iff_ne.mpr c14
                          have c14b1 : (a0 != 106) = true := bne_iff_ne.mpr c14
                          simp only [Option.some.injEq, Prod.mk.injEq] at H
                          obtain ⟨rfl, rfl⟩ := H
                          go_wp2
                          go_ret2
                          exact ⟨by first | rfl | (simp; done) | (simp [*]; done), by repeat (first | exact Drawn0.refl _ | apply Drawn0.step)⟩

/-! ### spec_RustBits: function 23 -/
def spec_RustBits.f (k : Nat) (a0 : Int) : Option (Int × Bool) := (spec_rustBits.f k a0).bind fun bt106 => (some (bt106.1, bt106.2))
theorem spec_RustBits.mono : ∀ a0 k, LeO (spec_RustBits.f k a0) (spec_RustBits.f (k + 1) a0) := by
  intro a0 k
  unfold spec_RustBits.f
  repeat' first
      | (with_reducible exact spec_rustBits.mono _ _)
      | (with_reducible exact LeO.refl _)
      | (with_reducible exact LeO.none _)
      | (with_reducible refine LeO.ite ?_ ?_)
      | (with_reducible refine LeO.bind ?_ (fun _ => ?_))
      | exact spec_rustBits.mono _ _
      | exact LeO.none _
      | refine LeO.ite ?_ ?_
      | refine LeO.bind ?_ (fun _ => ?_)
set_option maxHeartbeats 8000000 in
set_option maxRecDepth 100000 in
theorem spec_RustBits.calls (k : Nat) (a0 : Int) (r1 : Int) (r2 : Bool) (w : World) (h : spec_RustBits.f k a0 = some (r1, r2)) :
    Calls Tryd.prog 23 #[.int .u8 a0] w fun e w' => e = .returned (.tuple #[.int .u64 r1, .bool r2]) ∧ Drawn0 w w' := by
  have H : ((spec_rustBits.f k a0).bind fun bt106 => (some (bt106.1, bt106.2))) = some (r1, r2) := h
  clear h
  replace H := Option.bind_eq_some_iff.mp H
  obtain ⟨⟨t106, t107⟩, A20, H⟩ := H
  replace H : (some (t106, t107)) = some (r1, r2) := H
  have A2 := Aside0.mk A20
  clear A20
  simp only [Option.some.injEq, Prod.mk.injEq] at H
  obtain ⟨rfl, rfl⟩ := H
  go_enter Tryd.func23, Tryd.ntmps23
  go_wp2_with (first | ((with_reducible refine gate_callee (f := 43) rfl ?_); refine goesL_ (some 5) rfl rfl Tryd.func43 (by kernel_rfl) rfl #[.int .u8 a0] rfl (by (try simp only [List.map_toArray, List.map_cons, List.map_nil]); first | done | rfl | (simp only [List.length_drop, List.length_take]; rfl)) ?_; (with_reducible refine (spec_rustBits.calls k a0 t106 t107 _ A2.out).mono ?_); rintro e w' ⟨rfl, ⟨nd, rfl⟩⟩; refine ⟨_, rfl, ?_⟩))
  go_ret2
  exact ⟨by first | rfl | (simp; done) | (simp [*]; done), by repeat (first | exact Drawn0.refl _ | apply Drawn0.step)⟩

/-! ### spec_RustDecimal: function 24 -/
def spec_RustDecimal.f : Nat → Int → Option (ByteArray)
  | 0, _ => none
  | k + 1, a0 => if a0 < 10 then (some (strOfNums (([(IntKind.u64.wrap (48 + a0)) % 256] : List Int)))) else ((spec_RustDecimal.f k (IntKind.u64.wrap (Int.tdiv a0 10))).bind fun t111 => ((spec_RustDecimal.f k (Int.tmod a0 10)).bind fun t112 => (if t111.size + t112.size ≤ 9223372036854775807 then (some (t111 ++ t112)) else (none))))
theorem spec_RustDecimal.mono_l : ∀ k, (∀ y0, LeO (spec_RustDecimal.f k y0) (spec_RustDecimal.f (k + 1) y0))
  | 0 => fun _ r h => by simp [spec_RustDecimal.f] at h
  | k + 1 => by
    have ih0 := spec_RustDecimal.mono_l k
    · intro y0
      unfold spec_RustDecimal.f
      repeat' first
      | (with_reducible exact ih0 _)
      | (with_reducible exact LeO.refl _)
      | (with_reducible exact LeO.none _)
      | (with_reducible refine LeO.ite ?_ ?_)
      | (with_reducible refine LeO.bind ?_ (fun _ => ?_))
      | exact ih0 _
      | exact LeO.none _
      | refine LeO.ite ?_ ?_
      | refine LeO.bind ?_ (fun _ => ?_)
theorem spec_RustDecimal.mono : ∀ a0 k, LeO (spec_RustDecimal.f k a0) (spec_RustDecimal.f (k + 1) a0) := by
  intro a0 k
  have ih0 := spec_RustDecimal.mono_l k
  exact ih0 a0
set_option maxHeartbeats 8000000 in
set_option maxRecDepth 100000 in
theorem spec_RustDecimal.calls (k : Nat) : ∀ (a0 : Int) (r : ByteArray) (w : World) (h : spec_RustDecimal.f k a0 = some r),
    Calls Tryd.prog 24 #[.int .u64 a0] w fun e w' => e = .returned (.string r) ∧ Below w.heap.size w w' := by
  induction k using Nat.strongRecOn with
  | _ k ih =>
  intro a0 r w h
  cases k with
  | zero => exact absurd h (by simp [spec_RustDecimal.f])
  | succ k =>
  simp only [spec_RustDecimal.f] at h
  have HB := Aside0.mk (Below.refl w.heap.size w)
  have H : (if a0 < 10 then (some (strOfNums (([(IntKind.u64.wrap (48 + a0)) % 256] : List Int)))) else ((spec_RustDecimal.f k (IntKind.u64.wrap (Int.tdiv a0 10))).bind fun t111 => ((spec_RustDecimal.f k (Int.tmod a0 10)).bind fun t112 => (if t111.size + t112.size ≤ 9223372036854775807 then (some (t111 ++ t112)) else (none))))) = some r := h
  clear h
  by_cases c2 : a0 < 10
  · rw [if_pos c2] at H
    have c2b0 : decide (a0 < 10) = true := decide_eq_true c2
    clear c2
    obtain ⟨y108, hy108⟩ : ∃ y_ : List Int, y_ = (([(IntKind.u64.wrap (48 + a0)) % 256] : List Int)) := ⟨_, rfl⟩
    replace H : (some (strOfNums y108)) = some r := by first | (rw [hy108]; with_reducible exact H) | (have H2_ := (Option.bind_some _ _).symm.trans H; rw [hy108]; with_reducible exact H2_) | (have H2_ := (Option.bind_some _ _).symm.trans H; with_reducible exact H2_) | with_reducible exact H | (rw [hy108]; exact H) | exact H
    have Ny108 := Aside0.mk hy108
    clear hy108
    obtain rfl := Option.some.inj H
    go_enter Tryd.func24, Tryd.ntmps24
    go_wp2_with (first | ((with_reducible refine gate_dst (N := 8) rfl ?_); refine Kd.R_lit (Kd.int .u8) _ 5 ?hg (N := 8) ?hd (xs := ([(IntKind.u64.wrap (48 + a0)) % 256] : List Int)) (inner := [.int .u8 ((IntKind.u64.wrap (48 + a0)) % 256)]) (ok := fun _ => True) (okp := fun _ => True) ?hr ?hp (fun _ hk => hk) trivial (Below.refl _ _) (Nat.le_refl _) (by simp) ?_; (case hd => rfl); (case hg => rfl); (case hr => first | (go_simp; done) | (go_simp; rfl)); (case hp => exact (Reps.one (show Kd.M (Kd.int .u8) _ _ _ ((IntKind.u64.wrap (48 + a0)) % 256) [.int .u8 ((IntKind.u64.wrap (48 + a0)) % 256)] from rfl) (Reps.none _ _))); intro v109 w3 ho4 hb hg_ hnew_; clear hg_ hnew_; (first | rw [← Ny108.out] at ho4 | (simp only [Int.reduceToNat] at ho4; rw [← Ny108.out] at ho4)); have n0_ := Aside0.mk (Kd.R_lower ho4 (below_size (by repeat (first | (with_reducible first | exact HB.out | apply below_alloc | apply pw_below_drewN | apply below_drew1) | exact HB.out | exact Below.refl _ _)))); have n1_ := Aside0.mk (below_step (by repeat (first | (with_reducible first | exact HB.out | apply below_alloc | apply pw_below_drewN | apply below_drew1) | exact HB.out | exact Below.refl _ _)) hb); clear HB; have HO110 := n0_; have HB := n1_; clear n0_ n1_; clear hb ho4; have hcv5 := own_string (P := Tryd.prog) Tryd.underlying27 Tryd.underlying5 Tryd.underlying9 (Kd.own_of_R HO110.out)))
    go_ret
    exact ⟨by first | rfl | (simp [errW_none, errW_some] <;> rfl) | (simp [*, errW_none, errW_some] <;> rfl), by repeat (first | (with_reducible first | exact HB.out | apply below_alloc | apply pw_below_drewN | apply below_drew1) | exact HB.out)⟩
  · rw [if_neg c2] at H
    have c2b0 : decide (a0 < 10) = false := decide_eq_false c2
    clear c2
    replace H := Option.bind_eq_some_iff.mp H
    obtain ⟨t111, A60, H⟩ := H
    replace H : ((spec_RustDecimal.f k (Int.tmod a0 10)).bind fun t112 => (if t111.size + t112.size ≤ 9223372036854775807 then (some (t111 ++ t112)) else (none))) = some r := H
    have A6 := Aside0.mk A60
    clear A60
    replace H := Option.bind_eq_some_iff.mp H
    obtain ⟨t112, A70, H⟩ := H
    replace H : (if t111.size + t112.size ≤ 9223372036854775807 then (some (t111 ++ t112)) else (none)) = some r := H
    have A7 := Aside0.mk A70
    clear A70
    by_cases c8 : t111.size + t112.size ≤ 9223372036854775807
    · rw [if_pos c8] at H
      have c8b0 := eq_true c8
      have c8b1 : decide (t111.size + t112.size ≤ 9223372036854775807) = true := decide_eq_true c8
      try have c8b2 : (9223372036854775807 < t111.size + t112.size) = False := eq_false (Nat.not_lt.2 c8)
      obtain rfl := Option.some.inj H
      go_enter Tryd.func24, Tryd.ntmps24
      go_wp2_with (first | ((with_reducible refine gate_callee (f := 24) rfl ?_); refine goesL_ (some 12) rfl rfl Tryd.func24 (by kernel_rfl) rfl #[.int .u64 (IntKind.u64.wrap (Int.tdiv a0 10))] rfl (by (try simp only [List.map_toArray, List.map_cons, List.map_nil]); first | done | rfl | (simp only [List.length_drop, List.length_take]; rfl)) ?_; (with_reducible refine (ih k (by omega) (IntKind.u64.wrap (Int.tdiv a0 10)) t111 _ A6.out).mono ?_); rintro e w9 ⟨rfl, hb⟩; refine ⟨_, rfl, ?_⟩; have n0_ := Aside0.mk (below_step (by repeat (first | (with_reducible first | exact HB.out | apply below_alloc | apply pw_below_drewN | apply below_drew1) | exact HB.out | exact Below.refl _ _)) hb); clear HB; have HB := n0_; clear n0_; (try clear hb); (try clear hb2); (try clear hk); (try clear hi)) | ((with_reducible refine gate_callee (f := 24) rfl ?_); refine goesL_ (some 15) rfl rfl Tryd.func24 (by kernel_rfl) rfl #[.int .u64 (Int.tmod a0 10)] rfl (by (try simp only [List.map_toArray, List.map_cons, List.map_nil]); first | done | rfl | (simp only [List.length_drop, List.length_take]; rfl)) ?_; (with_reducible refine (ih k (by omega) (Int.tmod a0 10) t112 _ A7.out).mono ?_); rintro e w10 ⟨rfl, hb⟩; refine ⟨_, rfl, ?_⟩; have n0_ := Aside0.mk (below_step (by repeat (first | (with_reducible first | exact HB.out | apply below_alloc | apply pw_below_drewN | apply below_drew1) | exact HB.out | exact Below.refl _ _)) hb); clear HB; have HB := n0_; clear n0_; (try clear hb); (try clear hb2); (try clear hk); (try clear hi)))
      go_ret
      exact ⟨by first | rfl | (simp [errW_none, errW_some] <;> rfl) | (simp [*, errW_none, errW_some] <;> rfl), by repeat (first | (with_reducible first | exact HB.out | apply below_alloc | apply pw_below_drewN | apply below_drew1) | exact HB.out)⟩
    · rw [if_neg c8] at H
      exact absurd H (by simp)

end Go.Proofs.YtpmlnhddkbgefaaDoor.PFnConstantLeast
