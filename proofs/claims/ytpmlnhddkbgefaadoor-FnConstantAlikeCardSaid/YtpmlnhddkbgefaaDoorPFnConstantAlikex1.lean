/- Written by a program of this session (wip/tools/myprint.py) with the kit's print: contracts of the functions that one statement reaches; functions that are proved by hand are taken as printed. Conditions: none. -/
import Derived.Test.YtpmlnhddkbgefaaDoorPFnConstantAlikex0
namespace Go.Proofs.YtpmlnhddkbgefaaDoor.PFnConstantAlike
open Go.RowKit Go.Proofs.YtpmlnhddkbgefaaDoorW.PrintWords Go.Proofs.YtpmlnhddkbgefaaDoorW.PrintLast Go.Proofs.YtpmlnhddkbgefaaDoorW.PrintMore
attribute [local go_sem] max2_int min2_int max_two min_two max_three min_three max_four min_four   -- for this text's walks alone
set_option linter.unusedVariables false
set_option linter.unusedSimpArgs false

/-! ### spec_rustHex: function 39 -/
def spec_rustHex.f : Nat → Int → Option (ByteArray)
  | 0, _ => none
  | k + 1, a0 => if a0 < 16 then (if 0 ≤ a0 then (if a0 ≤ (IntKind.u64.wrap (a0 + 1)) then (if (IntKind.u64.wrap (a0 + 1)) ≤ 16 then (some ((⟨#[48, 49, 50, 51, 52, 53, 54, 55, 56, 57, 97, 98, 99, 100, 101, 102]⟩ : ByteArray).extract (a0 : Int).toNat ((IntKind.u64.wrap (a0 + 1)) : Int).toNat)) else (none)) else (none)) else (none)) else ((spec_rustHex.f k (IntKind.u64.wrap (Int.tdiv a0 16))).bind fun t101 => (if 0 ≤ (Int.tmod a0 16) then (if (Int.tmod a0 16) ≤ (IntKind.u64.wrap ((Int.tmod a0 16) + 1)) then (if (IntKind.u64.wrap ((Int.tmod a0 16) + 1)) ≤ 16 then (if t101.size + ((⟨#[48, 49, 50, 51, 52, 53, 54, 55, 56, 57, 97, 98, 99, 100, 101, 102]⟩ : ByteArray).extract ((Int.tmod a0 16) : Int).toNat ((IntKind.u64.wrap ((Int.tmod a0 16) + 1)) : Int).toNat).size ≤ 9223372036854775807 then (some (t101 ++ ((⟨#[48, 49, 50, 51, 52, 53, 54, 55, 56, 57, 97, 98, 99, 100, 101, 102]⟩ : ByteArray).extract ((Int.tmod a0 16) : Int).toNat ((IntKind.u64.wrap ((Int.tmod a0 16) + 1)) : Int).toNat))) else (none)) else (none)) else (none)) else (none)))
theorem spec_rustHex.mono_l : ∀ k, (∀ y0, LeO (spec_rustHex.f k y0) (spec_rustHex.f (k + 1) y0))
  | 0 => fun _ r h => by simp [spec_rustHex.f] at h
  | k + 1 => by
    have ih0 := spec_rustHex.mono_l k
    · intro y0
      unfold spec_rustHex.f
      repeat' first
      | (with_reducible exact ih0 _)
      | (with_reducible exact LeO.refl _)
      | (with_reducible exact LeO.none _)
      | (with_reducible refine LeO.ite ?_ ?_)
      | (with_reducible refine LeO.bind ?_ (fun _ => ?_))
      | exact ih0 _
      | exact LeO.none _
      | refine LeO.ite ?_ ?_
      | refine LeO.bind ?_ (fun _ => ?_)
theorem spec_rustHex.mono : ∀ a0 k, LeO (spec_rustHex.f k a0) (spec_rustHex.f (k + 1) a0) := by
  intro a0 k
  have ih0 := spec_rustHex.mono_l k
  exact ih0 a0
def spec_rustHex.T3 : Bool × List (List Nat × List Nat) := (true, [([], []), ([0], [0]), ([1], [1]), ([], []), ([3], [3]), ([], []), ([5], [5]), ([6], [6]), ([4, 7], [4, 7]), ([2, 8], [2, 8]), ([9, 2, 0, 1, 2, 3, 4, 5, 6, 7, 8, 9], [9])])
def spec_rustHex.B3 : List Nat := [0, 1, 3, 0, 8, 0, 32, 96, 248, 511, 1023]
theorem spec_rustHex.tab3 : rtab .any (opsOf Tryd.f39 3) = spec_rustHex.T3 := by kernel_rfl
theorem spec_rustHex.bits3 : waitsOk spec_rustHex.T3.2 spec_rustHex.B3 = true := by kernel_rfl
set_option maxHeartbeats 8000000 in
set_option maxRecDepth 100000 in
theorem spec_rustHex.calls (k : Nat) : ∀ (a0 : Int) (r : ByteArray) (w : World) (h : spec_rustHex.f k a0 = some r),
    Calls Tryd.prog 39 #[.int .u64 a0] w fun e w' => e = .returned (.string r) ∧ Below w.heap.size w w' := by
  induction k using Nat.strongRecOn with
  | _ k ih =>
  intro a0 r w h
  cases k with
  | zero => exact absurd h (by simp [spec_rustHex.f])
  | succ k =>
  simp only [spec_rustHex.f] at h
  have HB := Aside0.mk (Below.refl w.heap.size w)
  have H : (if a0 < 16 then (if 0 ≤ a0 then (if a0 ≤ (IntKind.u64.wrap (a0 + 1)) then (if (IntKind.u64.wrap (a0 + 1)) ≤ 16 then (some ((⟨#[48, 49, 50, 51, 52, 53, 54, 55, 56, 57, 97, 98, 99, 100, 101, 102]⟩ : ByteArray).extract (a0 : Int).toNat ((IntKind.u64.wrap (a0 + 1)) : Int).toNat)) else (none)) else (none)) else (none)) else ((spec_rustHex.f k (IntKind.u64.wrap (Int.tdiv a0 16))).bind fun t101 => (if 0 ≤ (Int.tmod a0 16) then (if (Int.tmod a0 16) ≤ (IntKind.u64.wrap ((Int.tmod a0 16) + 1)) then (if (IntKind.u64.wrap ((Int.tmod a0 16) + 1)) ≤ 16 then (if t101.size + ((⟨#[48, 49, 50, 51, 52, 53, 54, 55, 56, 57, 97, 98, 99, 100, 101, 102]⟩ : ByteArray).extract ((Int.tmod a0 16) : Int).toNat ((IntKind.u64.wrap ((Int.tmod a0 16) + 1)) : Int).toNat).size ≤ 9223372036854775807 then (some (t101 ++ ((⟨#[48, 49, 50, 51, 52, 53, 54, 55, 56, 57, 97, 98, 99, 100, 101, 102]⟩ : ByteArray).extract ((Int.tmod a0 16) : Int).toNat ((IntKind.u64.wrap ((Int.tmod a0 16) + 1)) : Int).toNat))) else (none)) else (none)) else (none)) else (none)))) = some r := h
  clear h
  by_cases c2 : a0 < 16
  · rw [if_pos c2] at H
    have c2b0 : decide (a0 < 16) = true := decide_eq_true c2
    clear c2
    by_cases c3 : 0 ≤ a0
    · rw [if_pos c3] at H
      have c3b0 := eq_true c3
      have c3b1 : decide (0 ≤ a0) = true := decide_eq_true c3
      clear c3
      by_cases c4 : a0 ≤ (IntKind.u64.wrap (a0 + 1))
      · rw [if_pos c4] at H
        have c4b0 := eq_true c4
        have c4b1 : decide (a0 ≤ (IntKind.u64.wrap (a0 + 1))) = true := decide_eq_true c4
        by_cases c5 : (IntKind.u64.wrap (a0 + 1)) ≤ 16
        · rw [if_pos c5] at H
          have c5b0 := eq_true c5
          have c5b1 : decide ((IntKind.u64.wrap (a0 + 1)) ≤ 16) = true := decide_eq_true c5
          obtain rfl := Option.some.inj H
          go_enter Tryd.func39, Tryd.ntmps39
          go_wp2
          go_ret
          exact ⟨by first | rfl | (simp [errW_none, errW_some] <;> rfl) | (simp [*, errW_none, errW_some] <;> rfl), by repeat (first | (with_reducible first | exact HB.out | apply below_alloc | apply pw_below_drewN | apply below_drew1) | exact HB.out)⟩
        · rw [if_neg c5] at H
          exact absurd H (by simp)
      · rw [if_neg c4] at H
        exact absurd H (by simp)
    · rw [if_neg c3] at H
      exact absurd H (by simp)
  · rw [if_neg c2] at H
    have c2b0 : decide (a0 < 16) = false := decide_eq_false c2
    clear c2
    replace H := Option.bind_eq_some_iff.mp H
    obtain ⟨t101, A60, H⟩ := H
    replace H : (if 0 ≤ (Int.tmod a0 16) then (if (Int.tmod a0 16) ≤ (IntKind.u64.wrap ((Int.tmod a0 16) + 1)) then (if (IntKind.u64.wrap ((Int.tmod a0 16) + 1)) ≤ 16 then (if t101.size + ((⟨#[48, 49, 50, 51, 52, 53, 54, 55, 56, 57, 97, 98, 99, 100, 101, 102]⟩ : ByteArray).extract ((Int.tmod a0 16) : Int).toNat ((IntKind.u64.wrap ((Int.tmod a0 16) + 1)) : Int).toNat).size ≤ 9223372036854775807 then (some (t101 ++ ((⟨#[48, 49, 50, 51, 52, 53, 54, 55, 56, 57, 97, 98, 99, 100, 101, 102]⟩ : ByteArray).extract ((Int.tmod a0 16) : Int).toNat ((IntKind.u64.wrap ((Int.tmod a0 16) + 1)) : Int).toNat))) else (none)) else (none)) else (none)) else (none)) = some r := H
    have A6 := Aside0.mk A60
    clear A60
    obtain ⟨ji7, hji7⟩ : ∃ j_ : Int, (Int.tmod a0 16) = j_ := ⟨_, rfl⟩
    replace H : (if 0 ≤ (ji7) then (if (ji7) ≤ (IntKind.u64.wrap ((ji7) + 1)) then (if (IntKind.u64.wrap ((ji7) + 1)) ≤ 16 then (if t101.size + ((⟨#[48, 49, 50, 51, 52, 53, 54, 55, 56, 57, 97, 98, 99, 100, 101, 102]⟩ : ByteArray).extract ((ji7) : Int).toNat ((IntKind.u64.wrap ((ji7) + 1)) : Int).toNat).size ≤ 9223372036854775807 then (some (t101 ++ ((⟨#[48, 49, 50, 51, 52, 53, 54, 55, 56, 57, 97, 98, 99, 100, 101, 102]⟩ : ByteArray).extract ((ji7) : Int).toNat ((IntKind.u64.wrap ((ji7) + 1)) : Int).toNat))) else (none)) else (none)) else (none)) else (none)) = some r := by first | (rw [hji7] at H; exact H) | (simp only [hji7] at H ⊢; exact H)
    (try rw [hji7] at A6)
    by_cases c8 : 0 ≤ (ji7)
    · rw [if_pos c8] at H
      have c8b0 := eq_true c8
      have c8b1 : decide (0 ≤ (ji7)) = true := decide_eq_true c8
      clear c8
      by_cases c9 : (ji7) ≤ (IntKind.u64.wrap ((ji7) + 1))
      · rw [if_pos c9] at H
        have c9b0 := eq_true c9
        have c9b1 : decide ((ji7) ≤ (IntKind.u64.wrap ((ji7) + 1))) = true := decide_eq_true c9
        by_cases c10 : (IntKind.u64.wrap ((ji7) + 1)) ≤ 16
        · rw [if_pos c10] at H
          have c10b0 := eq_true c10
          have c10b1 : decide ((IntKind.u64.wrap ((ji7) + 1)) ≤ 16) = true := decide_eq_true c10
          by_cases c11 : t101.size + ((⟨#[48, 49, 50, 51, 52, 53, 54, 55, 56, 57, 97, 98, 99, 100, 101, 102]⟩ : ByteArray).extract ((ji7) : Int).toNat ((IntKind.u64.wrap ((ji7) + 1)) : Int).toNat).size ≤ 9223372036854775807
          · rw [if_pos c11] at H
            have c11b0 := eq_true c11
            have c11b1 : decide (t101.size + ((⟨#[48, 49, 50, 51, 52, 53, 54, 55, 56, 57, 97, 98, 99, 100, 101, 102]⟩ : ByteArray).extract ((ji7) : Int).toNat ((IntKind.u64.wrap ((ji7) + 1)) : Int).toNat).size ≤ 9223372036854775807) = true := decide_eq_true c11
            try have c11b2 : (9223372036854775807 < t101.size + ((⟨#[48, 49, 50, 51, 52, 53, 54, 55, 56, 57, 97, 98, 99, 100, 101, 102]⟩ : ByteArray).extract ((ji7) : Int).toNat ((IntKind.u64.wrap ((ji7) + 1)) : Int).toNat).size) = False := eq_false (Nat.not_lt.2 c11)
            try (have c11q := c11; rw [ByteArray.size_extract, Nat.min_eq_left (by show _ ≤ Array.size _; simp only [List.size_toArray, List.length_cons, List.length_nil]; omega)] at c11q; have c11b3 := eq_false (Nat.not_lt.2 c11q); clear c11q)
            obtain rfl := Option.some.inj H
            go_enter Tryd.func39, Tryd.ntmps39
            try go_wp2
            have n0_ := Aside0.mk (below_drew1 HB.out)
            clear HB
            have HB := n0_
            clear n0_
            refine start_ (n := 11) (S := fun w' => True) (ds := []) #[false, false, false, false, false, false, false, false, false, false, false] (by kernel_rfl) rfl rfl trivial (fun hHeld => ?_); refine with_tabW spec_rustHex.tab3 spec_rustHex.bits3 (fun HT_ HW_ => ?_)
            generalize w.drew = w12 at HB hHeld ⊢
            refine pure_ (i := 0) (N := some 9) (v := ?_) (a' := ?_) #[true, false, false, false, false, false, false, false, false, false, false] rfl rfl (any_of HT_.out (by kernel_rfl)) (fun _ _ _ h => h) (Or.inl ⟨by rfl, ?_⟩) ?_ ?_
            rotate_left
            · intro w'
              go_simp
              with_reducible rfl
            rotate_left
            · simp only [Act.put, List.setIfInBounds_toArray, List.set_cons_zero, List.set_cons_succ, i64_w, i32_w]
              rfl
            refine pure_ (i := 1) (N := some 10) (v := ?_) (a' := ?_) #[true, true, false, false, false, false, false, false, false, false, false] rfl rfl (any_of HT_.out (by kernel_rfl)) (fun _ _ _ h => h) (Or.inl ⟨by rfl, ?_⟩) ?_ ?_
            rotate_left
            · intro w'
              go_simp
              with_reducible rfl
            rotate_left
            · simp only [Act.put, List.setIfInBounds_toArray, List.set_cons_zero, List.set_cons_succ, i64_w, i32_w]
              rfl
            refine pure_ (i := 3) (N := some 12) (v := ?_) (a' := ?_) #[true, true, false, true, false, false, false, false, false, false, false] rfl rfl (any_of HT_.out (by kernel_rfl)) (fun _ _ _ h => h) (Or.inl ⟨by rfl, ?_⟩) ?_ ?_
            rotate_left
            · intro w'
              go_simp
              with_reducible rfl
            rotate_left
            · simp only [Act.put, List.setIfInBounds_toArray, List.set_cons_zero, List.set_cons_succ, i64_w, i32_w]
              rfl
            refine pure_ (i := 4) (N := some 13) (v := ?_) (a' := ?_) #[true, true, false, true, true, false, false, false, false, false, false] rfl rfl (any_of HT_.out (by kernel_rfl)) (fun _ _ _ h => h) (Or.inl ⟨by rfl, ?_⟩) ?_ ?_
            rotate_left
            · intro w'
              go_simp
              with_reducible rfl
            rotate_left
            · simp only [Act.put, List.setIfInBounds_toArray, List.set_cons_zero, List.set_cons_succ, i64_w, i32_w]
              rfl
            refine pure_ (i := 5) (N := some 14) (v := ?_) (a' := ?_) #[true, true, false, true, true, true, false, false, false, false, false] rfl rfl (any_of HT_.out (by kernel_rfl)) (fun _ _ _ h => h) (Or.inl ⟨by rfl, ?_⟩) ?_ ?_
            rotate_left
            · intro w'
              go_simp
              with_reducible rfl
            rotate_left
            · simp only [Act.put, List.setIfInBounds_toArray, List.set_cons_zero, List.set_cons_succ, i64_w, i32_w]
              rfl
            refine pure_ (i := 6) (N := some 15) (v := ?_) (a' := ?_) #[true, true, false, true, true, true, true, false, false, false, false] rfl rfl (any_of HT_.out (by kernel_rfl)) (fun _ _ _ h => h) (Or.inl ⟨by rfl, ?_⟩) ?_ ?_
            rotate_left
            · intro w'
              go_simp
              with_reducible rfl
            rotate_left
            · simp only [Act.put, List.setIfInBounds_toArray, List.set_cons_zero, List.set_cons_succ, i64_w, i32_w]
              rfl
            refine pure_ (i := 7) (N := some 16) (v := ?_) (a' := ?_) #[true, true, false, true, true, true, true, true, false, false, false] rfl rfl (any_of HT_.out (by kernel_rfl)) (fun _ _ _ h => h) (Or.inl ⟨by rfl, ?_⟩) ?_ ?_
            rotate_left
            · intro w'
              go_simp
              with_reducible rfl
            rotate_left
            · simp only [Act.put, List.setIfInBounds_toArray, List.set_cons_zero, List.set_cons_succ, i64_w, i32_w]
              rfl
            refine pure_ (i := 8) (N := some 17) (v := ?_) (a' := ?_) #[true, true, false, true, true, true, true, true, true, false, false] rfl rfl (any_of HT_.out (by kernel_rfl)) (fun _ _ _ h => h) (Or.inl ⟨by rfl, ?_⟩) ?_ ?_
            rotate_left
            · intro w'
              go_simp
              with_reducible rfl
            rotate_left
            · simp only [Act.put, List.setIfInBounds_toArray, List.set_cons_zero, List.set_cons_succ, i64_w, i32_w]
              rfl
            refine one_ (i := 2) (N := some 11) #[true, true, true, true, true, true, true, true, true, false, false] rfl rfl (one_of HT_.out (by kernel_rfl)) (by decide) (fun K hK => ?_)
            refine goes_ Tryd.func39 (by kernel_rfl) rfl #[.int .u64 (IntKind.u64.wrap (Int.tdiv a0 16))] (by rfl) rfl rfl (by (try simp only [List.map_toArray, List.map_cons, List.map_nil]); first | done | rfl | (simp only [List.length_drop, List.length_take]; rfl)) ?_
            with_reducible refine (ih k (by omega) (IntKind.u64.wrap (Int.tdiv a0 16)) t101 _ A6.out).mono ?_
            rintro e w13 ⟨rfl, hb⟩
            refine ⟨_, rfl, ?_⟩
            have n0_ := Aside0.mk (below_step (by repeat (first | (with_reducible first | exact HB.out | apply below_alloc | apply pw_below_drewN | apply below_drew1) | exact HB.out)) hb)
            clear HB
            have HB := n0_
            clear n0_
            (try clear hb)
            (try clear hb2)
            (try clear hk)
            (try clear hi)
            refine hK.out _ _ trivial (fun hHeld => ?_)
            clear hK K
            refine norm_ (a' := ?_) ?_ ?_
            rotate_left
            · show Act.put _ (some 11) _ = _
              simp only [Act.put, List.setIfInBounds_toArray, List.set_cons_zero, List.set_cons_succ, i64_w, i32_w]
              rfl
            refine pure_ (i := 9) (N := some 18) (v := ?_) (a' := ?_) #[true, true, true, true, true, true, true, true, true, true, false] rfl rfl (any_of HT_.out (by kernel_rfl)) (fun _ _ _ h => h) (Or.inl ⟨by rfl, ?_⟩) ?_ ?_
            rotate_left
            · intro w'
              go_simp
              with_reducible rfl
            rotate_left
            · simp only [Act.put, List.setIfInBounds_toArray, List.set_cons_zero, List.set_cons_succ, i64_w, i32_w]
              rfl
            refine pure_ (i := 10) (N := some 2) (v := ?_) (a' := ?_) #[true, true, true, true, true, true, true, true, true, true, true] rfl rfl (any_of HT_.out (by kernel_rfl)) (fun _ _ _ h => h) (Or.inl ⟨by rfl, ?_⟩) ?_ ?_
            rotate_left
            · intro w'
              go_simp
              with_reducible rfl
            rotate_left
            · simp only [Act.put, List.setIfInBounds_toArray, List.set_cons_zero, List.set_cons_succ, i64_w, i32_w]
              rfl
            refine done_ (done_of HT_.out (by kernel_rfl)) ?_
            try go_wp2
            go_ret
            exact ⟨by first | rfl | (simp [errW_none, errW_some] <;> rfl) | (simp only [← hji7]; first | rfl | (simp [errW_none, errW_some] <;> rfl)) | (simp [*, errW_none, errW_some] <;> rfl), by repeat (first | (with_reducible first | exact HB.out | apply below_alloc | apply pw_below_drewN | apply below_drew1) | exact HB.out)⟩
          · rw [if_neg c11] at H
            exact absurd H (by simp)
        · rw [if_neg c10] at H
          exact absurd H (by simp)
      · rw [if_neg c9] at H
        exact absurd H (by simp)
    · rw [if_neg c8] at H
      exact absurd H (by simp)

/-! ### spec_RustHex: function 15 -/
def spec_RustHex.f (k : Nat) (a0 : Int) : Option (ByteArray) := (spec_rustHex.f k a0).bind fun t102 => (some t102)
theorem spec_RustHex.mono : ∀ a0 k, LeO (spec_RustHex.f k a0) (spec_RustHex.f (k + 1) a0) := by
  intro a0 k
  unfold spec_RustHex.f
  repeat' first
      | (with_reducible exact spec_rustHex.mono _ _)
      | (with_reducible exact LeO.refl _)
      | (with_reducible exact LeO.none _)
      | (with_reducible refine LeO.ite ?_ ?_)
      | (with_reducible refine LeO.bind ?_ (fun _ => ?_))
      | exact spec_rustHex.mono _ _
      | exact LeO.none _
      | refine LeO.ite ?_ ?_
      | refine LeO.bind ?_ (fun _ => ?_)
set_option maxHeartbeats 8000000 in
set_option maxRecDepth 100000 in
theorem spec_RustHex.calls (k : Nat) (a0 : Int) (r : ByteArray) (w : World) (h : spec_RustHex.f k a0 = some r) :
    Calls Tryd.prog 15 #[.int .u64 a0] w fun e w' => e = .returned (.string r) ∧ Below w.heap.size w w' := by
  have HB := Aside0.mk (Below.refl w.heap.size w)
  have H : ((spec_rustHex.f k a0).bind fun t102 => (some t102)) = some r := h
  clear h
  replace H := Option.bind_eq_some_iff.mp H
  obtain ⟨t102, A20, H⟩ := H
  replace H : (some t102) = some r := H
  have A2 := Aside0.mk A20
  clear A20
  obtain rfl := Option.some.inj H
  go_enter Tryd.func15, Tryd.ntmps15
  go_wp2_with (first | ((with_reducible refine gate_callee (f := 39) rfl ?_); refine goesL_ (some 4) rfl rfl Tryd.func39 (by kernel_rfl) rfl #[.int .u64 a0] rfl (by (try simp only [List.map_toArray, List.map_cons, List.map_nil]); first | done | rfl | (simp only [List.length_drop, List.length_take]; rfl)) ?_; (with_reducible refine (spec_rustHex.calls k a0 t102 _ A2.out).mono ?_); rintro e w3 ⟨rfl, hb⟩; refine ⟨_, rfl, ?_⟩; have n0_ := Aside0.mk (below_step (by repeat (first | (with_reducible first | exact HB.out | apply below_alloc | apply pw_below_drewN | apply below_drew1) | exact HB.out)) hb); clear HB; have HB := n0_; clear n0_; (try clear hb); (try clear hb2); (try clear hk); (try clear hi)))
  go_ret
  exact ⟨by first | rfl | (simp [errW_none, errW_some] <;> rfl) | (simp [*, errW_none, errW_some] <;> rfl), by repeat (first | (with_reducible first | exact HB.out | apply below_alloc | apply pw_below_drewN | apply below_drew1) | exact HB.out)⟩

/-! ### spec_RustUnsigned: function 17 -/
def spec_RustUnsigned.f (a0 : Int) : Option (Int) := if 0 ≤ (Int.tmod (wrap64 ((Int.tmod a0 6) + 6)) 6) then (if (Int.tmod (wrap64 ((Int.tmod a0 6) + 6)) 6) < 6 then (some (bt (⟨#[104, 116, 109, 121, 111, 106]⟩ : ByteArray) (Int.tmod (wrap64 ((Int.tmod a0 6) + 6)) 6))) else (none)) else (none)
set_option maxHeartbeats 8000000 in
set_option maxRecDepth 100000 in
theorem spec_RustUnsigned.calls (a0 : Int) (r : Int) (w : World) (h : spec_RustUnsigned.f a0 = some r) :
    Calls Tryd.prog 17 #[.int .i64 a0] w fun e w' => e = .returned (.int .u8 r) ∧ Drawn0 w w' := by
  have H : (if 0 ≤ (Int.tmod (wrap64 ((Int.tmod a0 6) + 6)) 6) then (if (Int.tmod (wrap64 ((Int.tmod a0 6) + 6)) 6) < 6 then (some (bt (⟨#[104, 116, 109, 121, 111, 106]⟩ : ByteArray) (Int.tmod (wrap64 ((Int.tmod a0 6) + 6)) 6))) else (none)) else (none)) = some r := h
  clear h
  obtain ⟨ji2, hji2⟩ : ∃ j_ : Int, (Int.tmod (wrap64 ((Int.tmod a0 6) + 6)) 6) = j_ := ⟨_, rfl⟩
  replace H : (if 0 ≤ (ji2) then (if (ji2) < 6 then (some (bt (⟨#[104, 116, 109, 121, 111, 106]⟩ : ByteArray) (ji2))) else (none)) else (none)) = some r := by first | (rw [hji2] at H; exact H) | (simp only [hji2] at H ⊢; exact H)
  by_cases c3 : 0 ≤ (ji2)
  · rw [if_pos c3] at H
    have c3b0 : decide (0 ≤ (ji2)) = true := decide_eq_true c3
    clear c3
    by_cases c4 : (ji2) < 6
    · rw [if_pos c4] at H
      have c4b0 : decide ((ji2) < 6) = true := decide_eq_true c4
      clear c4
      obtain rfl := Option.some.inj H
      have p5 : 0 ≤ ((ji2) : Int) := of_decide_eq_true (by first | (with_reducible assumption) | assumption)
      have q5 : (ji2) < (6 : Int) := of_decide_eq_true (by first | (with_reducible assumption) | assumption)
      have hx5 := bt_at (⟨#[104, 116, 109, 121, 111, 106]⟩ : ByteArray) (ji2)
      replace p5 := eq_true p5
      replace q5 := eq_true q5
      go_enter Tryd.func17, Tryd.ntmps17
      go_wp2
      go_ret
      exact ⟨by first | rfl | (simp; done) | (simp only [← hji2] <;> (first | rfl | simp)) | (simp [*]; done), by repeat (first | exact Drawn0.refl _ | apply Drawn0.step)⟩
    · rw [if_neg c4] at H
      exact absurd H (by simp)
  · rw [if_neg c3] at H
    exact absurd H (by simp)

/-! ### spec_RustSigned: function 18 -/
def spec_RustSigned.f (a0 : Int) : Option (Int) := if 0 ≤ (Int.tmod (wrap64 ((Int.tmod a0 6) + 6)) 6) then (if (Int.tmod (wrap64 ((Int.tmod a0 6) + 6)) 6) < 6 then (some (bt (⟨#[97, 115, 108, 120, 110, 105]⟩ : ByteArray) (Int.tmod (wrap64 ((Int.tmod a0 6) + 6)) 6))) else (none)) else (none)
set_option maxHeartbeats 8000000 in
set_option maxRecDepth 100000 in
theorem spec_RustSigned.calls (a0 : Int) (r : Int) (w : World) (h : spec_RustSigned.f a0 = some r) :
    Calls Tryd.prog 18 #[.int .i64 a0] w fun e w' => e = .returned (.int .u8 r) ∧ Drawn0 w w' := by
  have H : (if 0 ≤ (Int.tmod (wrap64 ((Int.tmod a0 6) + 6)) 6) then (if (Int.tmod (wrap64 ((Int.tmod a0 6) + 6)) 6) < 6 then (some (bt (⟨#[97, 115, 108, 120, 110, 105]⟩ : ByteArray) (Int.tmod (wrap64 ((Int.tmod a0 6) + 6)) 6))) else (none)) else (none)) = some r := h
  clear h
  obtain ⟨ji2, hji2⟩ : ∃ j_ : Int, (Int.tmod (wrap64 ((Int.tmod a0 6) + 6)) 6) = j_ := ⟨_, rfl⟩
  replace H : (if 0 ≤ (ji2) then (if (ji2) < 6 then (some (bt (⟨#[97, 115, 108, 120, 110, 105]⟩ : ByteArray) (ji2))) else (none)) else (none)) = some r := by first | (rw [hji2] at H; exact H) | (simp only [hji2] at H ⊢; exact H)
  by_cases c3 : 0 ≤ (ji2)
  · rw [if_pos c3] at H
    have c3b0 : decide (0 ≤ (ji2)) = true := decide_eq_true c3
    clear c3
    by_cases c4 : (ji2) < 6
    · rw [if_pos c4] at H
      have c4b0 : decide ((ji2) < 6) = true := decide_eq_true c4
      clear c4
      obtain rfl := Option.some.inj H
      have p5 : 0 ≤ ((ji2) : Int) := of_decide_eq_true (by first | (with_reducible assumption) | assumption)
      have q5 : (ji2) < (6 : Int) := of_decide_eq_true (by first | (with_reducible assumption) | assumption)
      have hx5 := bt_at (⟨#[97, 115, 108, 120, 110, 105]⟩ : ByteArray) (ji2)
      replace p5 := eq_true p5
      replace q5 := eq_true q5
      go_enter Tryd.func18, Tryd.ntmps18
      go_wp2
      go_ret
      exact ⟨by first | rfl | (simp; done) | (simp only [← hji2] <;> (first | rfl | simp)) | (simp [*]; done), by repeat (first | exact Drawn0.refl _ | apply Drawn0.step)⟩
    · rw [if_neg c4] at H
      exact absurd H (by simp)
  · rw [if_neg c3] at H
    exact absurd H (by simp)

/-! ### laws_FnConstantAlike: function 3 -/
def laws_FnConstantAlike.f (k : Nat) (a0 : Int) (a1 : Int) (a2 : Int) : Option (Bool) := if a2 > 127 then (some true) else ((spec_RustHex.f k a2).bind fun t103 => (if t103.size + 1 ≤ 9223372036854775807 then ((spec_RustUnsigned.f a0).bind fun t104 => ((some (([t104] : List Int) : List Int)).bind fun y105 => (if (strOfNums y105).size + (t103 ++ (⟨#[95]⟩ : ByteArray)).size ≤ 9223372036854775807 then ((impl_Constant.f ((strOfNums y105) ++ (t103 ++ (⟨#[95]⟩ : ByteArray)))).bind fun bt108 => ((spec_RustSigned.f a1).bind fun t111 => ((some (([t111] : List Int) : List Int)).bind fun y112 => (if (strOfNums y112).size + (t103 ++ (⟨#[95]⟩ : ByteArray)).size ≤ 9223372036854775807 then ((impl_Constant.f ((strOfNums y112) ++ (t103 ++ (⟨#[95]⟩ : ByteArray)))).bind fun bt115 => (if bt108.2.2 = true then (if bt115.2.2 = true then (if bt108.1.toList = ([] : List UInt8) then (some false) else (some (bt108.1.toList == bt115.1.toList))) else (some false)) else (some false))) else (none))))) else (none)))) else (none)))
theorem laws_FnConstantAlike.mono : ∀ a0 a1 a2 k, LeO (laws_FnConstantAlike.f k a0 a1 a2) (laws_FnConstantAlike.f (k + 1) a0 a1 a2) := by
  intro a0 a1 a2 k
  unfold laws_FnConstantAlike.f
  repeat' first
      | (with_reducible exact spec_RustHex.mono _ _)
      | (with_reducible exact LeO.refl _)
      | (with_reducible exact LeO.none _)
      | (with_reducible refine LeO.ite ?_ ?_)
      | (with_reducible refine LeO.bind ?_ (fun _ => ?_))
      | exact spec_RustHex.mono _ _
      | exact LeO.none _
      | refine LeO.ite ?_ ?_
      | refine LeO.bind ?_ (fun _ => ?_)
set_option maxHeartbeats 8000000 in
set_option maxRecDepth 100000 in
theorem laws_FnConstantAlike.calls (k : Nat) (a0 : Int) (a1 : Int) (a2 : Int) (r : Bool) (w : World) (hT_ : StrIs w) (h : laws_FnConstantAlike.f k a0 a1 a2 = some r) :
    Calls Tryd.prog 3 #[.int .i64 a0, .int .i64 a1, .int .u64 a2] w fun e w' => e = .returned (.bool r) ∧ Below w.heap.size w w' := by
  have HB := Aside0.mk (Below.refl w.heap.size w)
  have H : (if a2 > 127 then (some true) else ((spec_RustHex.f k a2).bind fun t103 => (if t103.size + 1 ≤ 9223372036854775807 then ((spec_RustUnsigned.f a0).bind fun t104 => ((some (([t104] : List Int) : List Int)).bind fun y105 => (if (strOfNums y105).size + (t103 ++ (⟨#[95]⟩ : ByteArray)).size ≤ 9223372036854775807 then ((impl_Constant.f ((strOfNums y105) ++ (t103 ++ (⟨#[95]⟩ : ByteArray)))).bind fun bt108 => ((spec_RustSigned.f a1).bind fun t111 => ((some (([t111] : List Int) : List Int)).bind fun y112 => (if (strOfNums y112).size + (t103 ++ (⟨#[95]⟩ : ByteArray)).size ≤ 9223372036854775807 then ((impl_Constant.f ((strOfNums y112) ++ (t103 ++ (⟨#[95]⟩ : ByteArray)))).bind fun bt115 => (if bt108.2.2 = true then (if bt115.2.2 = true then (if bt108.1.toList = ([] : List UInt8) then (some false) else (some (bt108.1.toList == bt115.1.toList))) else (some false)) else (some false))) else (none))))) else (none)))) else (none)))) = some r := h
  clear h
  by_cases c4 : a2 > 127
  · rw [if_pos c4] at H
    have c4b0 : decide (127 < a2) = true := decide_eq_true c4
    clear c4
    obtain rfl := Option.some.inj H
    go_enter Tryd.func3, Tryd.ntmps3
    go_wp2
    go_ret
    exact ⟨by first | rfl | (simp [errW_none, errW_some] <;> rfl) | (simp [*, errW_none, errW_some] <;> rfl), by repeat (first | (with_reducible first | exact HB.out | apply below_alloc | apply pw_below_drewN | apply below_drew1) | exact HB.out)⟩
  · rw [if_neg c4] at H
    have c4b0 : decide (127 < a2) = false := decide_eq_false c4
    clear c4
    replace H := Option.bind_eq_some_iff.mp H
    obtain ⟨t103, A50, H⟩ := H
    replace H : (if t103.size + 1 ≤ 9223372036854775807 then ((spec_RustUnsigned.f a0).bind fun t104 => ((some (([t104] : List Int) : List Int)).bind fun y105 => (if (strOfNums y105).size + (t103 ++ (⟨#[95]⟩ : ByteArray)).size ≤ 9223372036854775807 then ((impl_Constant.f ((strOfNums y105) ++ (t103 ++ (⟨#[95]⟩ : ByteArray)))).bind fun bt108 => ((spec_RustSigned.f a1).bind fun t111 => ((some (([t111] : List Int) : List Int)).bind fun y112 => (if (strOfNums y112).size + (t103 ++ (⟨#[95]⟩ : ByteArray)).size ≤ 9223372036854775807 then ((impl_Constant.f ((strOfNums y112) ++ (t103 ++ (⟨#[95]⟩ : ByteArray)))).bind fun bt115 => (if bt108.2.2 = true then (if bt115.2.2 = true then (if bt108.1.toList = ([] : List UInt8) then (some false) else (some (bt108.1.toList == bt115.1.toList))) else (some false)) else (some false))) else (none))))) else (none)))) else (none)) = some r := H
    have A5 := Aside0.mk A50
    clear A50
    by_cases c6 : t103.size + 1 ≤ 9223372036854775807
    · rw [if_pos c6] at H
      have c6b0 := eq_true c6
      have c6b1 : decide (t103.size + 1 ≤ 9223372036854775807) = true := decide_eq_true c6
      try have c6b2 : (9223372036854775807 < t103.size + 1) = False := eq_false (Nat.not_lt.2 c6)
      replace H := Option.bind_eq_some_iff.mp H
      obtain ⟨t104, A70, H⟩ := H
      replace H : ((some (([t104] : List Int) : List Int)).bind fun y105 => (if (strOfNums y105).size + (t103 ++ (⟨#[95]⟩ : ByteArray)).size ≤ 9223372036854775807 then ((impl_Constant.f ((strOfNums y105) ++ (t103 ++ (⟨#[95]⟩ : ByteArray)))).bind fun bt108 => ((spec_RustSigned.f a1).bind fun t111 => ((some (([t111] : List Int) : List Int)).bind fun y112 => (if (strOfNums y112).size + (t103 ++ (⟨#[95]⟩ : ByteArray)).size ≤ 9223372036854775807 then ((impl_Constant.f ((strOfNums y112) ++ (t103 ++ (⟨#[95]⟩ : ByteArray)))).bind fun bt115 => (if bt108.2.2 = true then (if bt115.2.2 = true then (if bt108.1.toList = ([] : List UInt8) then (some false) else (some (bt108.1.toList == bt115.1.toList))) else (some false)) else (some false))) else (none))))) else (none))) = some r := H
      have A7 := Aside0.mk A70
      clear A70
      obtain ⟨y105, hy105⟩ : ∃ y_ : List Int, y_ = (([t104] : List Int)) := ⟨_, rfl⟩
      replace H : (if (strOfNums y105).size + (t103 ++ (⟨#[95]⟩ : ByteArray)).size ≤ 9223372036854775807 then ((impl_Constant.f ((strOfNums y105) ++ (t103 ++ (⟨#[95]⟩ : ByteArray)))).bind fun bt108 => ((spec_RustSigned.f a1).bind fun t111 => ((some (([t111] : List Int) : List Int)).bind fun y112 => (if (strOfNums y112).size + (t103 ++ (⟨#[95]⟩ : ByteArray)).size ≤ 9223372036854775807 then ((impl_Constant.f ((strOfNums y112) ++ (t103 ++ (⟨#[95]⟩ : ByteArray)))).bind fun bt115 => (if bt108.2.2 = true then (if bt115.2.2 = true then (if bt108.1.toList = ([] : List UInt8) then (some false) else (some (bt108.1.toList == bt115.1.toList))) else (some false)) else (some false))) else (none))))) else (none)) = some r := by first | (rw [hy105]; with_reducible exact H) | (have H2_ := (Option.bind_some _ _).symm.trans H; rw [hy105]; with_reducible exact H2_) | (have H2_ := (Option.bind_some _ _).symm.trans H; with_reducible exact H2_) | with_reducible exact H | (rw [hy105]; exact H) | exact H
      have Ny105 := Aside0.mk hy105
      clear hy105
      by_cases c8 : (strOfNums y105).size + (t103 ++ (⟨#[95]⟩ : ByteArray)).size ≤ 9223372036854775807
      · rw [if_pos c8] at H
        have c8b0 := eq_true c8
        have c8b1 : decide ((strOfNums y105).size + (t103 ++ (⟨#[95]⟩ : ByteArray)).size ≤ 9223372036854775807) = true := decide_eq_true c8
        try have c8b2 : (9223372036854775807 < (strOfNums y105).size + (t103 ++ (⟨#[95]⟩ : ByteArray)).size) = False := eq_false (Nat.not_lt.2 c8)
        try have c8b4 : (9223372036854775807 < (strOfNums y105).size + (t103.size + 1)) = False := eq_false (by have h_ := c8; repeat rw [ByteArray.size_append] at h_; exact Nat.not_lt.2 h_)
        replace H := Option.bind_eq_some_iff.mp H
        obtain ⟨⟨t108, t109, t110⟩, A90, H⟩ := H
        replace H : ((spec_RustSigned.f a1).bind fun t111 => ((some (([t111] : List Int) : List Int)).bind fun y112 => (if (strOfNums y112).size + (t103 ++ (⟨#[95]⟩ : ByteArray)).size ≤ 9223372036854775807 then ((impl_Constant.f ((strOfNums y112) ++ (t103 ++ (⟨#[95]⟩ : ByteArray)))).bind fun bt115 => (if t110 = true then (if bt115.2.2 = true then (if t108.toList = ([] : List UInt8) then (some false) else (some (t108.toList == bt115.1.toList))) else (some false)) else (some false))) else (none)))) = some r := H
        have A9 := Aside0.mk A90
        clear A90
        replace H := Option.bind_eq_some_iff.mp H
        obtain ⟨t111, A100, H⟩ := H
        replace H : ((some (([t111] : List Int) : List Int)).bind fun y112 => (if (strOfNums y112).size + (t103 ++ (⟨#[95]⟩ : ByteArray)).size ≤ 9223372036854775807 then ((impl_Constant.f ((strOfNums y112) ++ (t103 ++ (⟨#[95]⟩ : ByteArray)))).bind fun bt115 => (if t110 = true then (if bt115.2.2 = true then (if t108.toList = ([] : List UInt8) then (some false) else (some (t108.toList == bt115.1.toList))) else (some false)) else (some false))) else (none))) = some r := H
        have A10 := Aside0.mk A100
        clear A100
        obtain ⟨y112, hy112⟩ : ∃ y_ : List Int, y_ = (([t111] : List Int)) := ⟨_, rfl⟩
        replace H : (if (strOfNums y112).size + (t103 ++ (⟨#[95]⟩ : ByteArray)).size ≤ 9223372036854775807 then ((impl_Constant.f ((strOfNums y112) ++ (t103 ++ (⟨#[95]⟩ : ByteArray)))).bind fun bt115 => (if t110 = true then (if bt115.2.2 = true then (if t108.toList = ([] : List UInt8) then (some false) else (some (t108.toList == bt115.1.toList))) else (some false)) else (some false))) else (none)) = some r := by first | (rw [hy112]; with_reducible exact H) | (have H2_ := (Option.bind_some _ _).symm.trans H; rw [hy112]; with_reducible exact H2_) | (have H2_ := (Option.bind_some _ _).symm.trans H; with_reducible exact H2_) | with_reducible exact H | (rw [hy112]; exact H) | exact H
        have Ny112 := Aside0.mk hy112
        clear hy112
        by_cases c11 : (strOfNums y112).size + (t103 ++ (⟨#[95]⟩ : ByteArray)).size ≤ 9223372036854775807
        · rw [if_pos c11] at H
          have c11b0 := eq_true c11
          have c11b1 : decide ((strOfNums y112).size + (t103 ++ (⟨#[95]⟩ : ByteArray)).size ≤ 9223372036854775807) = true := decide_eq_true c11
          try have c11b2 : (9223372036854775807 < (strOfNums y112).size + (t103 ++ (⟨#[95]⟩ : ByteArray)).size) = False := eq_false (Nat.not_lt.2 c11)
          try have c11b4 : (9223372036854775807 < (strOfNums y112).size + (t103.size + 1)) = False := eq_false (by have h_ := c11; repeat rw [ByteArray.size_append] at h_; exact Nat.not_lt.2 h_)
          replace H := Option.bind_eq_some_iff.mp H
          obtain ⟨⟨t115, t116, t117⟩, A120, H⟩ := H
          replace H : (if t110 = true then (if t117 = true then (if t108.toList = ([] : List UInt8) then (some false) else (some (t108.toList == t115.toList))) else (some false)) else (some false)) = some r := H
          have A12 := Aside0.mk A120
          clear A120
          by_cases c13 : t110 = true
          · subst c13
            have H1 : (if t117 = true then (if t108.toList = ([] : List UInt8) then (some false) else (some (t108.toList == t115.toList))) else (some false)) = some r := by rw [if_pos rfl] at H; exact H
            clear H
            have H := H1
            clear H1
            by_cases c14 : t117 = true
            · subst c14
              have H1 : (if t108.toList = ([] : List UInt8) then (some false) else (some (t108.toList == t115.toList))) = some r := by rw [if_pos rfl] at H; exact H
              clear H
              have H := H1
              clear H1
              by_cases c15 : t108.toList = ([] : List UInt8)
              · rw [if_pos c15] at H
                have c15b0 : (t108.toList == ([] : List UInt8)) = true := beq_iff_eq.mpr c15
                have c15b1 : (t108.toList != ([] : List UInt8)) = false := bne_eq_false_iff_eq.mpr c15
                clear c15
                obtain rfl := Option.some.inj H
                go_enter Tryd.func3, Tryd.ntmps3
                go_wp2_with (first | ((with_reducible refine gate_callee (f := 15) rfl ?_); refine goesL_ (some 17) rfl rfl Tryd.func15 (by kernel_rfl) rfl #[.int .u64 a2] rfl (by (try simp only [List.map_toArray, List.map_cons, List.map_nil]); first | done | rfl | (simp only [List.length_drop, List.length_take]; rfl)) ?_; (with_reducible refine (spec_RustHex.calls k a2 t103 _ A5.out).mono ?_); rintro e w16 ⟨rfl, hb⟩; refine ⟨_, rfl, ?_⟩; have n0_ := Aside0.mk (below_step (by repeat (first | (with_reducible first | exact HB.out | apply below_alloc | apply pw_below_drewN | apply below_drew1) | exact HB.out)) hb); clear HB; have HB := n0_; clear n0_; (try clear hb); (try clear hb2); (try clear hk); (try clear hi)) | ((with_reducible refine gate_callee (f := 17) rfl ?_); refine goesL_ (some 21) rfl rfl Tryd.func17 (by kernel_rfl) rfl #[.int .i64 a0] rfl (by (try simp only [List.map_toArray, List.map_cons, List.map_nil]); first | done | rfl | (simp only [List.length_drop, List.length_take]; rfl)) ?_; (with_reducible refine (spec_RustUnsigned.calls a0 t104 _ A7.out).mono ?_); rintro e w' ⟨rfl, ⟨nd, rfl⟩⟩; refine ⟨_, rfl, ?_⟩) | ((with_reducible refine gate_dst (N := 22) rfl ?_); refine Kd.R_lit (Kd.int .u8) _ 5 ?hg (N := 22) ?hd (xs := ([t104] : List Int)) (inner := [.int .u8 t104]) (ok := fun _ => True) (okp := fun _ => True) ?hr ?hp (fun _ hk => hk) trivial (Below.refl _ _) (Nat.le_refl _) (by simp) ?_; (case hd => rfl); (case hg => rfl); (case hr => first | (go_simp; done) | (go_simp; rfl)); (case hp => exact (Reps.one (show Kd.M (Kd.int .u8) _ _ _ t104 [.int .u8 t104] from rfl) (Reps.none _ _))); intro v106 w17 ho18 hb hg_ hnew_; clear hg_ hnew_; (first | rw [← Ny105.out] at ho18 | (simp only [Int.reduceToNat] at ho18; rw [← Ny105.out] at ho18)); have n0_ := Aside0.mk (Kd.R_lower ho18 (below_size (by repeat (first | (with_reducible first | exact HB.out | apply below_alloc | apply pw_below_drewN | apply below_drew1) | exact HB.out)))); have n1_ := Aside0.mk (below_step (by repeat (first | (with_reducible first | exact HB.out | apply below_alloc | apply pw_below_drewN | apply below_drew1) | exact HB.out)) hb); clear HB; have HO107 := n0_; have HB := n1_; clear n0_ n1_; clear hb ho18; have hcv19 := own_string (P := Tryd.prog) Tryd.underlying27 Tryd.underlying5 Tryd.underlying9 (Kd.own_of_R HO107.out)) | ((with_reducible refine gate_callee (f := 16) rfl ?_); refine goesL_ (some 26) rfl rfl Tryd.func16 (by kernel_rfl) rfl #[.string ((strOfNums y105) ++ (t103 ++ (⟨#[95]⟩ : ByteArray)))] rfl (by (try simp only [List.map_toArray, List.map_cons, List.map_nil]); first | done | rfl | (simp only [List.length_drop, List.length_take]; rfl)) ?_; (with_reducible refine (impl_Constant.calls ((strOfNums y105) ++ (t103 ++ (⟨#[95]⟩ : ByteArray))) t108 t109 true _ (show StrIs _ from ?side1) A9.out).mono ?_); (case side1 => exact Stays.below hT_ (by first | (repeat (first | (with_reducible first | exact HB.out | apply below_alloc | apply pw_below_drewN | apply below_drew1) | exact HB.out)) | (repeat (first | exact Below.refl _ _ | apply below_drew1 | apply pw_below_drewN)))); rintro e w20 ⟨rfl, hb⟩; refine ⟨_, rfl, ?_⟩; have n0_ := Aside0.mk (Kd.R_below (by (with_reducible repeat (first | apply Kd.R_alloc | apply Kd.R_drewN | apply Kd.R_drew)); exact HO107.out) hb); have n1_ := Aside0.mk (below_step (by repeat (first | (with_reducible first | exact HB.out | apply below_alloc | apply pw_below_drewN | apply below_drew1) | exact HB.out)) hb); clear HO107; clear HB; have HO107 := n0_; have HB := n1_; clear n0_ n1_; (try clear hb); (try clear hb2); (try clear hk); (try clear hi)) | ((with_reducible refine gate_callee (f := 18) rfl ?_); refine goesL_ (some 32) rfl rfl Tryd.func18 (by kernel_rfl) rfl #[.int .i64 a1] rfl (by (try simp only [List.map_toArray, List.map_cons, List.map_nil]); first | done | rfl | (simp only [List.length_drop, List.length_take]; rfl)) ?_; (with_reducible refine (spec_RustSigned.calls a1 t111 _ A10.out).mono ?_); rintro e w' ⟨rfl, ⟨nd, rfl⟩⟩; refine ⟨_, rfl, ?_⟩) | ((with_reducible refine gate_dst (N := 33) rfl ?_); refine Kd.R_lit (Kd.int .u8) _ 5 ?hg (N := 33) ?hd (xs := ([t111] : List Int)) (inner := [.int .u8 t111]) (ok := fun _ => True) (okp := fun _ => True) ?hr ?hp (fun _ hk => hk) trivial (Below.refl _ _) (Nat.le_refl _) (by simp) ?_; (case hd => rfl); (case hg => rfl); (case hr => first | (go_simp; done) | (go_simp; rfl)); (case hp => exact (Reps.one (show Kd.M (Kd.int .u8) _ _ _ t111 [.int .u8 t111] from rfl) (Reps.none _ _))); intro v113 w21 ho22 hb hg_ hnew_; clear hg_ hnew_; (first | rw [← Ny112.out] at ho22 | (simp only [Int.reduceToNat] at ho22; rw [← Ny112.out] at ho22)); have n0_ := Aside0.mk (Kd.R_elder' (by (with_reducible repeat (first | apply Kd.R_alloc | apply Kd.R_drewN | apply Kd.R_drew)); exact HO107.out) (Kd.R_base ho22) hb); have n1_ := Aside0.mk (Kd.R_lower (Kd.R_new' ho22 (Kd.R_lt (by (with_reducible repeat (first | apply Kd.R_alloc | apply Kd.R_drewN | apply Kd.R_drew)); exact HO107.out))) (below_size (by repeat (first | (with_reducible first | exact HB.out | apply below_alloc | apply pw_below_drewN | apply below_drew1) | exact HB.out)))); have n2_ := Aside0.mk (below_step (by repeat (first | (with_reducible first | exact HB.out | apply below_alloc | apply pw_below_drewN | apply below_drew1) | exact HB.out)) hb); clear HO107; clear HB; have HO107 := n0_; have HO114 := n1_; have HB := n2_; clear n0_ n1_ n2_; clear hb ho22; have hcv23 := own_string (P := Tryd.prog) Tryd.underlying27 Tryd.underlying5 Tryd.underlying9 (Kd.own_of_R HO114.out)) | ((with_reducible refine gate_callee (f := 16) rfl ?_); refine goesL_ (some 37) rfl rfl Tryd.func16 (by kernel_rfl) rfl #[.string ((strOfNums y112) ++ (t103 ++ (⟨#[95]⟩ : ByteArray)))] rfl (by (try simp only [List.map_toArray, List.map_cons, List.map_nil]); first | done | rfl | (simp only [List.length_drop, List.length_take]; rfl)) ?_; (with_reducible refine (impl_Constant.calls ((strOfNums y112) ++ (t103 ++ (⟨#[95]⟩ : ByteArray))) t115 t116 true _ (show StrIs _ from ?side1) A12.out).mono ?_); (case side1 => exact Stays.below hT_ (by first | (repeat (first | (with_reducible first | exact HB.out | apply below_alloc | apply pw_below_drewN | apply below_drew1) | exact HB.out)) | (repeat (first | exact Below.refl _ _ | apply below_drew1 | apply pw_below_drewN)))); rintro e w24 ⟨rfl, hb⟩; refine ⟨_, rfl, ?_⟩; have n0_ := Aside0.mk (Kd.R_below (by (with_reducible repeat (first | apply Kd.R_alloc | apply Kd.R_drewN | apply Kd.R_drew)); exact HO107.out) hb); have n1_ := Aside0.mk (Kd.R_below (by (with_reducible repeat (first | apply Kd.R_alloc | apply Kd.R_drewN | apply Kd.R_drew)); exact HO114.out) hb); have n2_ := Aside0.mk (below_step (by repeat (first | (with_reducible first | exact HB.out | apply below_alloc | apply pw_below_drewN | apply below_drew1) | exact HB.out)) hb); clear HO107; clear HO114; clear HB; have HO107 := n0_; have HO114 := n1_; have HB := n2_; clear n0_ n1_ n2_; (try clear hb); (try clear hb2); (try clear hk); (try clear hi)))
                go_ret
                exact ⟨by first | rfl | (simp [errW_none, errW_some] <;> rfl) | (simp [*, errW_none, errW_some] <;> rfl), by repeat (first | (with_reducible first | exact HB.out | apply below_alloc | apply pw_below_drewN | apply below_drew1) | exact HB.out)⟩
              · rw [if_neg c15] at H
                have c15b0 : (t108.toList == ([] : List UInt8)) = false := beq_eq_false_iff_ne.mpr c15
                have c15b1 : (t108.toList != ([] : List UInt8)) = true := bne_iff_ne.mpr c15
                obtain rfl := Option.some.inj H
                go_enter Tryd.func3, Tryd.ntmps3
                go_wp2_with (first | ((with_reducible refine gate_callee (f := 15) rfl ?_); refine goesL_ (some 17) rfl rfl Tryd.func15 (by kernel_rfl) rfl #[.int .u64 a2] rfl (by (try simp only [List.map_toArray, List.map_cons, List.map_nil]); first | done | rfl | (simp only [List.length_drop, List.length_take]; rfl)) ?_; (with_reducible refine (spec_RustHex.calls k a2 t103 _ A5.out).mono ?_); rintro e w25 ⟨rfl, hb⟩; refine ⟨_, rfl, ?_⟩; have n0_ := Aside0.mk (below_step (by repeat (first | (with_reducible first | exact HB.out | apply below_alloc | apply pw_below_drewN | apply below_drew1) | exact HB.out)) hb); clear HB; have HB := n0_; clear n0_; (try clear hb); (try clear hb2); (try clear hk); (try clear hi)) | ((with_reducible refine gate_callee (f := 17) rfl ?_); refine goesL_ (some 21) rfl rfl Tryd.func17 (by kernel_rfl) rfl #[.int .i64 a0] rfl (by (try simp only [List.map_toArray, List.map_cons, List.map_nil]); first | done | rfl | (simp only [List.length_drop, List.length_take]; rfl)) ?_; (with_reducible refine (spec_RustUnsigned.calls a0 t104 _ A7.out).mono ?_); rintro e w' ⟨rfl, ⟨nd, rfl⟩⟩; refine ⟨_, rfl, ?_⟩) | ((with_reducible refine gate_dst (N := 22) rfl ?_); refine Kd.R_lit (Kd.int .u8) _ 5 ?hg (N := 22) ?hd (xs := ([t104] : List Int)) (inner := [.int .u8 t104]) (ok := fun _ => True) (okp := fun _ => True) ?hr ?hp (fun _ hk => hk) trivial (Below.refl _ _) (Nat.le_refl _) (by simp) ?_; (case hd => rfl); (case hg => rfl); (case hr => first | (go_simp; done) | (go_simp; rfl)); (case hp => exact (Reps.one (show Kd.M (Kd.int .u8) _ _ _ t104 [.int .u8 t104] from rfl) (Reps.none _ _))); intro v106 w26 ho27 hb hg_ hnew_; clear hg_ hnew_; (first | rw [← Ny105.out] at ho27 | (simp only [Int.reduceToNat] at ho27; rw [← Ny105.out] at ho27)); have n0_ := Aside0.mk (Kd.R_lower ho27 (below_size (by repeat (first | (with_reducible first | exact HB.out | apply below_alloc | apply pw_below_drewN | apply below_drew1) | exact HB.out)))); have n1_ := Aside0.mk (below_step (by repeat (first | (with_reducible first | exact HB.out | apply below_alloc | apply pw_below_drewN | apply below_drew1) | exact HB.out)) hb); clear HB; have HO107 := n0_; have HB := n1_; clear n0_ n1_; clear hb ho27; have hcv28 := own_string (P := Tryd.prog) Tryd.underlying27 Tryd.underlying5 Tryd.underlying9 (Kd.own_of_R HO107.out)) | ((with_reducible refine gate_callee (f := 16) rfl ?_); refine goesL_ (some 26) rfl rfl Tryd.func16 (by kernel_rfl) rfl #[.string ((strOfNums y105) ++ (t103 ++ (⟨#[95]⟩ : ByteArray)))] rfl (by (try simp only [List.map_toArray, List.map_cons, List.map_nil]); first | done | rfl | (simp only [List.length_drop, List.length_take]; rfl)) ?_; (with_reducible refine (impl_Constant.calls ((strOfNums y105) ++ (t103 ++ (⟨#[95]⟩ : ByteArray))) t108 t109 true _ (show StrIs _ from ?side1) A9.out).mono ?_); (case side1 => exact Stays.below hT_ (by first | (repeat (first | (with_reducible first | exact HB.out | apply below_alloc | apply pw_below_drewN | apply below_drew1) | exact HB.out)) | (repeat (first | exact Below.refl _ _ | apply below_drew1 | apply pw_below_drewN)))); rintro e w29 ⟨rfl, hb⟩; refine ⟨_, rfl, ?_⟩; have n0_ := Aside0.mk (Kd.R_below (by (with_reducible repeat (first | apply Kd.R_alloc | apply Kd.R_drewN | apply Kd.R_drew)); exact HO107.out) hb); have n1_ := Aside0.mk (below_step (by repeat (first | (with_reducible first | exact HB.out | apply below_alloc | apply pw_below_drewN | apply below_drew1) | exact HB.out)) hb); clear HO107; clear HB; have HO107 := n0_; have HB := n1_; clear n0_ n1_; (try clear hb); (try clear hb2); (try clear hk); (try clear hi)) | ((with_reducible refine gate_callee (f := 18) rfl ?_); refine goesL_ (some 32) rfl rfl Tryd.func18 (by kernel_rfl) rfl #[.int .i64 a1] rfl (by (try simp only [List.map_toArray, List.map_cons, List.map_nil]); first | done | rfl | (simp only [List.length_drop, List.length_take]; rfl)) ?_; (with_reducible refine (spec_RustSigned.calls a1 t111 _ A10.out).mono ?_); rintro e w' ⟨rfl, ⟨nd, rfl⟩⟩; refine ⟨_, rfl, ?_⟩) | ((with_reducible refine gate_dst (N := 33) rfl ?_); refine Kd.R_lit (Kd.int .u8) _ 5 ?hg (N := 33) ?hd (xs := ([t111] : List Int)) (inner := [.int .u8 t111]) (ok := fun _ => True) (okp := fun _ => True) ?hr ?hp (fun _ hk => hk) trivial (Below.refl _ _) (Nat.le_refl _) (by simp) ?_; (case hd => rfl); (case hg => rfl); (case hr => first | (go_simp; done) | (go_simp; rfl)); (case hp => exact (Reps.one (show Kd.M (Kd.int .u8) _ _ _ t111 [.int .u8 t111] from rfl) (Reps.none _ _))); intro v113 w30 ho31 hb hg_ hnew_; clear hg_ hnew_; (first | rw [← Ny112.out] at ho31 | (simp only [Int.reduceToNat] at ho31; rw [← Ny112.out] at ho31)); have n0_ := Aside0.mk (Kd.R_elder' (by (with_reducible repeat (first | apply Kd.R_alloc | apply Kd.R_drewN | apply Kd.R_drew)); exact HO107.out) (Kd.R_base ho31) hb); have n1_ := Aside0.mk (Kd.R_lower (Kd.R_new' ho31 (Kd.R_lt (by (with_reducible repeat (first | apply Kd.R_alloc | apply Kd.R_drewN | apply Kd.R_drew)); exact HO107.out))) (below_size (by repeat (first | (with_reducible first | exact HB.out | apply below_alloc | apply pw_below_drewN | apply below_drew1) | exact HB.out)))); have n2_ := Aside0.mk (below_step (by repeat (first | (with_reducible first | exact HB.out | apply below_alloc | apply pw_below_drewN | apply below_drew1) | exact HB.out)) hb); clear HO107; clear HB; have HO107 := n0_; have HO114 := n1_; have HB := n2_; clear n0_ n1_ n2_; clear hb ho31; have hcv32 := own_string (P := Tryd.prog) Tryd.underlying27 Tryd.underlying5 Tryd.underlying9 (Kd.own_of_R HO114.out)) | ((with_reducible refine gate_callee (f := 16) rfl ?_); refine goesL_ (some 37) rfl rfl Tryd.func16 (by kernel_rfl) rfl #[.string ((strOfNums y112) ++ (t103 ++ (⟨#[95]⟩ : ByteArray)))] rfl (by (try simp only [List.map_toArray, List.map_cons, List.map_nil]); first | done | rfl | (simp only [List.length_drop, List.length_take]; rfl)) ?_; (with_reducible refine (impl_Constant.calls ((strOfNums y112) ++ (t103 ++ (⟨#[95]⟩ : ByteArray))) t115 t116 true _ (show StrIs _ from ?side1) A12.out).mono ?_); (case side1 => exact Stays.below hT_ (by first | (repeat (first | (with_reducible first | exact HB.out | apply below_alloc | apply pw_below_drewN | apply below_drew1) | exact HB.out)) | (repeat (first | exact Below.refl _ _ | apply below_drew1 | apply pw_below_drewN)))); rintro e w33 ⟨rfl, hb⟩; refine ⟨_, rfl, ?_⟩; have n0_ := Aside0.mk (Kd.R_below (by (with_reducible repeat (first | apply Kd.R_alloc | apply Kd.R_drewN | apply Kd.R_drew)); exact HO107.out) hb); have n1_ := Aside0.mk (Kd.R_below (by (with_reducible repeat (first | apply Kd.R_alloc | apply Kd.R_drewN | apply Kd.R_drew)); exact HO114.out) hb); have n2_ := Aside0.mk (below_step (by repeat (first | (with_reducible first | exact HB.out | apply below_alloc | apply pw_below_drewN | apply below_drew1) | exact HB.out)) hb); clear HO107; clear HO114; clear HB; have HO107 := n0_; have HO114 := n1_; have HB := n2_; clear n0_ n1_ n2_; (try clear hb); (try clear hb2); (try clear hk); (try clear hi)))
                go_ret
                exact ⟨by first | rfl | (simp [errW_none, errW_some] <;> rfl) | (simp [*, errW_none, errW_some] <;> rfl), by repeat (first | (with_reducible first | exact HB.out | apply below_alloc | apply pw_below_drewN | apply below_drew1) | exact HB.out)⟩
            · replace c14 := Bool.eq_false_iff.mpr c14
              subst c14
              have H1 : (some false) = some r := by rw [if_neg (show ¬ (false = true) by decide)] at H; exact H
              clear H
              have H := H1
              clear H1
              obtain rfl := Option.some.inj H
              go_enter Tryd.func3, Tryd.ntmps3
              go_wp2_with (first | ((with_reducible refine gate_callee (f := 15) rfl ?_); refine goesL_ (some 17) rfl rfl Tryd.func15 (by kernel_rfl) rfl #[.int .u64 a2] rfl (by (try simp only [List.map_toArray, List.map_cons, List.map_nil]); first | done | rfl | (simp only [List.length_drop, List.length_take]; rfl)) ?_; (with_reducible refine (spec_RustHex.calls k a2 t103 _ A5.out).mono ?_); rintro e w34 ⟨rfl, hb⟩; refine ⟨_, rfl, ?_⟩; have n0_ := Aside0.mk (below_step (by repeat (first | (with_reducible first | exact HB.out | apply below_alloc | apply pw_below_drewN | apply below_drew1) | exact HB.out)) hb); clear HB; have HB := n0_; clear n0_; (try clear hb); (try clear hb2); (try clear hk); (try clear hi)) | ((with_reducible refine gate_callee (f := 17) rfl ?_); refine goesL_ (some 21) rfl rfl Tryd.func17 (by kernel_rfl) rfl #[.int .i64 a0] rfl (by (try simp only [List.map_toArray, List.map_cons, List.map_nil]); first | done | rfl | (simp only [List.length_drop, List.length_take]; rfl)) ?_; (with_reducible refine (spec_RustUnsigned.calls a0 t104 _ A7.out).mono ?_); rintro e w' ⟨rfl, ⟨nd, rfl⟩⟩; refine ⟨_, rfl, ?_⟩) | ((with_reducible refine gate_dst (N := 22) rfl ?_); refine Kd.R_lit (Kd.int .u8) _ 5 ?hg (N := 22) ?hd (xs := ([t104] : List Int)) (inner := [.int .u8 t104]) (ok := fun _ => True) (okp := fun _ => True) ?hr ?hp (fun _ hk => hk) trivial (Below.refl _ _) (Nat.le_refl _) (by simp) ?_; (case hd => rfl); (case hg => rfl); (case hr => first | (go_simp; done) | (go_simp; rfl)); (case hp => exact (Reps.one (show Kd.M (Kd.int .u8) _ _ _ t104 [.int .u8 t104] from rfl) (Reps.none _ _))); intro v106 w35 ho36 hb hg_ hnew_; clear hg_ hnew_; (first | rw [← Ny105.out] at ho36 | (simp only [Int.reduceToNat] at ho36; rw [← Ny105.out] at ho36)); have n0_ := Aside0.mk (Kd.R_lower ho36 (below_size (by repeat (first | (with_reducible first | exact HB.out | apply below_alloc | apply pw_below_drewN | apply below_drew1) | exact HB.out)))); have n1_ := Aside0.mk (below_step (by repeat (first | (with_reducible first | exact HB.out | apply below_alloc | apply pw_below_drewN | apply below_drew1) | exact HB.out)) hb); clear HB; have HO107 := n0_; have HB := n1_; clear n0_ n1_; clear hb ho36; have hcv37 := own_string (P := Tryd.prog) Tryd.underlying27 Tryd.underlying5 Tryd.underlying9 (Kd.own_of_R HO107.out)) | ((with_reducible refine gate_callee (f := 16) rfl ?_); refine goesL_ (some 26) rfl rfl Tryd.func16 (by kernel_rfl) rfl #[.string ((strOfNums y105) ++ (t103 ++ (⟨#[95]⟩ : ByteArray)))] rfl (by (try simp only [List.map_toArray, List.map_cons, List.map_nil]); first | done | rfl | (simp only [List.length_drop, List.length_take]; rfl)) ?_; (with_reducible refine (impl_Constant.calls ((strOfNums y105) ++ (t103 ++ (⟨#[95]⟩ : ByteArray))) t108 t109 true _ (show StrIs _ from ?side1) A9.out).mono ?_); (case side1 => exact Stays.below hT_ (by first | (repeat (first | (with_reducible first | exact HB.out | apply below_alloc | apply pw_below_drewN | apply below_drew1) | exact HB.out)) | (repeat (first | exact Below.refl _ _ | apply below_drew1 | apply pw_below_drewN)))); rintro e w38 ⟨rfl, hb⟩; refine ⟨_, rfl, ?_⟩; have n0_ := Aside0.mk (Kd.R_below (by (with_reducible repeat (first | apply Kd.R_alloc | apply Kd.R_drewN | apply Kd.R_drew)); exact HO107.out) hb); have n1_ := Aside0.mk (below_step (by repeat (first | (with_reducible first | exact HB.out | apply below_alloc | apply pw_below_drewN | apply below_drew1) | exact HB.out)) hb); clear HO107; clear HB; have HO107 := n0_; have HB := n1_; clear n0_ n1_; (try clear hb); (try clear hb2); (try clear hk); (try clear hi)) | ((with_reducible refine gate_callee (f := 18) rfl ?_); refine goesL_ (some 32) rfl rfl Tryd.func18 (by kernel_rfl) rfl #[.int .i64 a1] rfl (by (try simp only [List.map_toArray, List.map_cons, List.map_nil]); first | done | rfl | (simp only [List.length_drop, List.length_take]; rfl)) ?_; (with_reducible refine (spec_RustSigned.calls a1 t111 _ A10.out).mono ?_); rintro e w' ⟨rfl, ⟨nd, rfl⟩⟩; refine ⟨_, rfl, ?_⟩) | ((with_reducible refine gate_dst (N := 33) rfl ?_); refine Kd.R_lit (Kd.int .u8) _ 5 ?hg (N := 33) ?hd (xs := ([t111] : List Int)) (inner := [.int .u8 t111]) (ok := fun _ => True) (okp := fun _ => True) ?hr ?hp (fun _ hk => hk) trivial (Below.refl _ _) (Nat.le_refl _) (by simp) ?_; (case hd => rfl); (case hg => rfl); (case hr => first | (go_simp; done) | (go_simp; rfl)); (case hp => exact (Reps.one (show Kd.M (Kd.int .u8) _ _ _ t111 [.int .u8 t111] from rfl) (Reps.none _ _))); intro v113 w39 ho40 hb hg_ hnew_; clear hg_ hnew_; (first | rw [← Ny112.out] at ho40 | (simp only [Int.reduceToNat] at ho40; rw [← Ny112.out] at ho40)); have n0_ := Aside0.mk (Kd.R_elder' (by (with_reducible repeat (first | apply Kd.R_alloc | apply Kd.R_drewN | apply Kd.R_drew)); exact HO107.out) (Kd.R_base ho40) hb); have n1_ := Aside0.mk (Kd.R_lower (Kd.R_new' ho40 (Kd.R_lt (by (with_reducible repeat (first | apply Kd.R_alloc | apply Kd.R_drewN | apply Kd.R_drew)); exact HO107.out))) (below_size (by repeat (first | (with_reducible first | exact HB.out | apply below_alloc | apply pw_below_drewN | apply below_drew1) | exact HB.out)))); have n2_ := Aside0.mk (below_step (by repeat (first | (with_reducible first | exact HB.out | apply below_alloc | apply pw_below_drewN | apply below_drew1) | exact HB.out)) hb); clear HO107; clear HB; have HO107 := n0_; have HO114 := n1_; have HB := n2_; clear n0_ n1_ n2_; clear hb ho40; have hcv41 := own_string (P := Tryd.prog) Tryd.underlying27 Tryd.underlying5 Tryd.underlying9 (Kd.own_of_R HO114.out)) | ((with_reducible refine gate_callee (f := 16) rfl ?_); refine goesL_ (some 37) rfl rfl Tryd.func16 (by kernel_rfl) rfl #[.string ((strOfNums y112) ++ (t103 ++ (⟨#[95]⟩ : ByteArray)))] rfl (by (try simp only [List.map_toArray, List.map_cons, List.map_nil]); first | done | rfl | (simp only [List.length_drop, List.length_take]; rfl)) ?_; (with_reducible refine (impl_Constant.calls ((strOfNums y112) ++ (t103 ++ (⟨#[95]⟩ : ByteArray))) t115 t116 false _ (show StrIs _ from ?side1) A12.out).mono ?_); (case side1 => exact Stays.below hT_ (by first | (repeat (first | (with_reducible first | exact HB.out | apply below_alloc | apply pw_below_drewN | apply below_drew1) | exact HB.out)) | (repeat (first | exact Below.refl _ _ | apply below_drew1 | apply pw_below_drewN)))); rintro e w42 ⟨rfl, hb⟩; refine ⟨_, rfl, ?_⟩; have n0_ := Aside0.mk (Kd.R_below (by (with_reducible repeat (first | apply Kd.R_alloc | apply Kd.R_drewN | apply Kd.R_drew)); exact HO107.out) hb); have n1_ := Aside0.mk (Kd.R_below (by (with_reducible repeat (first | apply Kd.R_alloc | apply Kd.R_drewN | apply Kd.R_drew)); exact HO114.out) hb); have n2_ := Aside0.mk (below_step (by repeat (first | (with_reducible first | exact HB.out | apply below_alloc | apply pw_below_drewN | apply below_drew1) | exact HB.out)) hb); clear HO107; clear HO114; clear HB; have HO107 := n0_; have HO114 := n1_; have HB := n2_; clear n0_ n1_ n2_; (try clear hb); (try clear hb2); (try clear hk); (try clear hi)))
              go_ret
              exact ⟨by first | rfl | (simp [errW_none, errW_some] <;> rfl) | (simp [*, errW_none, errW_some] <;> rfl), by repeat (first | (with_reducible first | exact HB.out | apply below_alloc | apply pw_below_drewN | apply below_drew1) | exact HB.out)⟩
          · replace c13 := Bool.eq_false_iff.mpr c13
            subst c13
            have H1 : (some false) = some r := by rw [if_neg (show ¬ (false = true) by decide)] at H; exact H
            clear H
            have H := H1
            clear H1
            obtain rfl := Option.some.inj H
            go_enter Tryd.func3, Tryd.ntmps3
            go_wp2_with (first | ((with_reducible refine gate_callee (f := 15) rfl ?_); refine goesL_ (some 17) rfl rfl Tryd.func15 (by kernel_rfl) rfl #[.int .u64 a2] rfl (by (try simp only [List.map_toArray, List.map_cons, List.map_nil]); first | done | rfl | (simp only [List.length_drop, List.length_take]; rfl)) ?_; (with_reducible refine (spec_RustHex.calls k a2 t103 _ A5.out).mono ?_); rintro e w43 ⟨rfl, hb⟩; refine ⟨_, rfl, ?_⟩; have n0_ := Aside0.mk (below_step (by repeat (first | (with_reducible first | exact HB.out | apply below_alloc | apply pw_below_drewN | apply below_drew1) | exact HB.out)) hb); clear HB; have HB := n0_; clear n0_; (try clear hb); (try clear hb2); (try clear hk); (try clear hi)) | ((with_reducible refine gate_callee (f := 17) rfl ?_); refine goesL_ (some 21) rfl rfl Tryd.func17 (by kernel_rfl) rfl #[.int .i64 a0] rfl (by (try simp only [List.map_toArray, List.map_cons, List.map_nil]); first | done | rfl | (simp only [List.length_drop, List.length_take]; rfl)) ?_; (with_reducible refine (spec_RustUnsigned.calls a0 t104 _ A7.out).mono ?_); rintro e w' ⟨rfl, ⟨nd, rfl⟩⟩; refine ⟨_, rfl, ?_⟩) | ((with_reducible refine gate_dst (N := 22) rfl ?_); refine Kd.R_lit (Kd.int .u8) _ 5 ?hg (N := 22) ?hd (xs := ([t104] : List Int)) (inner := [.int .u8 t104]) (ok := fun _ => True) (okp := fun _ => True) ?hr ?hp (fun _ hk => hk) trivial (Below.refl _ _) (Nat.le_refl _) (by simp) ?_; (case hd => rfl); (case hg => rfl); (case hr => first | (go_simp; done) | (go_simp; rfl)); (case hp => exact (Reps.one (show Kd.M (Kd.int .u8) _ _ _ t104 [.int .u8 t104] from rfl) (Reps.none _ _))); intro v106 w44 ho45 hb hg_ hnew_; clear hg_ hnew_; (first | rw [← Ny105.out] at ho45 | (simp only [Int.reduceToNat] at ho45; rw [← Ny105.out] at ho45)); have n0_ := Aside0.mk (Kd.R_lower ho45 (below_size (by repeat (first | (with_reducible first | exact HB.out | apply below_alloc | apply pw_below_drewN | apply below_drew1) | exact HB.out)))); have n1_ := Aside0.mk (below_step (by repeat (first | (with_reducible first | exact HB.out | apply below_alloc | apply pw_below_drewN | apply below_drew1) | exact HB.out)) hb); clear HB; have HO107 := n0_; have HB := n1_; clear n0_ n1_; clear hb ho45; have hcv46 := own_string (P := Tryd.prog) Tryd.underlying27 Tryd.underlying5 Tryd.underlying9 (Kd.own_of_R HO107.out)) | ((with_reducible refine gate_callee (f := 16) rfl ?_); refine goesL_ (some 26) rfl rfl Tryd.func16 (by kernel_rfl) rfl #[.string ((strOfNums y105) ++ (t103 ++ (⟨#[95]⟩ : ByteArray)))] rfl (by (try simp only [List.map_toArray, List.map_cons, List.map_nil]); first | done | rfl | (simp only [List.length_drop, List.length_take]; rfl)) ?_; (with_reducible refine (impl_Constant.calls ((strOfNums y105) ++ (t103 ++ (⟨#[95]⟩ : ByteArray))) t108 t109 false _ (show StrIs _ from ?side1) A9.out).mono ?_); (case side1 => exact Stays.below hT_ (by first | (repeat (first | (with_reducible first | exact HB.out | apply below_alloc | apply pw_below_drewN | apply below_drew1) | exact HB.out)) | (repeat (first | exact Below.refl _ _ | apply below_drew1 | apply pw_below_drewN)))); rintro e w47 ⟨rfl, hb⟩; refine ⟨_, rfl, ?_⟩; have n0_ := Aside0.mk (Kd.R_below (by (with_reducible repeat (first | apply Kd.R_alloc | apply Kd.R_drewN | apply Kd.R_drew)); exact HO107.out) hb); have n1_ := Aside0.mk (below_step (by repeat (first | (with_reducible first | exact HB.out | apply below_alloc | apply pw_below_drewN | apply below_drew1) | exact HB.out)) hb); clear HO107; clear HB; have HO107 := n0_; have HB := n1_; clear n0_ n1_; (try clear hb); (try clear hb2); (try clear hk); (try clear hi)) | ((with_reducible refine gate_callee (f := 18) rfl ?_); refine goesL_ (some 32) rfl rfl Tryd.func18 (by kernel_rfl) rfl #[.int .i64 a1] rfl (by (try simp only [List.map_toArray, List.map_cons, List.map_nil]); first | done | rfl | (simp only [List.length_drop, List.length_take]; rfl)) ?_; (with_reducible refine (spec_RustSigned.calls a1 t111 _ A10.out).mono ?_); rintro e w' ⟨rfl, ⟨nd, rfl⟩⟩; refine ⟨_, rfl, ?_⟩) | ((with_reducible refine gate_dst (N := 33) rfl ?_); refine Kd.R_lit (Kd.int .u8) _ 5 ?hg (N := 33) ?hd (xs := ([t111] : List Int)) (inner := [.int .u8 t111]) (ok := fun _ => True) (okp := fun _ => True) ?hr ?hp (fun _ hk => hk) trivial (Below.refl _ _) (Nat.le_refl _) (by simp) ?_; (case hd => rfl); (case hg => rfl); (case hr => first | (go_simp; done) | (go_simp; rfl)); (case hp => exact (Reps.one (show Kd.M (Kd.int .u8) _ _ _ t111 [.int .u8 t111] from rfl) (Reps.none _ _))); intro v113 w48 ho49 hb hg_ hnew_; clear hg_ hnew_; (first | rw [← Ny112.out] at ho49 | (simp only [Int.reduceToNat] at ho49; rw [← Ny112.out] at ho49)); have n0_ := Aside0.mk (Kd.R_elder' (by (with_reducible repeat (first | apply Kd.R_alloc | apply Kd.R_drewN | apply Kd.R_drew)); exact HO107.out) (Kd.R_base ho49) hb); have n1_ := Aside0.mk (Kd.R_lower (Kd.R_new' ho49 (Kd.R_lt (by (with_reducible repeat (first | apply Kd.R_alloc | apply Kd.R_drewN | apply Kd.R_drew)); exact HO107.out))) (below_size (by repeat (first | (with_reducible first | exact HB.out | apply below_alloc | apply pw_below_drewN | apply below_drew1) | exact HB.out)))); have n2_ := Aside0.mk (below_step (by repeat (first | (with_reducible first | exact HB.out | apply below_alloc | apply pw_below_drewN | apply below_drew1) | exact HB.out)) hb); clear HO107; clear HB; have HO107 := n0_; have HO114 := n1_; have HB := n2_; clear n0_ n1_ n2_; clear hb ho49; have hcv50 := own_string (P := Tryd.prog) Tryd.underlying27 Tryd.underlying5 Tryd.underlying9 (Kd.own_of_R HO114.out)) | ((with_reducible refine gate_callee (f := 16) rfl ?_); refine goesL_ (some 37) rfl rfl Tryd.func16 (by kernel_rfl) rfl #[.string ((strOfNums y112) ++ (t103 ++ (⟨#[95]⟩ : ByteArray)))] rfl (by (try simp only [List.map_toArray, List.map_cons, List.map_nil]); first | done | rfl | (simp only [List.length_drop, List.length_take]; rfl)) ?_; (with_reducible refine (impl_Constant.calls ((strOfNums y112) ++ (t103 ++ (⟨#[95]⟩ : ByteArray))) t115 t116 t117 _ (show StrIs _ from ?side1) A12.out).mono ?_); (case side1 => exact Stays.below hT_ (by first | (repeat (first | (with_reducible first | exact HB.out | apply below_alloc | apply pw_below_drewN | apply below_drew1) | exact HB.out)) | (repeat (first | exact Below.refl _ _ | apply below_drew1 | apply pw_below_drewN)))); rintro e w51 ⟨rfl, hb⟩; refine ⟨_, rfl, ?_⟩; have n0_ := Aside0.mk (Kd.R_below (by (with_reducible repeat (first | apply Kd.R_alloc | apply Kd.R_drewN | apply Kd.R_drew)); exact HO107.out) hb); have n1_ := Aside0.mk (Kd.R_below (by (with_reducible repeat (first | apply Kd.R_alloc | apply Kd.R_drewN | apply Kd.R_drew)); exact HO114.out) hb); have n2_ := Aside0.mk (below_step (by repeat (first | (with_reducible first | exact HB.out | apply below_alloc | apply pw_below_drewN | apply below_drew1) | exact HB.out)) hb); clear HO107; clear HO114; clear HB; have HO107 := n0_; have HO114 := n1_; have HB := n2_; clear n0_ n1_ n2_; (try clear hb); (try clear hb2); (try clear hk); (try clear hi)))
            go_ret
            exact ⟨by first | rfl | (simp [errW_none, errW_some] <;> rfl) | (simp [*, errW_none, errW_some] <;> rfl), by repeat (first | (with_reducible first | exact HB.out | apply below_alloc | apply pw_below_drewN | apply below_drew1) | exact HB.out)⟩
        · rw [if_neg c11] at H
          exact absurd H (by simp)
      · rw [if_neg c8] at H
        exact absurd H (by simp)
    · rw [if_neg c6] at H
      exact absurd H (by simp)

/-- THE ONE PURE STATEMENT of laws_FnConstantAlike: yours. -/
def laws_FnConstantAlike.Pure : Prop := ∀ (a0 : Int) (a1 : Int) (a2 : Int), (Lit.int .i64 a0).wf = true → (Lit.int .i64 a1).wf = true → (Lit.int .u64 a2).wf = true → ∃ k, laws_FnConstantAlike.f k a0 a1 a2 = some true
theorem laws_FnConstantAlike.walk (P : laws_FnConstantAlike.Pure) (a0 : Int) (a1 : Int) (a2 : Int) (w : World) (hT_ : StrIs w) (w0 : (Lit.int .i64 a0).wf = true) (w1 : (Lit.int .i64 a1).wf = true) (w2 : (Lit.int .u64 a2).wf = true) :
    Calls Tryd.prog 3 #[.int .i64 a0, .int .i64 a1, .int .u64 a2] w fun e w' => e = .returned (.bool true) ∧ Below w.heap.size w w' := by
  obtain ⟨k, h⟩ := P a0 a1 a2 w0 w1 w2
  refine (laws_FnConstantAlike.calls k a0 a1 a2 true w hT_ h).mono ?_
  rintro e w' ⟨rfl, hd⟩
  exact ⟨rfl, hd⟩

end Go.Proofs.YtpmlnhddkbgefaaDoor.PFnConstantAlike
