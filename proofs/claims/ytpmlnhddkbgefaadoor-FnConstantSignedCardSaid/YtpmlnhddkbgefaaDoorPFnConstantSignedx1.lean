/- Written by a program of this session (wip/tools/myprint.py) with the kit's print: contracts of the functions that one statement reaches; functions that are proved by hand are taken as printed. Conditions: none. -/
import Derived.Test.YtpmlnhddkbgefaaDoorPFnConstantSignedx0
namespace Go.Proofs.YtpmlnhddkbgefaaDoor.PFnConstantSigned
open Go.RowKit Go.Proofs.YtpmlnhddkbgefaaDoorW.PrintWords Go.Proofs.YtpmlnhddkbgefaaDoorW.PrintLast Go.Proofs.YtpmlnhddkbgefaaDoorW.PrintMore
attribute [local go_sem] max2_int min2_int max_two min_two max_three min_three max_four min_four   -- for this text's walks alone
set_option linter.unusedVariables false
set_option linter.unusedSimpArgs false

/-! ### spec_rustHex: function 39 -/
def spec_rustHex.f : Nat → Int → Option (ByteArray)
  | 0, _ => none
  | k + 1, a0 => if a0 < 16 then (if 0 ≤ a0 then (if a0 ≤ (IntKind.u64.wrap (a0 + 1)) then (if (IntKind.u64.wrap (a0 + 1)) ≤ 16 then (some ((⟨#[48, 49, 50, 51, 52, 53, 54, 55, 56, 57, 97, 98, 99, 100, 101, 102]⟩ : ByteArray).extract (a0 : Int).toNat ((IntKind.u64.wrap (a0 + 1)) : Int).toNat)) else (none)) else (none)) else (none)) else ((spec_rustHex.f k (IntKind.u64.wrap (Int.tdiv a0 16))).bind fun t101 => (if 0 ≤ (Int.tmod a0 16) then (if (Int.tmod a0 16) ≤ (IntKind.u64.wrap ((Int.tmod a0 16) + 1)) then (if (IntKind.u64.wrap ((Int.tmod a0 16) + 1)) ≤ 16 then (if t101.size + ((⟨#[48, 49, 50, 51, 52, 53, 54, 55, 56, 57, 97, 98, 99, 100, 101, 102]⟩ : ByteArray).extract ((Int.tmod a0 16) : Int).toNat ((IntKind.u64.wrap ((Int.tmod a0 16) + 1)) : Int).toNat).size ≤ 9223372036854775807 then (some (t101 ++ ((⟨#[48, 49, 50, 51, 52, 53, 54, 55, 56, 57, 97, 98, 99, 100, 101, 102]⟩ : ByteArray).extract ((Int.tmod a0 16) : Int).toNat ((IntKind.u64.wrap ((Int.tmod a0 16) + 1)) : Int).toNat))) else (none)) else (none)) else (none)) else (none)))
theorem spec_rustHex.mono_l : ∀ k, (∀ y0, LeO (spec_rustHex.f k y0) (spec_rustHex.f (k + 1) y0))
  | 0 => fun _ r h => by simp [spec_rustHex.f] at h
  | k + 1 => by
    have ih0 := spec_rustHex.mono_l k
    · intro y0
      unfold spec_rustHex.f
      repeat' first
      | (with_reducible exact ih0 _)
      | (with_reducible exact LeO.refl _)
      | (with_reducible exact LeO.none _)
      | (with_reducible refine LeO.ite ?_ ?_)
      | (with_reducible refine LeO.bind ?_ (fun _ => ?_))
      | exact ih0 _
      | exact LeO.none _
      | refine LeO.ite ?_ ?_
      | refine LeO.bind ?_ (fun _ => ?_)
theorem spec_rustHex.mono : ∀ a0 k, LeO (spec_rustHex.f k a0) (spec_rustHex.f (k + 1) a0) := by
  intro a0 k
  have ih0 := spec_rustHex.mono_l k
  exact ih0 a0
def spec_rustHex.T3 : Bool × List (List Nat × List Nat) := (true, [([], []), ([0], [0]), ([1], [1]), ([], []), ([3], [3]), ([], []), ([5], [5]), ([6], [6]), ([4, 7], [4, 7]), ([2, 8], [2, 8]), ([9, 2, 0, 1, 2, 3, 4, 5, 6, 7, 8, 9], [9])])
def spec_rustHex.B3 : List Nat := [0, 1, 3, 0, 8, 0, 32, 96, 248, 511, 1023]
theorem spec_rustHex.tab3 : rtab .any (opsOf Tryd.f39 3) = spec_rustHex.T3 := by kernel_rfl
theorem spec_rustHex.bits3 : waitsOk spec_rustHex.T3.2 spec_rustHex.B3 = true := by kernel_rfl
set_option maxHeartbeats 8000000 in
set_option maxRecDepth 100000 in
theorem spec_rustHex.calls (k : Nat) : ∀ (a0 : Int) (r : ByteArray) (w : World) (h : spec_rustHex.f k a0 = some r),
    Calls Tryd.prog 39 #[.int .u64 a0] w fun e w' => e = .returned (.string r) ∧ Below w.heap.size w w' := by
  induction k using Nat.strongRecOn with
  | _ k ih =>
  intro a0 r w h
  cases k with
  | zero => exact absurd h (by simp [spec_rustHex.f])
  | succ k =>
  simp only [spec_rustHex.f] at h
  have HB := Aside0.mk (Below.refl w.heap.size w)
  have H : (if a0 < 16 then (if 0 ≤ a0 then (if a0 ≤ (IntKind.u64.wrap (a0 + 1)) then (if (IntKind.u64.wrap (a0 + 1)) ≤ 16 then (some ((⟨#[48, 49, 50, 51, 52, 53, 54, 55, 56, 57, 97, 98, 99, 100, 101, 102]⟩ : ByteArray).extract (a0 : Int).toNat ((IntKind.u64.wrap (a0 + 1)) : Int).toNat)) else (none)) else (none)) else (none)) else ((spec_rustHex.f k (IntKind.u64.wrap (Int.tdiv a0 16))).bind fun t101 => (if 0 ≤ (Int.tmod a0 16) then (if (Int.tmod a0 16) ≤ (IntKind.u64.wrap ((Int.tmod a0 16) + 1)) then (if (IntKind.u64.wrap ((Int.tmod a0 16) + 1)) ≤ 16 then (if t101.size + ((⟨#[48, 49, 50, 51, 52, 53, 54, 55, 56, 57, 97, 98, 99, 100, 101, 102]⟩ : ByteArray).extract ((Int.tmod a0 16) : Int).toNat ((IntKind.u64.wrap ((Int.tmod a0 16) + 1)) : Int).toNat).size ≤ 9223372036854775807 then (some (t101 ++ ((⟨#[48, 49, 50, 51, 52, 53, 54, 55, 56, 57, 97, 98, 99, 100, 101, 102]⟩ : ByteArray).extract ((Int.tmod a0 16) : Int).toNat ((IntKind.u64.wrap ((Int.tmod a0 16) + 1)) : Int).toNat))) else (none)) else (none)) else (none)) else (none)))) = some r := h
  clear h
  by_cases c2 : a0 < 16
  · rw [if_pos c2] at H
    have c2b0 : decide (a0 < 16) = true := decide_eq_true c2
    clear c2
    by_cases c3 : 0 ≤ a0
    · rw [if_pos c3] at H
      have c3b0 := eq_true c3
      have c3b1 : decide (0 ≤ a0) = true := decide_eq_true c3
      clear c3
      by_cases c4 : a0 ≤ (IntKind.u64.wrap (a0 + 1))
      · rw [if_pos c4] at H
        have c4b0 := eq_true c4
        have c4b1 : decide (a0 ≤ (IntKind.u64.wrap (a0 + 1))) = true := decide_eq_true c4
        by_cases c5 : (IntKind.u64.wrap (a0 + 1)) ≤ 16
        · rw [if_pos c5] at H
          have c5b0 := eq_true c5
          have c5b1 : decide ((IntKind.u64.wrap (a0 + 1)) ≤ 16) = true := decide_eq_true c5
          obtain rfl := Option.some.inj H
          go_enter Tryd.func39, Tryd.ntmps39
          go_wp2
          go_ret
          exact ⟨by first | rfl | (simp [errW_none, errW_some] <;> rfl) | (simp [*, errW_none, errW_some] <;> rfl), by repeat (first | (with_reducible first | exact HB.out | apply below_alloc | apply pw_below_drewN | apply below_drew1) | exact HB.out)⟩
        · rw [if_neg c5] at H
          exact absurd H (by simp)
      · rw [if_neg c4] at H
        exact absurd H (by simp)
    · rw [if_neg c3] at H
      exact absurd H (by simp)
  · rw [if_neg c2] at H
    have c2b0 : decide (a0 < 16) = false := decide_eq_false c2
    clear c2
    replace H := Option.bind_eq_some_iff.mp H
    obtain ⟨t101, A60, H⟩ := H
    replace H : (if 0 ≤ (Int.tmod a0 16) then (if (Int.tmod a0 16) ≤ (IntKind.u64.wrap ((Int.tmod a0 16) + 1)) then (if (IntKind.u64.wrap ((Int.tmod a0 16) + 1)) ≤ 16 then (if t101.size + ((⟨#[48, 49, 50, 51, 52, 53, 54, 55, 56, 57, 97, 98, 99, 100, 101, 102]⟩ : ByteArray).extract ((Int.tmod a0 16) : Int).toNat ((IntKind.u64.wrap ((Int.tmod a0 16) + 1)) : Int).toNat).size ≤ 9223372036854775807 then (some (t101 ++ ((⟨#[48, 49, 50, 51, 52, 53, 54, 55, 56, 57, 97, 98, 99, 100, 101, 102]⟩ : ByteArray).extract ((Int.tmod a0 16) : Int).toNat ((IntKind.u64.wrap ((Int.tmod a0 16) + 1)) : Int).toNat))) else (none)) else (none)) else (none)) else (none)) = some r := H
    have A6 := Aside0.mk A60
    clear A60
    obtain ⟨ji7, hji7⟩ : ∃ j_ : Int, (Int.tmod a0 16) = j_ := ⟨_, rfl⟩
    replace H : (if 0 ≤ (ji7) then (if (ji7) ≤ (IntKind.u64.wrap ((ji7) + 1)) then (if (IntKind.u64.wrap ((ji7) + 1)) ≤ 16 then (if t101.size + ((⟨#[48, 49, 50, 51, 52, 53, 54, 55, 56, 57, 97, 98, 99, 100, 101, 102]⟩ : ByteArray).extract ((ji7) : Int).toNat ((IntKind.u64.wrap ((ji7) + 1)) : Int).toNat).size ≤ 9223372036854775807 then (some (t101 ++ ((⟨#[48, 49, 50, 51, 52, 53, 54, 55, 56, 57, 97, 98, 99, 100, 101, 102]⟩ : ByteArray).extract ((ji7) : Int).toNat ((IntKind.u64.wrap ((ji7) + 1)) : Int).toNat))) else (none)) else (none)) else (none)) else (none)) = some r := by first | (rw [hji7] at H; exact H) | (simp only [hji7] at H ⊢; exact H)
    (try rw [hji7] at A6)
    by_cases c8 : 0 ≤ (ji7)
    · rw [if_pos c8] at H
      have c8b0 := eq_true c8
      have c8b1 : decide (0 ≤ (ji7)) = true := decide_eq_true c8
      clear c8
      by_cases c9 : (ji7) ≤ (IntKind.u64.wrap ((ji7) + 1))
      · rw [if_pos c9] at H
        have c9b0 := eq_true c9
        have c9b1 : decide ((ji7) ≤ (IntKind.u64.wrap ((ji7) + 1))) = true := decide_eq_true c9
        by_cases c10 : (IntKind.u64.wrap ((ji7) + 1)) ≤ 16
        · rw [if_pos c10] at H
          have c10b0 := eq_true c10
          have c10b1 : decide ((IntKind.u64.wrap ((ji7) + 1)) ≤ 16) = true := decide_eq_true c10
          by_cases c11 : t101.size + ((⟨#[48, 49, 50, 51, 52, 53, 54, 55, 56, 57, 97, 98, 99, 100, 101, 102]⟩ : ByteArray).extract ((ji7) : Int).toNat ((IntKind.u64.wrap ((ji7) + 1)) : Int).toNat).size ≤ 9223372036854775807
          · rw [if_pos c11] at H
            have c11b0 := eq_true c11
            have c11b1 : decide (t101.size + ((⟨#[48, 49, 50, 51, 52, 53, 54, 55, 56, 57, 97, 98, 99, 100, 101, 102]⟩ : ByteArray).extract ((ji7) : Int).toNat ((IntKind.u64.wrap ((ji7) + 1)) : Int).toNat).size ≤ 9223372036854775807) = true := decide_eq_true c11
            try have c11b2 : (9223372036854775807 < t101.size + ((⟨#[48, 49, 50, 51, 52, 53, 54, 55, 56, 57, 97, 98, 99, 100, 101, 102]⟩ : ByteArray).extract ((ji7) : Int).toNat ((IntKind.u64.wrap ((ji7) + 1)) : Int).toNat).size) = False := eq_false (Nat.not_lt.2 c11)
            try (have c11q := c11; rw [ByteArray.size_extract, Nat.min_eq_left (by show _ ≤ Array.size _; simp only [List.size_toArray, List.length_cons, List.length_nil]; omega)] at c11q; have c11b3 := eq_false (Nat.not_lt.2 c11q); clear c11q)
            obtain rfl := Option.some.inj H
            go_enter Tryd.func39, Tryd.ntmps39
            try go_wp2
            have n0_ := Aside0.mk (below_drew1 HB.out)
            clear HB
            have HB := n0_
            clear n0_
            refine start_ (n := 11) (S := fun w' => True) (ds := []) #[false, false, false, false, false, false, false, false, false, false, false] (by kernel_rfl) rfl rfl trivial (fun hHeld => ?_); refine with_tabW spec_rustHex.tab3 spec_rustHex.bits3 (fun HT_ HW_ => ?_)
            generalize w.drew = w12 at HB hHeld ⊢
            refine pure_ (i := 0) (N := some 9) (v := ?_) (a' := ?_) #[true, false, false, false, false, false, false, false, false, false, false] rfl rfl (any_of HT_.out (by kernel_rfl)) (fun _ _ _ h => h) (Or.inl ⟨by rfl, ?_⟩) ?_ ?_
            rotate_left
            · intro w'
              go_simp
              with_reducible rfl
            rotate_left
            · simp only [Act.put, List.setIfInBounds_toArray, List.set_cons_zero, List.set_cons_succ, i64_w, i32_w]
              rfl
            refine pure_ (i := 1) (N := some 10) (v := ?_) (a' := ?_) #[true, true, false, false, false, false, false, false, false, false, false] rfl rfl (any_of HT_.out (by kernel_rfl)) (fun _ _ _ h => h) (Or.inl ⟨by rfl, ?_⟩) ?_ ?_
            rotate_left
            · intro w'
              go_simp
              with_reducible rfl
            rotate_left
            · simp only [Act.put, List.setIfInBounds_toArray, List.set_cons_zero, List.set_cons_succ, i64_w, i32_w]
              rfl
            refine pure_ (i := 3) (N := some 12) (v := ?_) (a' := ?_) #[true, true, false, true, false, false, false, false, false, false, false] rfl rfl (any_of HT_.out (by kernel_rfl)) (fun _ _ _ h => h) (Or.inl ⟨by rfl, ?_⟩) ?_ ?_
            rotate_left
            · intro w'
              go_simp
              with_reducible rfl
            rotate_left
            · simp only [Act.put, List.setIfInBounds_toArray, List.set_cons_zero, List.set_cons_succ, i64_w, i32_w]
              rfl
            refine pure_ (i := 4) (N := some 13) (v := ?_) (a' := ?_) #[true, true, false, true, true, false, false, false, false, false, false] rfl rfl (any_of HT_.out (by kernel_rfl)) (fun _ _ _ h => h) (Or.inl ⟨by rfl, ?_⟩) ?_ ?_
            rotate_left
            · intro w'
              go_simp
              with_reducible rfl
            rotate_left
            · simp only [Act.put, List.setIfInBounds_toArray, List.set_cons_zero, List.set_cons_succ, i64_w, i32_w]
              rfl
            refine pure_ (i := 5) (N := some 14) (v := ?_) (a' := ?_) #[true, true, false, true, true, true, false, false, false, false, false] rfl rfl (any_of HT_.out (by kernel_rfl)) (fun _ _ _ h => h) (Or.inl ⟨by rfl, ?_⟩) ?_ ?_
            rotate_left
            · intro w'
              go_simp
              with_reducible rfl
            rotate_left
            · simp only [Act.put, List.setIfInBounds_toArray, List.set_cons_zero, List.set_cons_succ, i64_w, i32_w]
              rfl
            refine pure_ (i := 6) (N := some 15) (v := ?_) (a' := ?_) #[true, true, false, true, true, true, true, false, false, false, false] rfl rfl (any_of HT_.out (by kernel_rfl)) (fun _ _ _ h => h) (Or.inl ⟨by rfl, ?_⟩) ?_ ?_
            rotate_left
            · intro w'
              go_simp
              with_reducible rfl
            rotate_left
            · simp only [Act.put, List.setIfInBounds_toArray, List.set_cons_zero, List.set_cons_succ, i64_w, i32_w]
              rfl
            refine pure_ (i := 7) (N := some 16) (v := ?_) (a' := ?_) #[true, true, false, true, true, true, true, true, false, false, false] rfl rfl (any_of HT_.out (by kernel_rfl)) (fun _ _ _ h => h) (Or.inl ⟨by rfl, ?_⟩) ?_ ?_
            rotate_left
            · intro w'
              go_simp
              with_reducible rfl
            rotate_left
            · simp only [Act.put, List.setIfInBounds_toArray, List.set_cons_zero, List.set_cons_succ, i64_w, i32_w]
              rfl
            refine pure_ (i := 8) (N := some 17) (v := ?_) (a' := ?_) #[true, true, false, true, true, true, true, true, true, false, false] rfl rfl (any_of HT_.out (by kernel_rfl)) (fun _ _ _ h => h) (Or.inl ⟨by rfl, ?_⟩) ?_ ?_
            rotate_left
            · intro w'
              go_simp
              with_reducible rfl
            rotate_left
            · simp only [Act.put, List.setIfInBounds_toArray, List.set_cons_zero, List.set_cons_succ, i64_w, i32_w]
              rfl
            refine one_ (i := 2) (N := some 11) #[true, true, true, true, true, true, true, true, true, false, false] rfl rfl (one_of HT_.out (by kernel_rfl)) (by decide) (fun K hK => ?_)
            refine goes_ Tryd.func39 (by kernel_rfl) rfl #[.int .u64 (IntKind.u64.wrap (Int.tdiv a0 16))] (by rfl) rfl rfl (by (try simp only [List.map_toArray, List.map_cons, List.map_nil]); first | done | rfl | (simp only [List.length_drop, List.length_take]; rfl)) ?_
            with_reducible refine (ih k (by omega) (IntKind.u64.wrap (Int.tdiv a0 16)) t101 _ A6.out).mono ?_
            rintro e w13 ⟨rfl, hb⟩
            refine ⟨_, rfl, ?_⟩
            have n0_ := Aside0.mk (below_step (by repeat (first | (with_reducible first | exact HB.out | apply below_alloc | apply pw_below_drewN | apply below_drew1) | exact HB.out)) hb)
            clear HB
            have HB := n0_
            clear n0_
            (try clear hb)
            (try clear hb2)
            (try clear hk)
            (try clear hi)
            refine hK.out _ _ trivial (fun hHeld => ?_)
            clear hK K
            refine norm_ (a' := ?_) ?_ ?_
            rotate_left
            · show Act.put _ (some 11) _ = _
              simp only [Act.put, List.setIfInBounds_toArray, List.set_cons_zero, List.set_cons_succ, i64_w, i32_w]
              rfl
            refine pure_ (i := 9) (N := some 18) (v := ?_) (a' := ?_) #[true, true, true, true, true, true, true, true, true, true, false] rfl rfl (any_of HT_.out (by kernel_rfl)) (fun _ _ _ h => h) (Or.inl ⟨by rfl, ?_⟩) ?_ ?_
            rotate_left
            · intro w'
              go_simp
              with_reducible rfl
            rotate_left
            · simp only [Act.put, List.setIfInBounds_toArray, List.set_cons_zero, List.set_cons_succ, i64_w, i32_w]
              rfl
            refine pure_ (i := 10) (N := some 2) (v := ?_) (a' := ?_) #[true, true, true, true, true, true, true, true, true, true, true] rfl rfl (any_of HT_.out (by kernel_rfl)) (fun _ _ _ h => h) (Or.inl ⟨by rfl, ?_⟩) ?_ ?_
            rotate_left
            · intro w'
              go_simp
              with_reducible rfl
            rotate_left
            · simp only [Act.put, List.setIfInBounds_toArray, List.set_cons_zero, List.set_cons_succ, i64_w, i32_w]
              rfl
            refine done_ (done_of HT_.out (by kernel_rfl)) ?_
            try go_wp2
            go_ret
            exact ⟨by first | rfl | (simp [errW_none, errW_some] <;> rfl) | (simp only [← hji7]; first | rfl | (simp [errW_none, errW_some] <;> rfl)) | (simp [*, errW_none, errW_some] <;> rfl), by repeat (first | (with_reducible first | exact HB.out | apply below_alloc | apply pw_below_drewN | apply below_drew1) | exact HB.out)⟩
          · rw [if_neg c11] at H
            exact absurd H (by simp)
        · rw [if_neg c10] at H
          exact absurd H (by simp)
      · rw [if_neg c9] at H
        exact absurd H (by simp)
    · rw [if_neg c8] at H
      exact absurd H (by simp)

/-! ### spec_RustHex: function 15 -/
def spec_RustHex.f (k : Nat) (a0 : Int) : Option (ByteArray) := (spec_rustHex.f k a0).bind fun t102 => (some t102)
theorem spec_RustHex.mono : ∀ a0 k, LeO (spec_RustHex.f k a0) (spec_RustHex.f (k + 1) a0) := by
  intro a0 k
  unfold spec_RustHex.f
  repeat' first
      | (with_reducible exact spec_rustHex.mono _ _)
      | (with_reducible exact LeO.refl _)
      | (with_reducible exact LeO.none _)
      | (with_reducible refine LeO.ite ?_ ?_)
      | (with_reducible refine LeO.bind ?_ (fun _ => ?_))
      | exact spec_rustHex.mono _ _
      | exact LeO.none _
      | refine LeO.ite ?_ ?_
      | refine LeO.bind ?_ (fun _ => ?_)
set_option maxHeartbeats 8000000 in
set_option maxRecDepth 100000 in
theorem spec_RustHex.calls (k : Nat) (a0 : Int) (r : ByteArray) (w : World) (h : spec_RustHex.f k a0 = some r) :
    Calls Tryd.prog 15 #[.int .u64 a0] w fun e w' => e = .returned (.string r) ∧ Below w.heap.size w w' := by
  have HB := Aside0.mk (Below.refl w.heap.size w)
  have H : ((spec_rustHex.f k a0).bind fun t102 => (some t102)) = some r := h
  clear h
  replace H := Option.bind_eq_some_iff.mp H
  obtain ⟨t102, A20, H⟩ := H
  replace H : (some t102) = some r := H
  have A2 := Aside0.mk A20
  clear A20
  obtain rfl := Option.some.inj H
  go_enter Tryd.func15, Tryd.ntmps15
  go_wp2_with (first | ((with_reducible refine gate_callee (f := 39) rfl ?_); refine goesL_ (some 4) rfl rfl Tryd.func39 (by kernel_rfl) rfl #[.int .u64 a0] rfl (by (try simp only [List.map_toArray, List.map_cons, List.map_nil]); first | done | rfl | (simp only [List.length_drop, List.length_take]; rfl)) ?_; (with_reducible refine (spec_rustHex.calls k a0 t102 _ A2.out).mono ?_); rintro e w3 ⟨rfl, hb⟩; refine ⟨_, rfl, ?_⟩; have n0_ := Aside0.mk (below_step (by repeat (first | (with_reducible first | exact HB.out | apply below_alloc | apply pw_below_drewN | apply below_drew1) | exact HB.out)) hb); clear HB; have HB := n0_; clear n0_; (try clear hb); (try clear hb2); (try clear hk); (try clear hi)))
  go_ret
  exact ⟨by first | rfl | (simp [errW_none, errW_some] <;> rfl) | (simp [*, errW_none, errW_some] <;> rfl), by repeat (first | (with_reducible first | exact HB.out | apply below_alloc | apply pw_below_drewN | apply below_drew1) | exact HB.out)⟩

/-! ### spec_RustSigned: function 18 -/
def spec_RustSigned.f (a0 : Int) : Option (Int) := if 0 ≤ (Int.tmod (wrap64 ((Int.tmod a0 6) + 6)) 6) then (if (Int.tmod (wrap64 ((Int.tmod a0 6) + 6)) 6) < 6 then (some (bt (⟨#[97, 115, 108, 120, 110, 105]⟩ : ByteArray) (Int.tmod (wrap64 ((Int.tmod a0 6) + 6)) 6))) else (none)) else (none)
set_option maxHeartbeats 8000000 in
set_option maxRecDepth 100000 in
theorem spec_RustSigned.calls (a0 : Int) (r : Int) (w : World) (h : spec_RustSigned.f a0 = some r) :
    Calls Tryd.prog 18 #[.int .i64 a0] w fun e w' => e = .returned (.int .u8 r) ∧ Drawn0 w w' := by
  have H : (if 0 ≤ (Int.tmod (wrap64 ((Int.tmod a0 6) + 6)) 6) then (if (Int.tmod (wrap64 ((Int.tmod a0 6) + 6)) 6) < 6 then (some (bt (⟨#[97, 115, 108, 120, 110, 105]⟩ : ByteArray) (Int.tmod (wrap64 ((Int.tmod a0 6) + 6)) 6))) else (none)) else (none)) = some r := h
  clear h
  obtain ⟨ji2, hji2⟩ : ∃ j_ : Int, (Int.tmod (wrap64 ((Int.tmod a0 6) + 6)) 6) = j_ := ⟨_, rfl⟩
  replace H : (if 0 ≤ (ji2) then (if (ji2) < 6 then (some (bt (⟨#[97, 115, 108, 120, 110, 105]⟩ : ByteArray) (ji2))) else (none)) else (none)) = some r := by first | (rw [hji2] at H; exact H) | (simp only [hji2] at H ⊢; exact H)
  by_cases c3 : 0 ≤ (ji2)
  · rw [if_pos c3] at H
    have c3b0 : decide (0 ≤ (ji2)) = true := decide_eq_true c3
    clear c3
    by_cases c4 : (ji2) < 6
    · rw [if_pos c4] at H
      have c4b0 : decide ((ji2) < 6) = true := decide_eq_true c4
      clear c4
      obtain rfl := Option.some.inj H
      have p5 : 0 ≤ ((ji2) : Int) := of_decide_eq_true (by first | (with_reducible assumption) | assumption)
      have q5 : (ji2) < (6 : Int) := of_decide_eq_true (by first | (with_reducible assumption) | assumption)
      have hx5 := bt_at (⟨#[97, 115, 108, 120, 110, 105]⟩ : ByteArray) (ji2)
      replace p5 := eq_true p5
      replace q5 := eq_true q5
      go_enter Tryd.func18, Tryd.ntmps18
      go_wp2
      go_ret
      exact ⟨by first | rfl | (simp; done) | (simp only [← hji2] <;> (first | rfl | simp)) | (simp [*]; done), by repeat (first | exact Drawn0.refl _ | apply Drawn0.step)⟩
    · rw [if_neg c4] at H
      exact absurd H (by simp)
  · rw [if_neg c3] at H
    exact absurd H (by simp)

/-! ### laws_constantIs: function 22 -/
def laws_constantIs.f (a0 : ByteArray) (a1 : ByteArray) (a2 : ByteArray) : Option (Bool) := if a0.size + a1.size ≤ 9223372036854775807 then ((impl_Constant.f (a0 ++ a1)).bind fun bt103 => (if bt103.2.2 = true then (if bt103.1.toList = a2.toList then (some (bt103.2.1.toList == a1.toList)) else (some false)) else (some false))) else (none)
set_option maxHeartbeats 8000000 in
set_option maxRecDepth 100000 in
theorem laws_constantIs.calls (a0 : ByteArray) (a1 : ByteArray) (a2 : ByteArray) (r : Bool) (w : World) (hT_ : StrIs w) (h : laws_constantIs.f a0 a1 a2 = some r) :
    Calls Tryd.prog 22 #[.string a0, .string a1, .string a2] w fun e w' => e = .returned (.bool r) ∧ Below w.heap.size w w' := by
  have HB := Aside0.mk (Below.refl w.heap.size w)
  have H : (if a0.size + a1.size ≤ 9223372036854775807 then ((impl_Constant.f (a0 ++ a1)).bind fun bt103 => (if bt103.2.2 = true then (if bt103.1.toList = a2.toList then (some (bt103.2.1.toList == a1.toList)) else (some false)) else (some false))) else (none)) = some r := h
  clear h
  by_cases c4 : a0.size + a1.size ≤ 9223372036854775807
  · rw [if_pos c4] at H
    have c4b0 := eq_true c4
    have c4b1 : decide (a0.size + a1.size ≤ 9223372036854775807) = true := decide_eq_true c4
    try have c4b2 : (9223372036854775807 < a0.size + a1.size) = False := eq_false (Nat.not_lt.2 c4)
    replace H := Option.bind_eq_some_iff.mp H
    obtain ⟨⟨t103, t104, t105⟩, A50, H⟩ := H
    replace H : (if t105 = true then (if t103.toList = a2.toList then (some (t104.toList == a1.toList)) else (some false)) else (some false)) = some r := H
    have A5 := Aside0.mk A50
    clear A50
    by_cases c6 : t105 = true
    · subst c6
      have H1 : (if t103.toList = a2.toList then (some (t104.toList == a1.toList)) else (some false)) = some r := by rw [if_pos rfl] at H; exact H
      clear H
      have H := H1
      clear H1
      by_cases c7 : t103.toList = a2.toList
      · rw [if_pos c7] at H
        have c7b0 : (t103.toList == a2.toList) = true := beq_iff_eq.mpr c7
        have c7b1 : (t103.toList != a2.toList) = false := bne_eq_false_iff_eq.mpr c7
        clear c7
        obtain rfl := Option.some.inj H
        go_enter Tryd.func22, Tryd.ntmps22
        go_wp2_with (first | ((with_reducible refine gate_callee (f := 16) rfl ?_); refine goesL_ (some 14) rfl rfl Tryd.func16 (by kernel_rfl) rfl #[.string (a0 ++ a1)] rfl (by (try simp only [List.map_toArray, List.map_cons, List.map_nil]); first | done | rfl | (simp only [List.length_drop, List.length_take]; rfl)) ?_; (with_reducible refine (impl_Constant.calls (a0 ++ a1) t103 t104 true _ (show StrIs _ from ?side1) A5.out).mono ?_); (case side1 => exact Stays.below hT_ (by first | (repeat (first | (with_reducible first | exact HB.out | apply below_alloc | apply pw_below_drewN | apply below_drew1) | exact HB.out)) | (repeat (first | exact Below.refl _ _ | apply below_drew1 | apply pw_below_drewN)))); rintro e w8 ⟨rfl, hb⟩; refine ⟨_, rfl, ?_⟩; have n0_ := Aside0.mk (below_step (by repeat (first | (with_reducible first | exact HB.out | apply below_alloc | apply pw_below_drewN | apply below_drew1) | exact HB.out)) hb); clear HB; have HB := n0_; clear n0_; (try clear hb); (try clear hb2); (try clear hk); (try clear hi)))
        go_ret
        exact ⟨by first | rfl | (simp [errW_none, errW_some] <;> rfl) | (simp [*, errW_none, errW_some] <;> rfl), by repeat (first | (with_reducible first | exact HB.out | apply below_alloc | apply pw_below_drewN | apply below_drew1) | exact HB.out)⟩
      · rw [if_neg c7] at H
        have c7b0 : (t103.toList == a2.toList) = false := beq_eq_false_iff_ne.mpr c7
        have c7b1 : (t103.toList != a2.toList) = true := bne_iff_ne.mpr c7
        obtain rfl := Option.some.inj H
        go_enter Tryd.func22, Tryd.ntmps22
        go_wp2_with (first | ((with_reducible refine gate_callee (f := 16) rfl ?_); refine goesL_ (some 14) rfl rfl Tryd.func16 (by kernel_rfl) rfl #[.string (a0 ++ a1)] rfl (by (try simp only [List.map_toArray, List.map_cons, List.map_nil]); first | done | rfl | (simp only [List.length_drop, List.length_take]; rfl)) ?_; (with_reducible refine (impl_Constant.calls (a0 ++ a1) t103 t104 true _ (show StrIs _ from ?side1) A5.out).mono ?_); (case side1 => exact Stays.below hT_ (by first | (repeat (first | (with_reducible first | exact HB.out | apply below_alloc | apply pw_below_drewN | apply below_drew1) | exact HB.out)) | (repeat (first | exact Below.refl _ _ | apply below_drew1 | apply pw_below_drewN)))); rintro e w9 ⟨rfl, hb⟩; refine ⟨_, rfl, ?_⟩; have n0_ := Aside0.mk (below_step (by repeat (first | (with_reducible first | exact HB.out | apply below_alloc | apply pw_below_drewN | apply below_drew1) | exact HB.out)) hb); clear HB; have HB := n0_; clear n0_; (try clear hb); (try clear hb2); (try clear hk); (try clear hi)))
        go_ret
        exact ⟨by first | rfl | (simp [errW_none, errW_some] <;> rfl) | (simp [*, errW_none, errW_some] <;> rfl), by repeat (first | (with_reducible first | exact HB.out | apply below_alloc | apply pw_below_drewN | apply below_drew1) | exact HB.out)⟩
    · replace c6 := Bool.eq_false_iff.mpr c6
      subst c6
      have H1 : (some false) = some r := by rw [if_neg (show ¬ (false = true) by decide)] at H; exact H
      clear H
      have H := H1
      clear H1
      obtain rfl := Option.some.inj H
      go_enter Tryd.func22, Tryd.ntmps22
      go_wp2_with (first | ((with_reducible refine gate_callee (f := 16) rfl ?_); refine goesL_ (some 14) rfl rfl Tryd.func16 (by kernel_rfl) rfl #[.string (a0 ++ a1)] rfl (by (try simp only [List.map_toArray, List.map_cons, List.map_nil]); first | done | rfl | (simp only [List.length_drop, List.length_take]; rfl)) ?_; (with_reducible refine (impl_Constant.calls (a0 ++ a1) t103 t104 false _ (show StrIs _ from ?side1) A5.out).mono ?_); (case side1 => exact Stays.below hT_ (by first | (repeat (first | (with_reducible first | exact HB.out | apply below_alloc | apply pw_below_drewN | apply below_drew1) | exact HB.out)) | (repeat (first | exact Below.refl _ _ | apply below_drew1 | apply pw_below_drewN)))); rintro e w10 ⟨rfl, hb⟩; refine ⟨_, rfl, ?_⟩; have n0_ := Aside0.mk (below_step (by repeat (first | (with_reducible first | exact HB.out | apply below_alloc | apply pw_below_drewN | apply below_drew1) | exact HB.out)) hb); clear HB; have HB := n0_; clear n0_; (try clear hb); (try clear hb2); (try clear hk); (try clear hi)))
      go_ret
      exact ⟨by first | rfl | (simp [errW_none, errW_some] <;> rfl) | (simp [*, errW_none, errW_some] <;> rfl), by repeat (first | (with_reducible first | exact HB.out | apply below_alloc | apply pw_below_drewN | apply below_drew1) | exact HB.out)⟩
  · rw [if_neg c4] at H
    exact absurd H (by simp)

/-! ### spec_RustDecimal: function 24 -/
def spec_RustDecimal.f : Nat → Int → Option (ByteArray)
  | 0, _ => none
  | k + 1, a0 => if a0 < 10 then (some (strOfNums (([(IntKind.u64.wrap (48 + a0)) % 256] : List Int)))) else ((spec_RustDecimal.f k (IntKind.u64.wrap (Int.tdiv a0 10))).bind fun t109 => ((spec_RustDecimal.f k (Int.tmod a0 10)).bind fun t110 => (if t109.size + t110.size ≤ 9223372036854775807 then (some (t109 ++ t110)) else (none))))
theorem spec_RustDecimal.mono_l : ∀ k, (∀ y0, LeO (spec_RustDecimal.f k y0) (spec_RustDecimal.f (k + 1) y0))
  | 0 => fun _ r h => by simp [spec_RustDecimal.f] at h
  | k + 1 => by
    have ih0 := spec_RustDecimal.mono_l k
    · intro y0
      unfold spec_RustDecimal.f
      repeat' first
      | (with_reducible exact ih0 _)
      | (with_reducible exact LeO.refl _)
      | (with_reducible exact LeO.none _)
      | (with_reducible refine LeO.ite ?_ ?_)
      | (with_reducible refine LeO.bind ?_ (fun _ => ?_))
      | exact ih0 _
      | exact LeO.none _
      | refine LeO.ite ?_ ?_
      | refine LeO.bind ?_ (fun _ => ?_)
theorem spec_RustDecimal.mono : ∀ a0 k, LeO (spec_RustDecimal.f k a0) (spec_RustDecimal.f (k + 1) a0) := by
  intro a0 k
  have ih0 := spec_RustDecimal.mono_l k
  exact ih0 a0
set_option maxHeartbeats 8000000 in
set_option maxRecDepth 100000 in
theorem spec_RustDecimal.calls (k : Nat) : ∀ (a0 : Int) (r : ByteArray) (w : World) (h : spec_RustDecimal.f k a0 = some r),
    Calls Tryd.prog 24 #[.int .u64 a0] w fun e w' => e = .returned (.string r) ∧ Below w.heap.size w w' := by
  induction k using Nat.strongRecOn with
  | _ k ih =>
  intro a0 r w h
  cases k with
  | zero => exact absurd h (by simp [spec_RustDecimal.f])
  | succ k =>
  simp only [spec_RustDecimal.f] at h
  have HB := Aside0.mk (Below.refl w.heap.size w)
  have H : (if a0 < 10 then (some (strOfNums (([(IntKind.u64.wrap (48 + a0)) % 256] : List Int)))) else ((spec_RustDecimal.f k (IntKind.u64.wrap (Int.tdiv a0 10))).bind fun t109 => ((spec_RustDecimal.f k (Int.tmod a0 10)).bind fun t110 => (if t109.size + t110.size ≤ 9223372036854775807 then (some (t109 ++ t110)) else (none))))) = some r := h
  clear h
  by_cases c2 : a0 < 10
  · rw [if_pos c2] at H
    have c2b0 : decide (a0 < 10) = true := decide_eq_true c2
    clear c2
    obtain ⟨y106, hy106⟩ : ∃ y_ : List Int, y_ = (([(IntKind.u64.wrap (48 + a0)) % 256] : List Int)) := ⟨_, rfl⟩
    replace H : (some (strOfNums y106)) = some r := by first | (rw [hy106]; with_reducible exact H) | (have H2_ := (Option.bind_some _ _).symm.trans H; rw [hy106]; with_reducible exact H2_) | (have H2_ := (Option.bind_some _ _).symm.trans H; with_reducible exact H2_) | with_reducible exact H | (rw [hy106]; exact H) | exact H
    have Ny106 := Aside0.mk hy106
    clear hy106
    obtain rfl := Option.some.inj H
    go_enter Tryd.func24, Tryd.ntmps24
    go_wp2_with (first | ((with_reducible refine gate_dst (N := 8) rfl ?_); refine Kd.R_lit (Kd.int .u8) _ 5 ?hg (N := 8) ?hd (xs := ([(IntKind.u64.wrap (48 + a0)) % 256] : List Int)) (inner := [.int .u8 ((IntKind.u64.wrap (48 + a0)) % 256)]) (ok := fun _ => True) (okp := fun _ => True) ?hr ?hp (fun _ hk => hk) trivial (Below.refl _ _) (Nat.le_refl _) (by simp) ?_; (case hd => rfl); (case hg => rfl); (case hr => first | (go_simp; done) | (go_simp; rfl)); (case hp => exact (Reps.one (show Kd.M (Kd.int .u8) _ _ _ ((IntKind.u64.wrap (48 + a0)) % 256) [.int .u8 ((IntKind.u64.wrap (48 + a0)) % 256)] from rfl) (Reps.none _ _))); intro v107 w3 ho4 hb hg_ hnew_; clear hg_ hnew_; (first | rw [← Ny106.out] at ho4 | (simp only [Int.reduceToNat] at ho4; rw [← Ny106.out] at ho4)); have n0_ := Aside0.mk (Kd.R_lower ho4 (below_size (by repeat (first | (with_reducible first | exact HB.out | apply below_alloc | apply pw_below_drewN | apply below_drew1) | exact HB.out)))); have n1_ := Aside0.mk (below_step (by repeat (first | (with_reducible first | exact HB.out | apply below_alloc | apply pw_below_drewN | apply below_drew1) | exact HB.out)) hb); clear HB; have HO108 := n0_; have HB := n1_; clear n0_ n1_; clear hb ho4; have hcv5 := own_string (P := Tryd.prog) Tryd.underlying27 Tryd.underlying5 Tryd.underlying9 (Kd.own_of_R HO108.out)))
    go_ret
    exact ⟨by first | rfl | (simp [errW_none, errW_some] <;> rfl) | (simp [*, errW_none, errW_some] <;> rfl), by repeat (first | (with_reducible first | exact HB.out | apply below_alloc | apply pw_below_drewN | apply below_drew1) | exact HB.out)⟩
  · rw [if_neg c2] at H
    have c2b0 : decide (a0 < 10) = false := decide_eq_false c2
    clear c2
    replace H := Option.bind_eq_some_iff.mp H
    obtain ⟨t109, A60, H⟩ := H
    replace H : ((spec_RustDecimal.f k (Int.tmod a0 10)).bind fun t110 => (if t109.size + t110.size ≤ 9223372036854775807 then (some (t109 ++ t110)) else (none))) = some r := H
    have A6 := Aside0.mk A60
    clear A60
    replace H := Option.bind_eq_some_iff.mp H
    obtain ⟨t110, A70, H⟩ := H
    replace H : (if t109.size + t110.size ≤ 9223372036854775807 then (some (t109 ++ t110)) else (none)) = some r := H
    have A7 := Aside0.mk A70
    clear A70
    by_cases c8 : t109.size + t110.size ≤ 9223372036854775807
    · rw [if_pos c8] at H
      have c8b0 := eq_true c8
      have c8b1 : decide (t109.size + t110.size ≤ 9223372036854775807) = true := decide_eq_true c8
      try have c8b2 : (9223372036854775807 < t109.size + t110.size) = False := eq_false (Nat.not_lt.2 c8)
      obtain rfl := Option.some.inj H
      go_enter Tryd.func24, Tryd.ntmps24
      go_wp2_with (first | ((with_reducible refine gate_callee (f := 24) rfl ?_); refine goesL_ (some 12) rfl rfl Tryd.func24 (by kernel_rfl) rfl #[.int .u64 (IntKind.u64.wrap (Int.tdiv a0 10))] rfl (by (try simp only [List.map_toArray, List.map_cons, List.map_nil]); first | done | rfl | (simp only [List.length_drop, List.length_take]; rfl)) ?_; (with_reducible refine (ih k (by omega) (IntKind.u64.wrap (Int.tdiv a0 10)) t109 _ A6.out).mono ?_); rintro e w9 ⟨rfl, hb⟩; refine ⟨_, rfl, ?_⟩; have n0_ := Aside0.mk (below_step (by repeat (first | (with_reducible first | exact HB.out | apply below_alloc | apply pw_below_drewN | apply below_drew1) | exact HB.out)) hb); clear HB; have HB := n0_; clear n0_; (try clear hb); (try clear hb2); (try clear hk); (try clear hi)) | ((with_reducible refine gate_callee (f := 24) rfl ?_); refine goesL_ (some 15) rfl rfl Tryd.func24 (by kernel_rfl) rfl #[.int .u64 (Int.tmod a0 10)] rfl (by (try simp only [List.map_toArray, List.map_cons, List.map_nil]); first | done | rfl | (simp only [List.length_drop, List.length_take]; rfl)) ?_; (with_reducible refine (ih k (by omega) (Int.tmod a0 10) t110 _ A7.out).mono ?_); rintro e w10 ⟨rfl, hb⟩; refine ⟨_, rfl, ?_⟩; have n0_ := Aside0.mk (below_step (by repeat (first | (with_reducible first | exact HB.out | apply below_alloc | apply pw_below_drewN | apply below_drew1) | exact HB.out)) hb); clear HB; have HB := n0_; clear n0_; (try clear hb); (try clear hb2); (try clear hk); (try clear hi)))
      go_ret
      exact ⟨by first | rfl | (simp [errW_none, errW_some] <;> rfl) | (simp [*, errW_none, errW_some] <;> rfl), by repeat (first | (with_reducible first | exact HB.out | apply below_alloc | apply pw_below_drewN | apply below_drew1) | exact HB.out)⟩
    · rw [if_neg c8] at H
      exact absurd H (by simp)

/-! ### laws_FnConstantSigned: function 7 -/
def laws_FnConstantSigned.j0 : Nat → Int → ByteArray → Bool → Int → Int → ByteArray → Int → Bool → Option (Bool)
  | 0, _, _, _, _, _, _, _, _ => none
  | k + 1, x1, x2, x22, x113000, x113001, x113002, x113003, x113004 => if x22 = true then (some true) else ((some (([x113001] : List Int) : List Int)).bind fun y114 => ((spec_RustHex.f k x1).bind fun t117 => (if (strOfNums y114).size + t117.size ≤ 9223372036854775807 then (if ((strOfNums y114) ++ t117).size + 1 ≤ 9223372036854775807 then ((spec_RustDecimal.f k x1).bind fun t118 => ((laws_constantIs.f (((strOfNums y114) ++ t117) ++ (⟨#[95]⟩ : ByteArray)) x2 t118).bind fun t119 => (if t119 = true then (if (strOfNums y114).size + 1 ≤ 9223372036854775807 then ((spec_RustHex.f k x1).bind fun t120 => (if ((strOfNums y114) ++ (⟨#[110]⟩ : ByteArray)).size + t120.size ≤ 9223372036854775807 then (if (((strOfNums y114) ++ (⟨#[110]⟩ : ByteArray)) ++ t120).size + 1 ≤ 9223372036854775807 then ((spec_RustDecimal.f k x1).bind fun t121 => (if 1 + t121.size ≤ 9223372036854775807 then ((laws_constantIs.f ((((strOfNums y114) ++ (⟨#[110]⟩ : ByteArray)) ++ t120) ++ (⟨#[95]⟩ : ByteArray)) x2 ((⟨#[45]⟩ : ByteArray) ++ t121)).bind fun t122 => (some t122)) else (none))) else (none)) else (none))) else (none)) else (some false)))) else (none)) else (none))))
def laws_FnConstantSigned.f (k : Nat) (a0 : Int) (a1 : Int) (a2 : ByteArray) : Option (Bool) := if (a2.size : Int) > 2147483647 then (some true) else ((spec_RustSigned.f a0).bind fun t111 => ((spec_RustRightConstant.f 20 t111 (⟨#[]⟩ : ByteArray) a1 false ([] : List (S31))).bind fun t113 => (if t113 = true then (laws_FnConstantSigned.j0 k a1 a2 (a1 == 0) 20 t111 (⟨#[]⟩ : ByteArray) a1 false) else (laws_FnConstantSigned.j0 k a1 a2 true 20 t111 (⟨#[]⟩ : ByteArray) a1 false))))
theorem laws_FnConstantSigned.mono_l : ∀ k, (∀ y0 y1 y2 y3 y4 y5 y6 y7, LeO (laws_FnConstantSigned.j0 k y0 y1 y2 y3 y4 y5 y6 y7) (laws_FnConstantSigned.j0 (k + 1) y0 y1 y2 y3 y4 y5 y6 y7))
  | 0 => fun _ _ _ _ _ _ _ _ r h => by simp [laws_FnConstantSigned.j0] at h
  | k + 1 => by
    have ih0 := laws_FnConstantSigned.mono_l k
    · intro y0 y1 y2 y3 y4 y5 y6 y7
      unfold laws_FnConstantSigned.j0
      repeat' first
      | (with_reducible exact ih0 _ _ _ _ _ _ _ _)
      | (with_reducible exact spec_RustDecimal.mono _ _)
      | (with_reducible exact spec_RustHex.mono _ _)
      | (with_reducible exact LeO.refl _)
      | (with_reducible exact LeO.none _)
      | (with_reducible refine LeO.ite ?_ ?_)
      | (with_reducible refine LeO.bind ?_ (fun _ => ?_))
      | exact ih0 _ _ _ _ _ _ _ _
      | exact spec_RustDecimal.mono _ _
      | exact spec_RustHex.mono _ _
      | exact LeO.none _
      | refine LeO.ite ?_ ?_
      | refine LeO.bind ?_ (fun _ => ?_)
theorem laws_FnConstantSigned.mono : ∀ a0 a1 a2 k, LeO (laws_FnConstantSigned.f k a0 a1 a2) (laws_FnConstantSigned.f (k + 1) a0 a1 a2) := by
  intro a0 a1 a2 k
  have ih0 := laws_FnConstantSigned.mono_l k
  unfold laws_FnConstantSigned.f
  repeat' first
      | (with_reducible exact ih0 _ _ _ _ _ _ _ _)
      | (with_reducible exact spec_RustDecimal.mono _ _)
      | (with_reducible exact spec_RustHex.mono _ _)
      | (with_reducible exact LeO.refl _)
      | (with_reducible exact LeO.none _)
      | (with_reducible refine LeO.ite ?_ ?_)
      | (with_reducible refine LeO.bind ?_ (fun _ => ?_))
      | exact ih0 _ _ _ _ _ _ _ _
      | exact spec_RustDecimal.mono _ _
      | exact spec_RustHex.mono _ _
      | exact LeO.none _
      | refine LeO.ite ?_ ?_
      | refine LeO.bind ?_ (fun _ => ?_)
set_option maxHeartbeats 8000000 in
set_option maxRecDepth 100000 in
theorem laws_FnConstantSigned.calls (k : Nat) (a0 : Int) (a1 : Int) (a2 : ByteArray) (r : Bool) (w : World) (hT_ : StrIs w) (h : laws_FnConstantSigned.f k a0 a1 a2 = some r) :
    Calls Tryd.prog 7 #[.int .i64 a0, .int .u64 a1, .string a2] w fun e w' => e = .returned (.bool r) ∧ Below w.heap.size w w' := by
  have hu31 := Tryd.underlying31
  have HB := Aside0.mk (Below.refl w.heap.size w)
  have H : (if (a2.size : Int) > 2147483647 then (some true) else ((spec_RustSigned.f a0).bind fun t111 => ((spec_RustRightConstant.f 20 t111 (⟨#[]⟩ : ByteArray) a1 false ([] : List (S31))).bind fun t113 => (if t113 = true then (laws_FnConstantSigned.j0 k a1 a2 (a1 == 0) 20 t111 (⟨#[]⟩ : ByteArray) a1 false) else (laws_FnConstantSigned.j0 k a1 a2 true 20 t111 (⟨#[]⟩ : ByteArray) a1 false))))) = some r := h
  clear h
  by_cases c4 : (a2.size : Int) > 2147483647
  · rw [if_pos c4] at H
    have c4b0 : decide (2147483647 < (a2.size : Int)) = true := decide_eq_true c4
    have c4b1 : decide (2147483647 < a2.size) = true := decide_eq_true (by omega)
    clear c4
    obtain rfl := Option.some.inj H
    go_enter Tryd.func7, Tryd.ntmps7
    go_wp2
    go_ret
    exact ⟨by first | rfl | (simp [errW_none, errW_some] <;> rfl) | (simp [*, errW_none, errW_some] <;> rfl), by repeat (first | (with_reducible first | exact HB.out | apply below_alloc | apply pw_below_drewN | apply below_drew1) | exact HB.out)⟩
  · rw [if_neg c4] at H
    have c4b0 : decide (2147483647 < (a2.size : Int)) = false := decide_eq_false c4
    have c4b1 : decide (2147483647 < a2.size) = false := decide_eq_false (by omega)
    clear c4
    replace H := Option.bind_eq_some_iff.mp H
    obtain ⟨t111, A50, H⟩ := H
    replace H : ((spec_RustRightConstant.f 20 t111 (⟨#[]⟩ : ByteArray) a1 false ([] : List (S31))).bind fun t113 => (if t113 = true then (laws_FnConstantSigned.j0 k a1 a2 (a1 == 0) 20 t111 (⟨#[]⟩ : ByteArray) a1 false) else (laws_FnConstantSigned.j0 k a1 a2 true 20 t111 (⟨#[]⟩ : ByteArray) a1 false))) = some r := H
    have A5 := Aside0.mk A50
    clear A50
    have HC6 := Aside0.mk H
    clear H
    go_enter Tryd.func7, Tryd.ntmps7
    go_upto_region 4 with (first | ((with_reducible refine gate_callee (f := 18) rfl ?_); refine goesL_ (some 13) rfl rfl Tryd.func18 (by kernel_rfl) rfl #[.int .i64 a0] rfl (by (try simp only [List.map_toArray, List.map_cons, List.map_nil]); first | done | rfl | (simp only [List.length_drop, List.length_take]; rfl)) ?_; (with_reducible refine (spec_RustSigned.calls a0 t111 _ A5.out).mono ?_); rintro e w' ⟨rfl, ⟨nd, rfl⟩⟩; refine ⟨_, rfl, ?_⟩) | ((with_reducible refine gate_dst (N := 7) rfl ?_); refine box_event ?hg (N := 7) ?hd (cs := #[.int .i64 0, .int .u8 0, .string (⟨#[]⟩ : ByteArray), .int .u64 0, .bool false, .slice none 0 0]) (t := 31) ?hr ?_; (case hd => rfl); (case hg => rfl); (case hr => first | (go_simp; done) | (go_simp; rfl)); intro gb112 hg w7 hbox hb; have n0_ := Aside0.mk (below_step (by repeat (first | (with_reducible first | exact HB.out | apply below_alloc | apply pw_below_drewN | apply below_drew1) | exact HB.out)) hb); have n1_ := Aside0.mk (hbox); have n2_ := Aside0.mk ((by rw [hg]; exact (below_size (by repeat (first | (with_reducible first | exact HB.out | apply below_alloc | apply pw_below_drewN | apply below_drew1) | exact HB.out))) : w.heap.size ≤ gb112)); have n3_ := Aside0.mk ((by rw [hg]; exact (below_size (by repeat (first | (with_reducible first | exact HB.out | apply below_alloc | apply pw_below_drewN | apply below_drew1) | exact HB.out))) : w.heap.size ≤ gb112)); clear HB; have HB := n0_; have BK112 := n1_; have GW112 := n2_; have GE112 := n3_; clear n0_ n1_ n2_ n3_; clear hb hbox hg; have hcz8_0 : w7.cell? ⟨gb112, 0, none⟩ = some (.int .i64 0) := (blk_cell BK112.out 0).trans rfl; have hcz8_1 : w7.cell? ⟨gb112, 1, none⟩ = some (.int .u8 0) := (blk_cell BK112.out 1).trans rfl; have hcz8_2 : w7.cell? ⟨gb112, 2, none⟩ = some (.string (⟨#[]⟩ : ByteArray)) := (blk_cell BK112.out 2).trans rfl; have hcz8_3 : w7.cell? ⟨gb112, 3, none⟩ = some (.int .u64 0) := (blk_cell BK112.out 3).trans rfl; have hcz8_4 : w7.cell? ⟨gb112, 4, none⟩ = some (.bool false) := (blk_cell BK112.out 4).trans rfl; have hcz8_5 : w7.cell? ⟨gb112, 5, none⟩ = some (.slice none 0 0) := (blk_cell BK112.out 5).trans rfl; have hfz8_0 := blk_frozen BK112.out 0; have hfz8_1 := blk_frozen BK112.out 1; have hfz8_2 := blk_frozen BK112.out 2; have hfz8_3 := blk_frozen BK112.out 3; have hfz8_4 := blk_frozen BK112.out 4; have hfz8_5 := blk_frozen BK112.out 5))
    (try simp only [Act.put, List.setIfInBounds_toArray, List.set_cons_zero, List.set_cons_succ])
    go_cut [22] (fun v22 wc => ∃ (kq : Nat) (x22_5 : Bool), v22 = .bool x22_5 ∧ Aside0 (laws_FnConstantSigned.j0 kq a1 a2 x22_5 20 t111 (⟨#[]⟩ : ByteArray) a1 false = some r) ∧ Aside0 (kq ≤ k) ∧ Aside0 (wc.heap[gb112]? = some (.cells #[.int .i64 20, .int .u8 t111, .string (⟨#[]⟩ : ByteArray), .int .u64 a1, .bool false, (.slice none 0 0)] 31 (0, 0))) ∧ Aside0 (Below w.heap.size w wc))
    case first =>
      have H := HC6.out
      clear HC6
      replace H := Option.bind_eq_some_iff.mp H
      obtain ⟨t113, A90, H⟩ := H
      replace H : (if t113 = true then (laws_FnConstantSigned.j0 k a1 a2 (a1 == 0) 20 t111 (⟨#[]⟩ : ByteArray) a1 false) else (laws_FnConstantSigned.j0 k a1 a2 true 20 t111 (⟨#[]⟩ : ByteArray) a1 false)) = some r := H
      have A9 := Aside0.mk A90
      clear A90
      by_cases c10 : t113 = true
      · subst c10
        have H1 : (laws_FnConstantSigned.j0 k a1 a2 (a1 == 0) 20 t111 (⟨#[]⟩ : ByteArray) a1 false) = some r := by rw [if_pos rfl] at H; exact H
        clear H
        have H := H1
        clear H1
        have H' := Aside0.mk H
        clear H
        have hcz11_0 : w7.cell? ⟨gb112, 0, none⟩ = some (.int .i64 0) := (blk_cell BK112.out 0).trans rfl
        have hcz11_1 : w7.cell? ⟨gb112, 1, none⟩ = some (.int .u8 0) := (blk_cell BK112.out 1).trans rfl
        have hcz11_2 : w7.cell? ⟨gb112, 2, none⟩ = some (.string (⟨#[]⟩ : ByteArray)) := (blk_cell BK112.out 2).trans rfl
        have hcz11_3 : w7.cell? ⟨gb112, 3, none⟩ = some (.int .u64 0) := (blk_cell BK112.out 3).trans rfl
        have hcz11_4 : w7.cell? ⟨gb112, 4, none⟩ = some (.bool false) := (blk_cell BK112.out 4).trans rfl
        have hcz11_5 : w7.cell? ⟨gb112, 5, none⟩ = some (.slice none 0 0) := (blk_cell BK112.out 5).trans rfl
        have hfz11_0 := blk_frozen BK112.out 0
        have hfz11_1 := blk_frozen BK112.out 1
        have hfz11_2 := blk_frozen BK112.out 2
        have hfz11_3 := blk_frozen BK112.out 3
        have hfz11_4 := blk_frozen BK112.out 4
        have hfz11_5 := blk_frozen BK112.out 5
        go_wp2_with (first | ((with_reducible refine gate_callee (f := 25) rfl ?_); refine goesL_ (some 17) rfl rfl Tryd.func25 (by kernel_rfl) rfl #[.agg #[.int .i64 20, .int .u8 t111, .string (⟨#[]⟩ : ByteArray), .int .u64 a1, .bool false, .slice none 0 0]] rfl (by (try simp only [List.map_toArray, List.map_cons, List.map_nil]); first | done | rfl | (simp only [List.length_drop, List.length_take]; rfl)) ?_; (refine (spec_RustRightConstant.calls 20 t111 (⟨#[]⟩ : ByteArray) a1 false _ _ ([] : List (S31)) true _ ?side1 ?side2 A9.out).mono ?_); (case side1 => exact Kd.C_nil _ _); (case side2 => exact Nat.le_refl _); rintro e w12 ⟨rfl, hb⟩; refine ⟨_, rfl, ?_⟩; have n0_ := Aside0.mk (blk_below (g := gb112) (o := .cells #[.int .i64 20, .int .u8 t111, .string (⟨#[]⟩ : ByteArray), .int .u64 a1, .bool false, .slice none 0 0] 31 (0, 0)) (by (with_reducible repeat (first | refine blk_drewN ?_ _ | refine blk_drew ?_ | refine blk_alloc ?_ _)); refine blk_put (cs := #[.int .i64 20, .int .u8 t111, .string (⟨#[]⟩ : ByteArray), .int .u64 a1, .bool false, .slice none 0 0]) ?_ 5 _ rfl; (with_reducible repeat (first | refine blk_drewN ?_ _ | refine blk_drew ?_ | refine blk_alloc ?_ _)); refine blk_put (cs := #[.int .i64 20, .int .u8 t111, .string (⟨#[]⟩ : ByteArray), .int .u64 a1, .bool false, .slice none 0 0]) ?_ 4 _ rfl; (with_reducible repeat (first | refine blk_drewN ?_ _ | refine blk_drew ?_ | refine blk_alloc ?_ _)); refine blk_put (cs := #[.int .i64 20, .int .u8 t111, .string (⟨#[]⟩ : ByteArray), .int .u64 0, .bool false, .slice none 0 0]) ?_ 3 _ rfl; (with_reducible repeat (first | refine blk_drewN ?_ _ | refine blk_drew ?_ | refine blk_alloc ?_ _)); refine blk_put (cs := #[.int .i64 20, .int .u8 t111, .string (⟨#[]⟩ : ByteArray), .int .u64 0, .bool false, .slice none 0 0]) ?_ 2 _ rfl; (with_reducible repeat (first | refine blk_drewN ?_ _ | refine blk_drew ?_ | refine blk_alloc ?_ _)); refine blk_put (cs := #[.int .i64 20, .int .u8 0, .string (⟨#[]⟩ : ByteArray), .int .u64 0, .bool false, .slice none 0 0]) ?_ 1 _ rfl; (with_reducible repeat (first | refine blk_drewN ?_ _ | refine blk_drew ?_ | refine blk_alloc ?_ _)); refine blk_put (cs := #[.int .i64 0, .int .u8 0, .string (⟨#[]⟩ : ByteArray), .int .u64 0, .bool false, .slice none 0 0]) ?_ 0 _ rfl; (with_reducible repeat (first | refine blk_drewN ?_ _ | refine blk_drew ?_ | refine blk_alloc ?_ _)); exact BK112.out) hb); have n1_ := Aside0.mk (below_step (by repeat (first | (with_reducible first | exact HB.out | apply below_alloc | apply pw_below_drewN | apply below_drew1 | refine below_set ?_ GE112.out) | exact HB.out)) hb); clear BK112; clear HB; have BK112 := n0_; have HB := n1_; clear n0_ n1_; (try clear hb); (try clear hb2); (try clear hk); (try clear hi)))
        go_meet
        case rel => exact ⟨_, ((a1 == 0)), (by first | rfl | (simp; done) | (simp [*]; done)), H', ⟨by first | omega | exact Nat.le_refl _⟩, ⟨by (with_reducible repeat (first | refine blk_drewN ?_ _ | refine blk_drew ?_ | refine blk_alloc ?_ _)); exact BK112.out⟩, ⟨by repeat (first | (with_reducible first | exact HB.out | apply below_alloc | apply pw_below_drewN | apply below_drew1 | refine below_set ?_ GE112.out) | exact HB.out)⟩⟩
      · replace c10 := Bool.eq_false_iff.mpr c10
        subst c10
        have H1 : (laws_FnConstantSigned.j0 k a1 a2 true 20 t111 (⟨#[]⟩ : ByteArray) a1 false) = some r := by rw [if_neg (show ¬ (false = true) by decide)] at H; exact H
        clear H
        have H := H1
        clear H1
        have H' := Aside0.mk H
        clear H
        have hcz13_0 : w7.cell? ⟨gb112, 0, none⟩ = some (.int .i64 0) := (blk_cell BK112.out 0).trans rfl
        have hcz13_1 : w7.cell? ⟨gb112, 1, none⟩ = some (.int .u8 0) := (blk_cell BK112.out 1).trans rfl
        have hcz13_2 : w7.cell? ⟨gb112, 2, none⟩ = some (.string (⟨#[]⟩ : ByteArray)) := (blk_cell BK112.out 2).trans rfl
        have hcz13_3 : w7.cell? ⟨gb112, 3, none⟩ = some (.int .u64 0) := (blk_cell BK112.out 3).trans rfl
        have hcz13_4 : w7.cell? ⟨gb112, 4, none⟩ = some (.bool false) := (blk_cell BK112.out 4).trans rfl
        have hcz13_5 : w7.cell? ⟨gb112, 5, none⟩ = some (.slice none 0 0) := (blk_cell BK112.out 5).trans rfl
        have hfz13_0 := blk_frozen BK112.out 0
        have hfz13_1 := blk_frozen BK112.out 1
        have hfz13_2 := blk_frozen BK112.out 2
        have hfz13_3 := blk_frozen BK112.out 3
        have hfz13_4 := blk_frozen BK112.out 4
        have hfz13_5 := blk_frozen BK112.out 5
        go_wp2_with (first | ((with_reducible refine gate_callee (f := 25) rfl ?_); refine goesL_ (some 17) rfl rfl Tryd.func25 (by kernel_rfl) rfl #[.agg #[.int .i64 20, .int .u8 t111, .string (⟨#[]⟩ : ByteArray), .int .u64 a1, .bool false, .slice none 0 0]] rfl (by (try simp only [List.map_toArray, List.map_cons, List.map_nil]); first | done | rfl | (simp only [List.length_drop, List.length_take]; rfl)) ?_; (refine (spec_RustRightConstant.calls 20 t111 (⟨#[]⟩ : ByteArray) a1 false _ _ ([] : List (S31)) false _ ?side1 ?side2 A9.out).mono ?_); (case side1 => exact Kd.C_nil _ _); (case side2 => exact Nat.le_refl _); rintro e w14 ⟨rfl, hb⟩; refine ⟨_, rfl, ?_⟩; have n0_ := Aside0.mk (blk_below (g := gb112) (o := .cells #[.int .i64 20, .int .u8 t111, .string (⟨#[]⟩ : ByteArray), .int .u64 a1, .bool false, .slice none 0 0] 31 (0, 0)) (by (with_reducible repeat (first | refine blk_drewN ?_ _ | refine blk_drew ?_ | refine blk_alloc ?_ _)); refine blk_put (cs := #[.int .i64 20, .int .u8 t111, .string (⟨#[]⟩ : ByteArray), .int .u64 a1, .bool false, .slice none 0 0]) ?_ 5 _ rfl; (with_reducible repeat (first | refine blk_drewN ?_ _ | refine blk_drew ?_ | refine blk_alloc ?_ _)); refine blk_put (cs := #[.int .i64 20, .int .u8 t111, .string (⟨#[]⟩ : ByteArray), .int .u64 a1, .bool false, .slice none 0 0]) ?_ 4 _ rfl; (with_reducible repeat (first | refine blk_drewN ?_ _ | refine blk_drew ?_ | refine blk_alloc ?_ _)); refine blk_put (cs := #[.int .i64 20, .int .u8 t111, .string (⟨#[]⟩ : ByteArray), .int .u64 0, .bool false, .slice none 0 0]) ?_ 3 _ rfl; (with_reducible repeat (first | refine blk_drewN ?_ _ | refine blk_drew ?_ | refine blk_alloc ?_ _)); refine blk_put (cs := #[.int .i64 20, .int .u8 t111, .string (⟨#[]⟩ : ByteArray), .int .u64 0, .bool false, .slice none 0 0]) ?_ 2 _ rfl; (with_reducible repeat (first | refine blk_drewN ?_ _ | refine blk_drew ?_ | refine blk_alloc ?_ _)); refine blk_put (cs := #[.int .i64 20, .int .u8 0, .string (⟨#[]⟩ : ByteArray), .int .u64 0, .bool false, .slice none 0 0]) ?_ 1 _ rfl; (with_reducible repeat (first | refine blk_drewN ?_ _ | refine blk_drew ?_ | refine blk_alloc ?_ _)); refine blk_put (cs := #[.int .i64 0, .int .u8 0, .string (⟨#[]⟩ : ByteArray), .int .u64 0, .bool false, .slice none 0 0]) ?_ 0 _ rfl; (with_reducible repeat (first | refine blk_drewN ?_ _ | refine blk_drew ?_ | refine blk_alloc ?_ _)); exact BK112.out) hb); have n1_ := Aside0.mk (below_step (by repeat (first | (with_reducible first | exact HB.out | apply below_alloc | apply pw_below_drewN | apply below_drew1 | refine below_set ?_ GE112.out) | exact HB.out)) hb); clear BK112; clear HB; have BK112 := n0_; have HB := n1_; clear n0_ n1_; (try clear hb); (try clear hb2); (try clear hk); (try clear hi)))
        go_meet
        case rel => exact ⟨_, (true), (by first | rfl | (simp; done) | (simp [*]; done)), H', ⟨by first | omega | exact Nat.le_refl _⟩, ⟨by (with_reducible repeat (first | refine blk_drewN ?_ _ | refine blk_drew ?_ | refine blk_alloc ?_ _)); exact BK112.out⟩, ⟨by repeat (first | (with_reducible first | exact HB.out | apply below_alloc | apply pw_below_drewN | apply below_drew1 | refine below_set ?_ GE112.out) | exact HB.out)⟩⟩
    case rest =>
      clear HC6
      try clear c1
      try clear c2
      try clear p2
      try clear c4
      try clear c4b0
      try clear c4b1
      try clear c7
      try clear c10
      try clear hcz11_0
      try clear hcz11_1
      try clear hcz11_2
      try clear hcz11_3
      try clear hcz11_4
      try clear hcz11_5
      try clear hcz13_0
      try clear hcz13_1
      try clear hcz13_2
      try clear hcz13_3
      try clear hcz13_4
      try clear hcz13_5
      try clear hcz8_0
      try clear hcz8_1
      try clear hcz8_2
      try clear hcz8_3
      try clear hcz8_4
      try clear hcz8_5
      try clear hfz11_0
      try clear hfz11_1
      try clear hfz11_2
      try clear hfz11_3
      try clear hfz11_4
      try clear hfz11_5
      try clear hfz13_0
      try clear hfz13_1
      try clear hfz13_2
      try clear hfz13_3
      try clear hfz13_4
      try clear hfz13_5
      try clear hfz8_0
      try clear hfz8_1
      try clear hfz8_2
      try clear hfz8_3
      try clear hfz8_4
      try clear hfz8_5
      obtain ⟨kq, x22_5, rfl, HA, HJ5, BK112, HB⟩ := hcut
      cases kq with
      | zero => exact absurd HA.out (by simp [laws_FnConstantSigned.j0])
      | succ kj5 =>
        have H := HA.out
        clear HA
        simp only [laws_FnConstantSigned.j0] at H
        by_cases c15 : x22_5 = true
        · subst c15
          have H1 : (some true) = some r := by rw [if_pos rfl] at H; exact H
          clear H
          have H := H1
          clear H1
          obtain rfl := Option.some.inj H
          go_wp2
          go_ret
          exact ⟨by first | rfl | (simp [errW_none, errW_some] <;> rfl) | (simp [*, errW_none, errW_some] <;> rfl), by repeat (first | (with_reducible first | exact HB.out | apply below_alloc | apply pw_below_drewN | apply below_drew1 | refine below_set ?_ GE112.out) | exact HB.out)⟩
        · replace c15 := Bool.eq_false_iff.mpr c15
          subst c15
          have H1 : ((some (([t111] : List Int) : List Int)).bind fun y114 => ((spec_RustHex.f kj5 a1).bind fun t117 => (if (strOfNums y114).size + t117.size ≤ 9223372036854775807 then (if ((strOfNums y114) ++ t117).size + 1 ≤ 9223372036854775807 then ((spec_RustDecimal.f kj5 a1).bind fun t118 => ((laws_constantIs.f (((strOfNums y114) ++ t117) ++ (⟨#[95]⟩ : ByteArray)) a2 t118).bind fun t119 => (if t119 = true then (if (strOfNums y114).size + 1 ≤ 9223372036854775807 then ((spec_RustHex.f kj5 a1).bind fun t120 => (if ((strOfNums y114) ++ (⟨#[110]⟩ : ByteArray)).size + t120.size ≤ 9223372036854775807 then (if (((strOfNums y114) ++ (⟨#[110]⟩ : ByteArray)) ++ t120).size + 1 ≤ 9223372036854775807 then ((spec_RustDecimal.f kj5 a1).bind fun t121 => (if 1 + t121.size ≤ 9223372036854775807 then ((laws_constantIs.f ((((strOfNums y114) ++ (⟨#[110]⟩ : ByteArray)) ++ t120) ++ (⟨#[95]⟩ : ByteArray)) a2 ((⟨#[45]⟩ : ByteArray) ++ t121)).bind fun t122 => (some t122)) else (none))) else (none)) else (none))) else (none)) else (some false)))) else (none)) else (none)))) = some r := by rw [if_neg (show ¬ (false = true) by decide)] at H; exact H
          clear H
          have H := H1
          clear H1
          obtain ⟨y114, hy114⟩ : ∃ y_ : List Int, y_ = (([t111] : List Int)) := ⟨_, rfl⟩
          replace H : ((spec_RustHex.f kj5 a1).bind fun t117 => (if (strOfNums y114).size + t117.size ≤ 9223372036854775807 then (if ((strOfNums y114) ++ t117).size + 1 ≤ 9223372036854775807 then ((spec_RustDecimal.f kj5 a1).bind fun t118 => ((laws_constantIs.f (((strOfNums y114) ++ t117) ++ (⟨#[95]⟩ : ByteArray)) a2 t118).bind fun t119 => (if t119 = true then (if (strOfNums y114).size + 1 ≤ 9223372036854775807 then ((spec_RustHex.f kj5 a1).bind fun t120 => (if ((strOfNums y114) ++ (⟨#[110]⟩ : ByteArray)).size + t120.size ≤ 9223372036854775807 then (if (((strOfNums y114) ++ (⟨#[110]⟩ : ByteArray)) ++ t120).size + 1 ≤ 9223372036854775807 then ((spec_RustDecimal.f kj5 a1).bind fun t121 => (if 1 + t121.size ≤ 9223372036854775807 then ((laws_constantIs.f ((((strOfNums y114) ++ (⟨#[110]⟩ : ByteArray)) ++ t120) ++ (⟨#[95]⟩ : ByteArray)) a2 ((⟨#[45]⟩ : ByteArray) ++ t121)).bind fun t122 => (some t122)) else (none))) else (none)) else (none))) else (none)) else (some false)))) else (none)) else (none))) = some r := by first | (rw [hy114]; with_reducible exact H) | (have H2_ := (Option.bind_some _ _).symm.trans H; rw [hy114]; with_reducible exact H2_) | (have H2_ := (Option.bind_some _ _).symm.trans H; with_reducible exact H2_) | with_reducible exact H | (rw [hy114]; exact H) | exact H
          have Ny114 := Aside0.mk hy114
          clear hy114
          replace H := Option.bind_eq_some_iff.mp H
          obtain ⟨t117, A160, H⟩ := H
          replace H : (if (strOfNums y114).size + t117.size ≤ 9223372036854775807 then (if ((strOfNums y114) ++ t117).size + 1 ≤ 9223372036854775807 then ((spec_RustDecimal.f kj5 a1).bind fun t118 => ((laws_constantIs.f (((strOfNums y114) ++ t117) ++ (⟨#[95]⟩ : ByteArray)) a2 t118).bind fun t119 => (if t119 = true then (if (strOfNums y114).size + 1 ≤ 9223372036854775807 then ((spec_RustHex.f kj5 a1).bind fun t120 => (if ((strOfNums y114) ++ (⟨#[110]⟩ : ByteArray)).size + t120.size ≤ 9223372036854775807 then (if (((strOfNums y114) ++ (⟨#[110]⟩ : ByteArray)) ++ t120).size + 1 ≤ 9223372036854775807 then ((spec_RustDecimal.f kj5 a1).bind fun t121 => (if 1 + t121.size ≤ 9223372036854775807 then ((laws_constantIs.f ((((strOfNums y114) ++ (⟨#[110]⟩ : ByteArray)) ++ t120) ++ (⟨#[95]⟩ : ByteArray)) a2 ((⟨#[45]⟩ : ByteArray) ++ t121)).bind fun t122 => (some t122)) else (none))) else (none)) else (none))) else (none)) else (some false)))) else (none)) else (none)) = some r := H
          have A16 := Aside0.mk A160
          clear A160
          by_cases c17 : (strOfNums y114).size + t117.size ≤ 9223372036854775807
          · rw [if_pos c17] at H
            have c17b0 := eq_true c17
            have c17b1 : decide ((strOfNums y114).size + t117.size ≤ 9223372036854775807) = true := decide_eq_true c17
            try have c17b2 : (9223372036854775807 < (strOfNums y114).size + t117.size) = False := eq_false (Nat.not_lt.2 c17)
            by_cases c18 : ((strOfNums y114) ++ t117).size + 1 ≤ 9223372036854775807
            · rw [if_pos c18] at H
              have c18b0 := eq_true c18
              have c18b1 : decide (((strOfNums y114) ++ t117).size + 1 ≤ 9223372036854775807) = true := decide_eq_true c18
              try have c18b2 : (9223372036854775807 < ((strOfNums y114) ++ t117).size + 1) = False := eq_false (Nat.not_lt.2 c18)
              try have c18b4 : (9223372036854775807 < (strOfNums y114).size + t117.size + 1) = False := eq_false (by have h_ := c18; (repeat rw [ByteArray.size_append] at h_); exact Nat.not_lt.2 h_)
              replace H := Option.bind_eq_some_iff.mp H
              obtain ⟨t118, A190, H⟩ := H
              replace H : ((laws_constantIs.f (((strOfNums y114) ++ t117) ++ (⟨#[95]⟩ : ByteArray)) a2 t118).bind fun t119 => (if t119 = true then (if (strOfNums y114).size + 1 ≤ 9223372036854775807 then ((spec_RustHex.f kj5 a1).bind fun t120 => (if ((strOfNums y114) ++ (⟨#[110]⟩ : ByteArray)).size + t120.size ≤ 9223372036854775807 then (if (((strOfNums y114) ++ (⟨#[110]⟩ : ByteArray)) ++ t120).size + 1 ≤ 9223372036854775807 then ((spec_RustDecimal.f kj5 a1).bind fun t121 => (if 1 + t121.size ≤ 9223372036854775807 then ((laws_constantIs.f ((((strOfNums y114) ++ (⟨#[110]⟩ : ByteArray)) ++ t120) ++ (⟨#[95]⟩ : ByteArray)) a2 ((⟨#[45]⟩ : ByteArray) ++ t121)).bind fun t122 => (some t122)) else (none))) else (none)) else (none))) else (none)) else (some false))) = some r := H
              have A19 := Aside0.mk A190
              clear A190
              replace H := Option.bind_eq_some_iff.mp H
              obtain ⟨t119, A200, H⟩ := H
              replace H : (if t119 = true then (if (strOfNums y114).size + 1 ≤ 9223372036854775807 then ((spec_RustHex.f kj5 a1).bind fun t120 => (if ((strOfNums y114) ++ (⟨#[110]⟩ : ByteArray)).size + t120.size ≤ 9223372036854775807 then (if (((strOfNums y114) ++ (⟨#[110]⟩ : ByteArray)) ++ t120).size + 1 ≤ 9223372036854775807 then ((spec_RustDecimal.f kj5 a1).bind fun t121 => (if 1 + t121.size ≤ 9223372036854775807 then ((laws_constantIs.f ((((strOfNums y114) ++ (⟨#[110]⟩ : ByteArray)) ++ t120) ++ (⟨#[95]⟩ : ByteArray)) a2 ((⟨#[45]⟩ : ByteArray) ++ t121)).bind fun t122 => (some t122)) else (none))) else (none)) else (none))) else (none)) else (some false)) = some r := H
              have A20 := Aside0.mk A200
              clear A200
              by_cases c21 : t119 = true
              · subst c21
                have H1 : (if (strOfNums y114).size + 1 ≤ 9223372036854775807 then ((spec_RustHex.f kj5 a1).bind fun t120 => (if ((strOfNums y114) ++ (⟨#[110]⟩ : ByteArray)).size + t120.size ≤ 9223372036854775807 then (if (((strOfNums y114) ++ (⟨#[110]⟩ : ByteArray)) ++ t120).size + 1 ≤ 9223372036854775807 then ((spec_RustDecimal.f kj5 a1).bind fun t121 => (if 1 + t121.size ≤ 9223372036854775807 then ((laws_constantIs.f ((((strOfNums y114) ++ (⟨#[110]⟩ : ByteArray)) ++ t120) ++ (⟨#[95]⟩ : ByteArray)) a2 ((⟨#[45]⟩ : ByteArray) ++ t121)).bind fun t122 => (some t122)) else (none))) else (none)) else (none))) else (none)) = some r := by rw [if_pos rfl] at H; exact H
                clear H
                have H := H1
                clear H1
                by_cases c22 : (strOfNums y114).size + 1 ≤ 9223372036854775807
                · rw [if_pos c22] at H
                  have c22b0 := eq_true c22
                  have c22b1 : decide ((strOfNums y114).size + 1 ≤ 9223372036854775807) = true := decide_eq_true c22
                  try have c22b2 : (9223372036854775807 < (strOfNums y114).size + 1) = False := eq_false (Nat.not_lt.2 c22)
                  replace H := Option.bind_eq_some_iff.mp H
                  obtain ⟨t120, A230, H⟩ := H
                  replace H : (if ((strOfNums y114) ++ (⟨#[110]⟩ : ByteArray)).size + t120.size ≤ 9223372036854775807 then (if (((strOfNums y114) ++ (⟨#[110]⟩ : ByteArray)) ++ t120).size + 1 ≤ 9223372036854775807 then ((spec_RustDecimal.f kj5 a1).bind fun t121 => (if 1 + t121.size ≤ 9223372036854775807 then ((laws_constantIs.f ((((strOfNums y114) ++ (⟨#[110]⟩ : ByteArray)) ++ t120) ++ (⟨#[95]⟩ : ByteArray)) a2 ((⟨#[45]⟩ : ByteArray) ++ t121)).bind fun t122 => (some t122)) else (none))) else (none)) else (none)) = some r := H
                  have A23 := Aside0.mk A230
                  clear A230
                  by_cases c24 : ((strOfNums y114) ++ (⟨#[110]⟩ : ByteArray)).size + t120.size ≤ 9223372036854775807
                  · rw [if_pos c24] at H
                    have c24b0 := eq_true c24
                    have c24b1 : decide (((strOfNums y114) ++ (⟨#[110]⟩ : ByteArray)).size + t120.size ≤ 9223372036854775807) = true := decide_eq_true c24
                    try have c24b2 : (9223372036854775807 < ((strOfNums y114) ++ (⟨#[110]⟩ : ByteArray)).size + t120.size) = False := eq_false (Nat.not_lt.2 c24)
                    try have c24b4 : (9223372036854775807 < (strOfNums y114).size + 1 + t120.size) = False := eq_false (by have h_ := c24; (repeat rw [ByteArray.size_append] at h_); exact Nat.not_lt.2 h_)
                    by_cases c25 : (((strOfNums y114) ++ (⟨#[110]⟩ : ByteArray)) ++ t120).size + 1 ≤ 9223372036854775807
                    · rw [if_pos c25] at H
                      have c25b0 := eq_true c25
                      have c25b1 : decide ((((strOfNums y114) ++ (⟨#[110]⟩ : ByteArray)) ++ t120).size + 1 ≤ 9223372036854775807) = true := decide_eq_true c25
                      try have c25b2 : (9223372036854775807 < (((strOfNums y114) ++ (⟨#[110]⟩ : ByteArray)) ++ t120).size + 1) = False := eq_false (Nat.not_lt.2 c25)
                      try have c25b4 : (9223372036854775807 < (strOfNums y114).size + 1 + t120.size + 1) = False := eq_false (by have h_ := c25; (repeat rw [ByteArray.size_append] at h_); exact Nat.not_lt.2 h_)
                      replace H := Option.bind_eq_some_iff.mp H
                      obtain ⟨t121, A260, H⟩ := H
                      replace H : (if 1 + t121.size ≤ 9223372036854775807 then ((laws_constantIs.f ((((strOfNums y114) ++ (⟨#[110]⟩ : ByteArray)) ++ t120) ++ (⟨#[95]⟩ : ByteArray)) a2 ((⟨#[45]⟩ : ByteArray) ++ t121)).bind fun t122 => (some t122)) else (none)) = some r := H
                      have A26 := Aside0.mk A260
                      clear A260
                      by_cases c27 : 1 + t121.size ≤ 9223372036854775807
                      · rw [if_pos c27] at H
                        have c27b0 := eq_true c27
                        have c27b1 : decide (1 + t121.size ≤ 9223372036854775807) = true := decide_eq_true c27
                        try have c27b2 : (9223372036854775807 < 1 + t121.size) = False := eq_false (Nat.not_lt.2 c27)
                        replace H := Option.bind_eq_some_iff.mp H
                        obtain ⟨t122, A280, H⟩ := H
                        replace H : (some t122) = some r := H
                        have A28 := Aside0.mk A280
                        clear A280
                        obtain rfl := Option.some.inj H
                        have hcz29_0 : wc.cell? ⟨gb112, 0, none⟩ = some (.int .i64 20) := (blk_cell BK112.out 0).trans rfl
                        have hcz29_1 : wc.cell? ⟨gb112, 1, none⟩ = some (.int .u8 t111) := (blk_cell BK112.out 1).trans rfl
                        have hcz29_2 : wc.cell? ⟨gb112, 2, none⟩ = some (.string (⟨#[]⟩ : ByteArray)) := (blk_cell BK112.out 2).trans rfl
                        have hcz29_3 : wc.cell? ⟨gb112, 3, none⟩ = some (.int .u64 a1) := (blk_cell BK112.out 3).trans rfl
                        have hcz29_4 : wc.cell? ⟨gb112, 4, none⟩ = some (.bool false) := (blk_cell BK112.out 4).trans rfl
                        have hcz29_5 : wc.cell? ⟨gb112, 5, none⟩ = some (.slice none 0 0) := (blk_cell BK112.out 5).trans rfl
                        have hfz29_0 := blk_frozen BK112.out 0
                        have hfz29_1 := blk_frozen BK112.out 1
                        have hfz29_2 := blk_frozen BK112.out 2
                        have hfz29_3 := blk_frozen BK112.out 3
                        have hfz29_4 := blk_frozen BK112.out 4
                        have hfz29_5 := blk_frozen BK112.out 5
                        go_wp2_with (first | ((with_reducible refine gate_dst (N := 25) rfl ?_); refine Kd.R_lit (Kd.int .u8) _ 5 ?hg (N := 25) ?hd (xs := ([t111] : List Int)) (inner := [.int .u8 t111]) (ok := fun _ => True) (okp := fun _ => True) ?hr ?hp (fun _ hk => hk) trivial (Below.refl _ _) (Nat.le_refl _) (by simp) ?_; (case hd => rfl); (case hg => rfl); (case hr => first | (go_simp; done) | (go_simp; rfl)); (case hp => exact (Reps.one (show Kd.M (Kd.int .u8) _ _ _ t111 [.int .u8 t111] from rfl) (Reps.none _ _))); intro v115 w30 ho31 hb hg_ hnew_; clear hg_ hnew_; (first | rw [← Ny114.out] at ho31 | (simp only [Int.reduceToNat] at ho31; rw [← Ny114.out] at ho31)); have n0_ := Aside0.mk (Kd.R_lower ho31 (below_size (by repeat (first | (with_reducible first | exact HB.out | apply below_alloc | apply pw_below_drewN | apply below_drew1 | refine below_set ?_ GE112.out) | exact HB.out)))); have n1_ := Aside0.mk (blk_below (g := gb112) (o := .cells #[.int .i64 20, .int .u8 t111, .string (⟨#[]⟩ : ByteArray), .int .u64 a1, .bool false, .slice none 0 0] 31 (0, 0)) (by (with_reducible repeat (first | refine blk_drewN ?_ _ | refine blk_drew ?_ | refine blk_alloc ?_ _)); exact BK112.out) hb); have n2_ := Aside0.mk (below_step (by repeat (first | (with_reducible first | exact HB.out | apply below_alloc | apply pw_below_drewN | apply below_drew1 | refine below_set ?_ GE112.out) | exact HB.out)) hb); clear BK112; clear HB; have HO116 := n0_; have BK112 := n1_; have HB := n2_; clear n0_ n1_ n2_; clear hb ho31; have hcv32 := own_string (P := Tryd.prog) Tryd.underlying27 Tryd.underlying5 Tryd.underlying9 (Kd.own_of_R HO116.out)) | ((with_reducible refine gate_callee (f := 15) rfl ?_); refine goesL_ (some 29) rfl rfl Tryd.func15 (by kernel_rfl) rfl #[.int .u64 a1] rfl (by (try simp only [List.map_toArray, List.map_cons, List.map_nil]); first | done | rfl | (simp only [List.length_drop, List.length_take]; rfl)) ?_; (with_reducible refine (spec_RustHex.calls kj5 a1 t117 _ A16.out).mono ?_); rintro e w33 ⟨rfl, hb⟩; refine ⟨_, rfl, ?_⟩; have n0_ := Aside0.mk (Kd.R_below (by (with_reducible repeat (first | apply Kd.R_alloc | apply Kd.R_drewN | apply Kd.R_drew)); exact HO116.out) hb); have n1_ := Aside0.mk (blk_below (g := gb112) (o := .cells #[.int .i64 20, .int .u8 t111, .string (⟨#[]⟩ : ByteArray), .int .u64 a1, .bool false, .slice none 0 0] 31 (0, 0)) (by (with_reducible repeat (first | refine blk_drewN ?_ _ | refine blk_drew ?_ | refine blk_alloc ?_ _)); exact BK112.out) hb); have n2_ := Aside0.mk (below_step (by repeat (first | (with_reducible first | exact HB.out | apply below_alloc | apply pw_below_drewN | apply below_drew1 | refine below_set ?_ GE112.out) | exact HB.out)) hb); clear HO116; clear BK112; clear HB; have HO116 := n0_; have BK112 := n1_; have HB := n2_; clear n0_ n1_ n2_; (try clear hb); (try clear hb2); (try clear hk); (try clear hi)) | ((with_reducible refine gate_callee (f := 24) rfl ?_); refine goesL_ (some 34) rfl rfl Tryd.func24 (by kernel_rfl) rfl #[.int .u64 a1] rfl (by (try simp only [List.map_toArray, List.map_cons, List.map_nil]); first | done | rfl | (simp only [List.length_drop, List.length_take]; rfl)) ?_; (with_reducible refine (spec_RustDecimal.calls kj5 a1 t118 _ A19.out).mono ?_); rintro e w34 ⟨rfl, hb⟩; refine ⟨_, rfl, ?_⟩; have n0_ := Aside0.mk (Kd.R_below (by (with_reducible repeat (first | apply Kd.R_alloc | apply Kd.R_drewN | apply Kd.R_drew)); exact HO116.out) hb); have n1_ := Aside0.mk (blk_below (g := gb112) (o := .cells #[.int .i64 20, .int .u8 t111, .string (⟨#[]⟩ : ByteArray), .int .u64 a1, .bool false, .slice none 0 0] 31 (0, 0)) (by (with_reducible repeat (first | refine blk_drewN ?_ _ | refine blk_drew ?_ | refine blk_alloc ?_ _)); exact BK112.out) hb); have n2_ := Aside0.mk (below_step (by repeat (first | (with_reducible first | exact HB.out | apply below_alloc | apply pw_below_drewN | apply below_drew1 | refine below_set ?_ GE112.out) | exact HB.out)) hb); clear HO116; clear BK112; clear HB; have HO116 := n0_; have BK112 := n1_; have HB := n2_; clear n0_ n1_ n2_; (try clear hb); (try clear hb2); (try clear hk); (try clear hi)) | ((with_reducible refine gate_callee (f := 22) rfl ?_); refine goesL_ (some 35) rfl rfl Tryd.func22 (by kernel_rfl) rfl #[.string (((strOfNums y114) ++ t117) ++ (⟨#[95]⟩ : ByteArray)), .string a2, .string t118] rfl (by (try simp only [List.map_toArray, List.map_cons, List.map_nil]); first | done | rfl | (simp only [List.length_drop, List.length_take]; rfl)) ?_; (with_reducible refine (laws_constantIs.calls (((strOfNums y114) ++ t117) ++ (⟨#[95]⟩ : ByteArray)) a2 t118 true _ (show StrIs _ from ?side1) A20.out).mono ?_); (case side1 => exact Stays.below hT_ (by first | (repeat (first | (with_reducible first | exact HB.out | apply below_alloc | apply pw_below_drewN | apply below_drew1 | refine below_set ?_ GE112.out) | exact HB.out)) | (repeat (first | exact Below.refl _ _ | apply below_drew1 | apply pw_below_drewN)))); rintro e w35 ⟨rfl, hb⟩; refine ⟨_, rfl, ?_⟩; have n0_ := Aside0.mk (Kd.R_below (by (with_reducible repeat (first | apply Kd.R_alloc | apply Kd.R_drewN | apply Kd.R_drew)); exact HO116.out) hb); have n1_ := Aside0.mk (blk_below (g := gb112) (o := .cells #[.int .i64 20, .int .u8 t111, .string (⟨#[]⟩ : ByteArray), .int .u64 a1, .bool false, .slice none 0 0] 31 (0, 0)) (by (with_reducible repeat (first | refine blk_drewN ?_ _ | refine blk_drew ?_ | refine blk_alloc ?_ _)); exact BK112.out) hb); have n2_ := Aside0.mk (below_step (by repeat (first | (with_reducible first | exact HB.out | apply below_alloc | apply pw_below_drewN | apply below_drew1 | refine below_set ?_ GE112.out) | exact HB.out)) hb); clear HO116; clear BK112; clear HB; have HO116 := n0_; have BK112 := n1_; have HB := n2_; clear n0_ n1_ n2_; (try clear hb); (try clear hb2); (try clear hk); (try clear hi)) | (go_at_call 15; (with_reducible refine (spec_RustHex.calls kj5 a1 t120 _ A23.out).mono ?_); rintro e w36 ⟨rfl, hb⟩; have n0_ := Aside0.mk (Kd.R_below (by (with_reducible repeat (first | apply Kd.R_alloc | apply Kd.R_drewN | apply Kd.R_drew)); exact HO116.out) hb); have n1_ := Aside0.mk (blk_below (g := gb112) (o := .cells #[.int .i64 20, .int .u8 t111, .string (⟨#[]⟩ : ByteArray), .int .u64 a1, .bool false, .slice none 0 0] 31 (0, 0)) (by (with_reducible repeat (first | refine blk_drewN ?_ _ | refine blk_drew ?_ | refine blk_alloc ?_ _)); exact BK112.out) hb); have n2_ := Aside0.mk (below_step (by repeat (first | (with_reducible first | exact HB.out | apply below_alloc | apply pw_below_drewN | apply below_drew1 | refine below_set ?_ GE112.out) | exact HB.out)) hb); clear HO116; clear BK112; clear HB; have HO116 := n0_; have BK112 := n1_; have HB := n2_; clear n0_ n1_ n2_; (try clear hb); (try clear hb2); (try clear hk); (try clear hi)) | (go_at_call 24; (with_reducible refine (spec_RustDecimal.calls kj5 a1 t121 _ A26.out).mono ?_); rintro e w37 ⟨rfl, hb⟩; have n0_ := Aside0.mk (Kd.R_below (by (with_reducible repeat (first | apply Kd.R_alloc | apply Kd.R_drewN | apply Kd.R_drew)); exact HO116.out) hb); have n1_ := Aside0.mk (blk_below (g := gb112) (o := .cells #[.int .i64 20, .int .u8 t111, .string (⟨#[]⟩ : ByteArray), .int .u64 a1, .bool false, .slice none 0 0] 31 (0, 0)) (by (with_reducible repeat (first | refine blk_drewN ?_ _ | refine blk_drew ?_ | refine blk_alloc ?_ _)); exact BK112.out) hb); have n2_ := Aside0.mk (below_step (by repeat (first | (with_reducible first | exact HB.out | apply below_alloc | apply pw_below_drewN | apply below_drew1 | refine below_set ?_ GE112.out) | exact HB.out)) hb); clear HO116; clear BK112; clear HB; have HO116 := n0_; have BK112 := n1_; have HB := n2_; clear n0_ n1_ n2_; (try clear hb); (try clear hb2); (try clear hk); (try clear hi)) | (go_at_call 22; (with_reducible refine (laws_constantIs.calls ((((strOfNums y114) ++ (⟨#[110]⟩ : ByteArray)) ++ t120) ++ (⟨#[95]⟩ : ByteArray)) a2 ((⟨#[45]⟩ : ByteArray) ++ t121) t122 _ (show StrIs _ from ?side1) A28.out).mono ?_); (case side1 => exact Stays.below hT_ (by first | (repeat (first | (with_reducible first | exact HB.out | apply below_alloc | apply pw_below_drewN | apply below_drew1 | refine below_set ?_ GE112.out) | exact HB.out)) | (repeat (first | exact Below.refl _ _ | apply below_drew1 | apply pw_below_drewN)))); rintro e w38 ⟨rfl, hb⟩; have n0_ := Aside0.mk (Kd.R_below (by (with_reducible repeat (first | apply Kd.R_alloc | apply Kd.R_drewN | apply Kd.R_drew)); exact HO116.out) hb); have n1_ := Aside0.mk (blk_below (g := gb112) (o := .cells #[.int .i64 20, .int .u8 t111, .string (⟨#[]⟩ : ByteArray), .int .u64 a1, .bool false, .slice none 0 0] 31 (0, 0)) (by (with_reducible repeat (first | refine blk_drewN ?_ _ | refine blk_drew ?_ | refine blk_alloc ?_ _)); exact BK112.out) hb); have n2_ := Aside0.mk (below_step (by repeat (first | (with_reducible first | exact HB.out | apply below_alloc | apply pw_below_drewN | apply below_drew1 | refine below_set ?_ GE112.out) | exact HB.out)) hb); clear HO116; clear BK112; clear HB; have HO116 := n0_; have BK112 := n1_; have HB := n2_; clear n0_ n1_ n2_; (try clear hb); (try clear hb2); (try clear hk); (try clear hi)))
                        go_ret
                        exact ⟨by first | rfl | (simp [errW_none, errW_some] <;> rfl) | (simp [*, errW_none, errW_some] <;> rfl), by repeat (first | (with_reducible first | exact HB.out | apply below_alloc | apply pw_below_drewN | apply below_drew1 | refine below_set ?_ GE112.out) | exact HB.out)⟩
                      · rw [if_neg c27] at H
                        exact absurd H (by simp)
                    · rw [if_neg c25] at H
                      exact absurd H (by simp)
                  · rw [if_neg c24] at H
                    exact absurd H (by simp)
                · rw [if_neg c22] at H
                  exact absurd H (by simp)
              · replace c21 := Bool.eq_false_iff.mpr c21
                subst c21
                have H1 : (some false) = some r := by rw [if_neg (show ¬ (false = true) by decide)] at H; exact H
                clear H
                have H := H1
                clear H1
                obtain rfl := Option.some.inj H
                have hcz39_0 : wc.cell? ⟨gb112, 0, none⟩ = some (.int .i64 20) := (blk_cell BK112.out 0).trans rfl
                have hcz39_1 : wc.cell? ⟨gb112, 1, none⟩ = some (.int .u8 t111) := (blk_cell BK112.out 1).trans rfl
                have hcz39_2 : wc.cell? ⟨gb112, 2, none⟩ = some (.string (⟨#[]⟩ : ByteArray)) := (blk_cell BK112.out 2).trans rfl
                have hcz39_3 : wc.cell? ⟨gb112, 3, none⟩ = some (.int .u64 a1) := (blk_cell BK112.out 3).trans rfl
                have hcz39_4 : wc.cell? ⟨gb112, 4, none⟩ = some (.bool false) := (blk_cell BK112.out 4).trans rfl
                have hcz39_5 : wc.cell? ⟨gb112, 5, none⟩ = some (.slice none 0 0) := (blk_cell BK112.out 5).trans rfl
                have hfz39_0 := blk_frozen BK112.out 0
                have hfz39_1 := blk_frozen BK112.out 1
                have hfz39_2 := blk_frozen BK112.out 2
                have hfz39_3 := blk_frozen BK112.out 3
                have hfz39_4 := blk_frozen BK112.out 4
                have hfz39_5 := blk_frozen BK112.out 5
                go_wp2_with (first | ((with_reducible refine gate_dst (N := 25) rfl ?_); refine Kd.R_lit (Kd.int .u8) _ 5 ?hg (N := 25) ?hd (xs := ([t111] : List Int)) (inner := [.int .u8 t111]) (ok := fun _ => True) (okp := fun _ => True) ?hr ?hp (fun _ hk => hk) trivial (Below.refl _ _) (Nat.le_refl _) (by simp) ?_; (case hd => rfl); (case hg => rfl); (case hr => first | (go_simp; done) | (go_simp; rfl)); (case hp => exact (Reps.one (show Kd.M (Kd.int .u8) _ _ _ t111 [.int .u8 t111] from rfl) (Reps.none _ _))); intro v115 w40 ho41 hb hg_ hnew_; clear hg_ hnew_; (first | rw [← Ny114.out] at ho41 | (simp only [Int.reduceToNat] at ho41; rw [← Ny114.out] at ho41)); have n0_ := Aside0.mk (Kd.R_lower ho41 (below_size (by repeat (first | (with_reducible first | exact HB.out | apply below_alloc | apply pw_below_drewN | apply below_drew1 | refine below_set ?_ GE112.out) | exact HB.out)))); have n1_ := Aside0.mk (blk_below (g := gb112) (o := .cells #[.int .i64 20, .int .u8 t111, .string (⟨#[]⟩ : ByteArray), .int .u64 a1, .bool false, .slice none 0 0] 31 (0, 0)) (by (with_reducible repeat (first | refine blk_drewN ?_ _ | refine blk_drew ?_ | refine blk_alloc ?_ _)); exact BK112.out) hb); have n2_ := Aside0.mk (below_step (by repeat (first | (with_reducible first | exact HB.out | apply below_alloc | apply pw_below_drewN | apply below_drew1 | refine below_set ?_ GE112.out) | exact HB.out)) hb); clear BK112; clear HB; have HO116 := n0_; have BK112 := n1_; have HB := n2_; clear n0_ n1_ n2_; clear hb ho41; have hcv42 := own_string (P := Tryd.prog) Tryd.underlying27 Tryd.underlying5 Tryd.underlying9 (Kd.own_of_R HO116.out)) | ((with_reducible refine gate_callee (f := 15) rfl ?_); refine goesL_ (some 29) rfl rfl Tryd.func15 (by kernel_rfl) rfl #[.int .u64 a1] rfl (by (try simp only [List.map_toArray, List.map_cons, List.map_nil]); first | done | rfl | (simp only [List.length_drop, List.length_take]; rfl)) ?_; (with_reducible refine (spec_RustHex.calls kj5 a1 t117 _ A16.out).mono ?_); rintro e w43 ⟨rfl, hb⟩; refine ⟨_, rfl, ?_⟩; have n0_ := Aside0.mk (Kd.R_below (by (with_reducible repeat (first | apply Kd.R_alloc | apply Kd.R_drewN | apply Kd.R_drew)); exact HO116.out) hb); have n1_ := Aside0.mk (blk_below (g := gb112) (o := .cells #[.int .i64 20, .int .u8 t111, .string (⟨#[]⟩ : ByteArray), .int .u64 a1, .bool false, .slice none 0 0] 31 (0, 0)) (by (with_reducible repeat (first | refine blk_drewN ?_ _ | refine blk_drew ?_ | refine blk_alloc ?_ _)); exact BK112.out) hb); have n2_ := Aside0.mk (below_step (by repeat (first | (with_reducible first | exact HB.out | apply below_alloc | apply pw_below_drewN | apply below_drew1 | refine below_set ?_ GE112.out) | exact HB.out)) hb); clear HO116; clear BK112; clear HB; have HO116 := n0_; have BK112 := n1_; have HB := n2_; clear n0_ n1_ n2_; (try clear hb); (try clear hb2); (try clear hk); (try clear hi)) | ((with_reducible refine gate_callee (f := 24) rfl ?_); refine goesL_ (some 34) rfl rfl Tryd.func24 (by kernel_rfl) rfl #[.int .u64 a1] rfl (by (try simp only [List.map_toArray, List.map_cons, List.map_nil]); first | done | rfl | (simp only [List.length_drop, List.length_take]; rfl)) ?_; (with_reducible refine (spec_RustDecimal.calls kj5 a1 t118 _ A19.out).mono ?_); rintro e w44 ⟨rfl, hb⟩; refine ⟨_, rfl, ?_⟩; have n0_ := Aside0.mk (Kd.R_below (by (with_reducible repeat (first | apply Kd.R_alloc | apply Kd.R_drewN | apply Kd.R_drew)); exact HO116.out) hb); have n1_ := Aside0.mk (blk_below (g := gb112) (o := .cells #[.int .i64 20, .int .u8 t111, .string (⟨#[]⟩ : ByteArray), .int .u64 a1, .bool false, .slice none 0 0] 31 (0, 0)) (by (with_reducible repeat (first | refine blk_drewN ?_ _ | refine blk_drew ?_ | refine blk_alloc ?_ _)); exact BK112.out) hb); have n2_ := Aside0.mk (below_step (by repeat (first | (with_reducible first | exact HB.out | apply below_alloc | apply pw_below_drewN | apply below_drew1 | refine below_set ?_ GE112.out) | exact HB.out)) hb); clear HO116; clear BK112; clear HB; have HO116 := n0_; have BK112 := n1_; have HB := n2_; clear n0_ n1_ n2_; (try clear hb); (try clear hb2); (try clear hk); (try clear hi)) | ((with_reducible refine gate_callee (f := 22) rfl ?_); refine goesL_ (some 35) rfl rfl Tryd.func22 (by kernel_rfl) rfl #[.string (((strOfNums y114) ++ t117) ++ (⟨#[95]⟩ : ByteArray)), .string a2, .string t118] rfl (by (try simp only [List.map_toArray, List.map_cons, List.map_nil]); first | done | rfl | (simp only [List.length_drop, List.length_take]; rfl)) ?_; (with_reducible refine (laws_constantIs.calls (((strOfNums y114) ++ t117) ++ (⟨#[95]⟩ : ByteArray)) a2 t118 false _ (show StrIs _ from ?side1) A20.out).mono ?_); (case side1 => exact Stays.below hT_ (by first | (repeat (first | (with_reducible first | exact HB.out | apply below_alloc | apply pw_below_drewN | apply below_drew1 | refine below_set ?_ GE112.out) | exact HB.out)) | (repeat (first | exact Below.refl _ _ | apply below_drew1 | apply pw_below_drewN)))); rintro e w45 ⟨rfl, hb⟩; refine ⟨_, rfl, ?_⟩; have n0_ := Aside0.mk (Kd.R_below (by (with_reducible repeat (first | apply Kd.R_alloc | apply Kd.R_drewN | apply Kd.R_drew)); exact HO116.out) hb); have n1_ := Aside0.mk (blk_below (g := gb112) (o := .cells #[.int .i64 20, .int .u8 t111, .string (⟨#[]⟩ : ByteArray), .int .u64 a1, .bool false, .slice none 0 0] 31 (0, 0)) (by (with_reducible repeat (first | refine blk_drewN ?_ _ | refine blk_drew ?_ | refine blk_alloc ?_ _)); exact BK112.out) hb); have n2_ := Aside0.mk (below_step (by repeat (first | (with_reducible first | exact HB.out | apply below_alloc | apply pw_below_drewN | apply below_drew1 | refine below_set ?_ GE112.out) | exact HB.out)) hb); clear HO116; clear BK112; clear HB; have HO116 := n0_; have BK112 := n1_; have HB := n2_; clear n0_ n1_ n2_; (try clear hb); (try clear hb2); (try clear hk); (try clear hi)))
                go_ret
                exact ⟨by first | rfl | (simp [errW_none, errW_some] <;> rfl) | (simp [*, errW_none, errW_some] <;> rfl), by repeat (first | (with_reducible first | exact HB.out | apply below_alloc | apply pw_below_drewN | apply below_drew1 | refine below_set ?_ GE112.out) | exact HB.out)⟩
            · rw [if_neg c18] at H
              exact absurd H (by simp)
          · rw [if_neg c17] at H
            exact absurd H (by simp)

/-- THE ONE PURE STATEMENT of laws_FnConstantSigned: yours. -/
def laws_FnConstantSigned.Pure : Prop := ∀ (a0 : Int) (a1 : Int) (a2 : ByteArray), (Lit.int .i64 a0).wf = true → (Lit.int .u64 a1).wf = true → a2.size ≤ 140737488351232 → ∃ k, laws_FnConstantSigned.f k a0 a1 a2 = some true
theorem laws_FnConstantSigned.walk (P : laws_FnConstantSigned.Pure) (a0 : Int) (a1 : Int) (a2 : ByteArray) (w : World) (hT_ : StrIs w) (w0 : (Lit.int .i64 a0).wf = true) (w1 : (Lit.int .u64 a1).wf = true) (w2 : a2.size ≤ 140737488351232) :
    Calls Tryd.prog 7 #[.int .i64 a0, .int .u64 a1, .string a2] w fun e w' => e = .returned (.bool true) ∧ Below w.heap.size w w' := by
  obtain ⟨k, h⟩ := P a0 a1 a2 w0 w1 w2
  refine (laws_FnConstantSigned.calls k a0 a1 a2 true w hT_ h).mono ?_
  rintro e w' ⟨rfl, hd⟩
  exact ⟨rfl, hd⟩

end Go.Proofs.YtpmlnhddkbgefaaDoor.PFnConstantSigned
