/- Written by a program of this session (wip/tools/myprint.py) with the kit's print: contracts of the functions that one statement reaches; functions that are proved by hand are taken as printed. Conditions: none. -/
import Derived.Test.YtkhbmkccbhkolaaDoorPFnIdentifierUnicodex0
import Derived.Test.YtkhbmkccbhkolaaDoorPFnIdentifierUnicodex1
import Derived.Test.YtkhbmkccbhkolaaDoorPFnIdentifierUnicodex3
namespace Go.Proofs.YtkhbmkccbhkolaaDoor.PFnIdentifierUnicode
open Go.RowKit Go.Proofs.YtkhbmkccbhkolaaDoorW.PrintWords Go.Proofs.YtkhbmkccbhkolaaDoorW.PrintLast Go.Proofs.YtkhbmkccbhkolaaDoorW.PrintMore
attribute [local go_sem] max2_int min2_int max_two min_two max_three min_three max_four min_four   -- for this text's walks alone
set_option linter.unusedVariables false
set_option linter.unusedSimpArgs false

/-! ### laws_FnIdentifierUnicode: function 4 -/
def laws_FnIdentifierUnicode.j0 : Nat → List Int → Int → List Int → Bool → Option (Bool)
  | 0, _, _, _, _ => none
  | k + 1, x0, x1, x2, x16 => if x16 = true then (some true) else ((laws_idAt.f x1 1099511627776).bind fun t146 => (if 0 ≤ (mn (x0.length : Int) 1000) then (if (mn (x0.length : Int) 1000) ≤ (x0.length : Int) then ((spec_AnCharacters.f k (x0.take ((mn (x0.length : Int) 1000) : Int).toNat)).bind fun t148 => ((spec_AnString.f k t148).bind fun t151 => ((spec_IdDisambiguator.f k (IntKind.u64.wrap (t146))).bind fun t152 => ((spec_IdWritten.f k t151).bind fun t153 => (if t152.size + t153.size ≤ 9223372036854775807 then (if (t152 ++ t153).size + (strOfNums x2).size ≤ 9223372036854775807 then ((laws_doorIdentifier.f ((t152 ++ t153) ++ (strOfNums x2)) t146 t151 (strOfNums x2)).bind fun t154 => (some t154)) else (none)) else (none)))))) else (none)) else (none)))
def laws_FnIdentifierUnicode.f (k : Nat) (l0 : List Int) (a1 : Int) (l2 : List Int) : Option (Bool) := if (l0.length : Int) > 2147483647 then (laws_FnIdentifierUnicode.j0 k l0 a1 l2 true) else (laws_FnIdentifierUnicode.j0 k l0 a1 l2 (decide ((l2.length : Int) > 2147483647)))
theorem laws_FnIdentifierUnicode.mono_l : ∀ k, (∀ y0 y1 y2 y3, LeO (laws_FnIdentifierUnicode.j0 k y0 y1 y2 y3) (laws_FnIdentifierUnicode.j0 (k + 1) y0 y1 y2 y3))
  | 0 => fun _ _ _ _ r h => by simp [laws_FnIdentifierUnicode.j0] at h
  | k + 1 => by
    have ih0 := laws_FnIdentifierUnicode.mono_l k
    · intro y0 y1 y2 y3
      unfold laws_FnIdentifierUnicode.j0
      repeat' first
      | (with_reducible exact ih0 _ _ _ _)
      | (with_reducible exact spec_AnCharacters.mono _ _)
      | (with_reducible exact spec_AnString.mono _ _)
      | (with_reducible exact spec_IdDisambiguator.mono _ _)
      | (with_reducible exact spec_IdWritten.mono _ _)
      | (with_reducible exact LeO.refl _)
      | (with_reducible exact LeO.none _)
      | (with_reducible refine LeO.ite ?_ ?_)
      | (with_reducible refine LeO.bind ?_ (fun _ => ?_))
      | exact ih0 _ _ _ _
      | exact spec_AnCharacters.mono _ _
      | exact spec_AnString.mono _ _
      | exact spec_IdDisambiguator.mono _ _
      | exact spec_IdWritten.mono _ _
      | exact LeO.none _
      | refine LeO.ite ?_ ?_
      | refine LeO.bind ?_ (fun _ => ?_)
theorem laws_FnIdentifierUnicode.mono : ∀ a0 a1 a2 k, LeO (laws_FnIdentifierUnicode.f k a0 a1 a2) (laws_FnIdentifierUnicode.f (k + 1) a0 a1 a2) := by
  intro a0 a1 a2 k
  have ih0 := laws_FnIdentifierUnicode.mono_l k
  unfold laws_FnIdentifierUnicode.f
  repeat' first
      | (with_reducible exact ih0 _ _ _ _)
      | (with_reducible exact spec_AnCharacters.mono _ _)
      | (with_reducible exact spec_AnString.mono _ _)
      | (with_reducible exact spec_IdDisambiguator.mono _ _)
      | (with_reducible exact spec_IdWritten.mono _ _)
      | (with_reducible exact LeO.refl _)
      | (with_reducible exact LeO.none _)
      | (with_reducible refine LeO.ite ?_ ?_)
      | (with_reducible refine LeO.bind ?_ (fun _ => ?_))
      | exact ih0 _ _ _ _
      | exact spec_AnCharacters.mono _ _
      | exact spec_AnString.mono _ _
      | exact spec_IdDisambiguator.mono _ _
      | exact spec_IdWritten.mono _ _
      | exact LeO.none _
      | refine LeO.ite ?_ ?_
      | refine LeO.bind ?_ (fun _ => ?_)
def laws_FnIdentifierUnicode.T3 : Bool × List (List Nat × List Nat) := (true, [([], []), ([0], [0]), ([], []), ([], []), ([3], [3]), ([4], [4]), ([2, 5], [2, 5]), ([6, 1], [6]), ([7, 7], [7]), ([1, 8, 0, 1], [1]), ([8, 9, 0, 1, 2, 3, 4, 5, 6, 7, 8, 9], [8])])
def laws_FnIdentifierUnicode.B3 : List Nat := [0, 1, 0, 0, 8, 24, 60, 127, 255, 511, 1023]
theorem laws_FnIdentifierUnicode.tab3 : rtab .any (opsOf Tryd.f4 3) = laws_FnIdentifierUnicode.T3 := by kernel_rfl
theorem laws_FnIdentifierUnicode.bits3 : waitsOk laws_FnIdentifierUnicode.T3.2 laws_FnIdentifierUnicode.B3 = true := by kernel_rfl
def laws_FnIdentifierUnicode.T4 : Bool × List (List Nat × List Nat) := (true, [([], []), ([0], [0]), ([1], [1]), ([], []), ([3, 2], [3]), ([2, 4], [2, 4]), ([], []), ([6], [6]), ([5, 7], [5, 7]), ([], []), ([], []), ([], []), ([11], [11]), ([8, 9, 10, 12, 4], [8, 9, 10, 12]), ([13, 13, 0, 1, 2, 3, 4, 5, 6, 7, 8, 9, 10, 11, 12, 13], [13])])
def laws_FnIdentifierUnicode.B4 : List Nat := [0, 1, 3, 0, 15, 31, 0, 64, 255, 0, 0, 0, 2048, 8191, 16383]
theorem laws_FnIdentifierUnicode.tab4 : rtab .any (opsOf Tryd.f4 4) = laws_FnIdentifierUnicode.T4 := by kernel_rfl
theorem laws_FnIdentifierUnicode.bits4 : waitsOk laws_FnIdentifierUnicode.T4.2 laws_FnIdentifierUnicode.B4 = true := by kernel_rfl
set_option maxHeartbeats 8000000 in
set_option maxRecDepth 100000 in
theorem laws_FnIdentifierUnicode.calls (k : Nat) (A0 : Option Addr) (c0 : Nat) (l0 : List Int) (a1 : Int) (A2 : Option Addr) (c2 : Nat) (l2 : List Int) (r : Bool) (w : World) (hr0 : Kd.C (Kd.int .i64) w A0 l0.length l0) (hc0 : l0.length ≤ c0) (hr2 : Kd.C (Kd.int .u8) w A2 l2.length l2) (hc2 : l2.length ≤ c2) (hT_ : UniIs w) (h : laws_FnIdentifierUnicode.f k l0 a1 l2 = some r) :
    Calls Tryd.prog 4 #[.slice A0 l0.length c0, .int .i64 a1, .slice A2 l2.length c2] w fun e w' => e = .returned (.bool r) ∧ Below w.heap.size w w' := by
  have HR0 := Aside0.mk hr0
  have HC0 := Aside0.mk hc0
  clear hr0 hc0
  have HR2 := Aside0.mk hr2
  have HC2 := Aside0.mk hc2
  clear hr2 hc2
  have HB := Aside0.mk (Below.refl w.heap.size w)
  have H : (if (l0.length : Int) > 2147483647 then (laws_FnIdentifierUnicode.j0 k l0 a1 l2 true) else (laws_FnIdentifierUnicode.j0 k l0 a1 l2 (decide ((l2.length : Int) > 2147483647)))) = some r := h
  clear h
  have HC4 := Aside0.mk H
  clear H
  go_enter Tryd.func4, Tryd.ntmps4
  go_upto_region 1 with (fail)
  go_cut [16] (fun v16 wc => ∃ (kq : Nat) (x16_3 : Bool), v16 = .bool x16_3 ∧ Aside0 (laws_FnIdentifierUnicode.j0 kq l0 a1 l2 x16_3 = some r) ∧ Aside0 (kq ≤ k) ∧ Aside0 (Below w.heap.size w wc))
  case first =>
    have H := HC4.out
    clear HC4
    by_cases c5 : (l0.length : Int) > 2147483647
    · rw [if_pos c5] at H
      have c5b0 : decide (2147483647 < (l0.length : Int)) = true := decide_eq_true c5
      have c5b1 : decide (2147483647 < l0.length) = true := decide_eq_true (by omega)
      clear c5
      (first | rw [c5b0] | (simp only [i64_w, i32_w]; rw [c5b0]) | rw [c5b1] | skip)
      have H' := Aside0.mk H
      clear H
      go_wp2
      go_meet
      case rel => exact ⟨_, (true), (by first | rfl | (simp; done) | (simp [*]; done)), H', ⟨by first | omega | exact Nat.le_refl _⟩, ⟨by repeat (first | (with_reducible first | exact HB.out | apply below_alloc | apply pw_below_drewN | apply below_drew1) | exact HB.out)⟩⟩
    · rw [if_neg c5] at H
      have c5b0 : decide (2147483647 < (l0.length : Int)) = false := decide_eq_false c5
      have c5b1 : decide (2147483647 < l0.length) = false := decide_eq_false (by omega)
      clear c5
      (first | rw [c5b0] | (simp only [i64_w, i32_w]; rw [c5b0]) | rw [c5b1] | skip)
      have H' := Aside0.mk H
      clear H
      go_wp2
      go_meet
      case rel => exact ⟨_, (decide ((l2.length : Int) > 2147483647)), (by first | rfl | (simp; done) | (simp [*]; done)), H', ⟨by first | omega | exact Nat.le_refl _⟩, ⟨by repeat (first | (with_reducible first | exact HB.out | apply below_alloc | apply pw_below_drewN | apply below_drew1) | exact HB.out)⟩⟩
  case rest =>
    clear HC4
    try clear c2
    try clear p2
    try clear c4
    try clear c5
    try clear c5b0
    try clear c5b1
    obtain ⟨kq, x16_3, rfl, HA, HJ3, HB⟩ := hcut
    cases kq with
    | zero => exact absurd HA.out (by simp [laws_FnIdentifierUnicode.j0])
    | succ kj3 =>
      have H := HA.out
      clear HA
      simp only [laws_FnIdentifierUnicode.j0] at H
      by_cases c6 : x16_3 = true
      · subst c6
        have H1 : (some true) = some r := by rw [if_pos rfl] at H; exact H
        clear H
        have H := H1
        clear H1
        obtain rfl := Option.some.inj H
        go_wp2
        go_ret
        exact ⟨by first | rfl | (simp [errW_none, errW_some] <;> rfl) | (simp [*, errW_none, errW_some] <;> rfl), by repeat (first | (with_reducible first | exact HB.out | apply below_alloc | apply pw_below_drewN | apply below_drew1) | exact HB.out)⟩
      · replace c6 := Bool.eq_false_iff.mpr c6
        subst c6
        have H1 : ((laws_idAt.f a1 1099511627776).bind fun t146 => (if 0 ≤ (mn (l0.length : Int) 1000) then (if (mn (l0.length : Int) 1000) ≤ (l0.length : Int) then ((spec_AnCharacters.f kj3 (l0.take ((mn (l0.length : Int) 1000) : Int).toNat)).bind fun t148 => ((spec_AnString.f kj3 t148).bind fun t151 => ((spec_IdDisambiguator.f kj3 (IntKind.u64.wrap (t146))).bind fun t152 => ((spec_IdWritten.f kj3 t151).bind fun t153 => (if t152.size + t153.size ≤ 9223372036854775807 then (if (t152 ++ t153).size + (strOfNums l2).size ≤ 9223372036854775807 then ((laws_doorIdentifier.f ((t152 ++ t153) ++ (strOfNums l2)) t146 t151 (strOfNums l2)).bind fun t154 => (some t154)) else (none)) else (none)))))) else (none)) else (none))) = some r := by rw [if_neg (show ¬ (false = true) by decide)] at H; exact H
        clear H
        have H := H1
        clear H1
        replace H := Option.bind_eq_some_iff.mp H
        obtain ⟨t146, A70, H⟩ := H
        replace H : (if 0 ≤ (mn (l0.length : Int) 1000) then (if (mn (l0.length : Int) 1000) ≤ (l0.length : Int) then ((spec_AnCharacters.f kj3 (l0.take ((mn (l0.length : Int) 1000) : Int).toNat)).bind fun t148 => ((spec_AnString.f kj3 t148).bind fun t151 => ((spec_IdDisambiguator.f kj3 (IntKind.u64.wrap (t146))).bind fun t152 => ((spec_IdWritten.f kj3 t151).bind fun t153 => (if t152.size + t153.size ≤ 9223372036854775807 then (if (t152 ++ t153).size + (strOfNums l2).size ≤ 9223372036854775807 then ((laws_doorIdentifier.f ((t152 ++ t153) ++ (strOfNums l2)) t146 t151 (strOfNums l2)).bind fun t154 => (some t154)) else (none)) else (none)))))) else (none)) else (none)) = some r := H
        have A7 := Aside0.mk A70
        clear A70
        obtain ⟨ji8, hji8⟩ : ∃ j_ : Int, (mn (l0.length : Int) 1000) = j_ := ⟨_, rfl⟩
        replace H : (if 0 ≤ (ji8) then (if (ji8) ≤ (l0.length : Int) then ((spec_AnCharacters.f kj3 (l0.take ((ji8) : Int).toNat)).bind fun t148 => ((spec_AnString.f kj3 t148).bind fun t151 => ((spec_IdDisambiguator.f kj3 (IntKind.u64.wrap (t146))).bind fun t152 => ((spec_IdWritten.f kj3 t151).bind fun t153 => (if t152.size + t153.size ≤ 9223372036854775807 then (if (t152 ++ t153).size + (strOfNums l2).size ≤ 9223372036854775807 then ((laws_doorIdentifier.f ((t152 ++ t153) ++ (strOfNums l2)) t146 t151 (strOfNums l2)).bind fun t154 => (some t154)) else (none)) else (none)))))) else (none)) else (none)) = some r := by first | (rw [hji8] at H; exact H) | (simp only [hji8] at H ⊢; exact H)
        (try rw [hji8] at A7)
        have hji8_ : (if 1000 < (l0.length : Int) then 1000 else (l0.length : Int)) = ji8 := hji8
        by_cases c9 : 0 ≤ (ji8)
        · rw [if_pos c9] at H
          have c9b0 := eq_true c9
          have c9b1 : decide (0 ≤ (ji8)) = true := decide_eq_true c9
          clear c9
          by_cases c10 : (ji8) ≤ (l0.length : Int)
          · rw [if_pos c10] at H
            have c10b0 := eq_true c10
            have c10b1 : decide ((ji8) ≤ (l0.length : Int)) = true := decide_eq_true c10
            clear c10
            replace H := Option.bind_eq_some_iff.mp H
            obtain ⟨t148, A110, H⟩ := H
            replace H : ((spec_AnString.f kj3 t148).bind fun t151 => ((spec_IdDisambiguator.f kj3 (IntKind.u64.wrap (t146))).bind fun t152 => ((spec_IdWritten.f kj3 t151).bind fun t153 => (if t152.size + t153.size ≤ 9223372036854775807 then (if (t152 ++ t153).size + (strOfNums l2).size ≤ 9223372036854775807 then ((laws_doorIdentifier.f ((t152 ++ t153) ++ (strOfNums l2)) t146 t151 (strOfNums l2)).bind fun t154 => (some t154)) else (none)) else (none))))) = some r := H
            have A11 := Aside0.mk A110
            clear A110
            replace H := Option.bind_eq_some_iff.mp H
            obtain ⟨t151, A120, H⟩ := H
            replace H : ((spec_IdDisambiguator.f kj3 (IntKind.u64.wrap (t146))).bind fun t152 => ((spec_IdWritten.f kj3 t151).bind fun t153 => (if t152.size + t153.size ≤ 9223372036854775807 then (if (t152 ++ t153).size + (strOfNums l2).size ≤ 9223372036854775807 then ((laws_doorIdentifier.f ((t152 ++ t153) ++ (strOfNums l2)) t146 t151 (strOfNums l2)).bind fun t154 => (some t154)) else (none)) else (none)))) = some r := H
            have A12 := Aside0.mk A120
            clear A120
            replace H := Option.bind_eq_some_iff.mp H
            obtain ⟨t152, A130, H⟩ := H
            replace H : ((spec_IdWritten.f kj3 t151).bind fun t153 => (if t152.size + t153.size ≤ 9223372036854775807 then (if (t152 ++ t153).size + (strOfNums l2).size ≤ 9223372036854775807 then ((laws_doorIdentifier.f ((t152 ++ t153) ++ (strOfNums l2)) t146 t151 (strOfNums l2)).bind fun t154 => (some t154)) else (none)) else (none))) = some r := H
            have A13 := Aside0.mk A130
            clear A130
            replace H := Option.bind_eq_some_iff.mp H
            obtain ⟨t153, A140, H⟩ := H
            replace H : (if t152.size + t153.size ≤ 9223372036854775807 then (if (t152 ++ t153).size + (strOfNums l2).size ≤ 9223372036854775807 then ((laws_doorIdentifier.f ((t152 ++ t153) ++ (strOfNums l2)) t146 t151 (strOfNums l2)).bind fun t154 => (some t154)) else (none)) else (none)) = some r := H
            have A14 := Aside0.mk A140
            clear A140
            by_cases c15 : t152.size + t153.size ≤ 9223372036854775807
            · rw [if_pos c15] at H
              have c15b0 := eq_true c15
              have c15b1 : decide (t152.size + t153.size ≤ 9223372036854775807) = true := decide_eq_true c15
              try have c15b2 : (9223372036854775807 < t152.size + t153.size) = False := eq_false (Nat.not_lt.2 c15)
              by_cases c16 : (t152 ++ t153).size + (strOfNums l2).size ≤ 9223372036854775807
              · rw [if_pos c16] at H
                have c16b0 := eq_true c16
                have c16b1 : decide ((t152 ++ t153).size + (strOfNums l2).size ≤ 9223372036854775807) = true := decide_eq_true c16
                try have c16b2 : (9223372036854775807 < (t152 ++ t153).size + (strOfNums l2).size) = False := eq_false (Nat.not_lt.2 c16)
                try have c16b4 : (9223372036854775807 < t152.size + t153.size + (strOfNums l2).size) = False := eq_false (by have h_ := c16; (repeat rw [ByteArray.size_append] at h_); exact Nat.not_lt.2 h_)
                replace H := Option.bind_eq_some_iff.mp H
                obtain ⟨t154, A170, H⟩ := H
                replace H : (some t154) = some r := H
                have A17 := Aside0.mk A170
                clear A170
                obtain rfl := Option.some.inj H
                try go_wp2
                have n0_ := Aside0.mk (below_drew1 HB.out)
                clear HB
                have HB := n0_
                clear n0_
                obtain ⟨i019, hi019, _, hsz19, _⟩ := info_parts info3
                obtain ⟨hcut19, hA19, hC19⟩ := print_take_of (P := Tryd.prog) (Value.int .i64) 0 25 3 .i64 Tryd.underlying25 hi019 hsz19 A0 c0 l0 (ji8) (of_decide_eq_true (by first | (with_reducible assumption) | assumption)) (of_decide_eq_true (by first | (with_reducible assumption) | assumption)) HC0.out
                have HR147 := Aside0.mk (Kd.C_of_reads (h1 := fun _ => rfl) (hA19 _ (Kd.reads_of_C HR0.out)))
                have HC147 := Aside0.mk hC19
                clear hA19 hC19 hi019 hsz19
                refine start_ (n := 11) (S := fun w' => True) (ds := []) #[false, false, false, false, false, false, false, false, false, false, false] (by kernel_rfl) rfl rfl trivial (fun hHeld => ?_); refine with_tabW laws_FnIdentifierUnicode.tab3 laws_FnIdentifierUnicode.bits3 (fun HT_ HW_ => ?_)
                generalize wc.drew = w18 at HB HR147 hHeld ⊢
                refine pure_ (i := 0) (N := some 17) (v := ?_) (a' := ?_) #[true, false, false, false, false, false, false, false, false, false, false] rfl rfl (any_of HT_.out (by kernel_rfl)) (fun _ _ _ h => h) (Or.inl ⟨by rfl, ?_⟩) ?_ ?_
                rotate_left
                · intro w'
                  go_simp
                  with_reducible rfl
                rotate_left
                · simp only [Act.put, List.setIfInBounds_toArray, List.set_cons_zero, List.set_cons_succ, i64_w, i32_w]
                  rfl
                refine pure_ (i := 2) (N := some 19) (v := ?_) (a' := ?_) #[true, false, true, false, false, false, false, false, false, false, false] rfl rfl (any_of HT_.out (by kernel_rfl)) (fun _ _ _ h => h) (Or.inl ⟨by rfl, ?_⟩) ?_ ?_
                rotate_left
                · intro w'
                  go_simp
                  with_reducible rfl
                rotate_left
                · simp only [Act.put, List.setIfInBounds_toArray, List.set_cons_zero, List.set_cons_succ, i64_w, i32_w]
                  rfl
                refine pure_ (i := 3) (N := some 20) (v := ?_) (a' := ?_) #[true, false, true, true, false, false, false, false, false, false, false] rfl rfl (any_of HT_.out (by kernel_rfl)) (fun _ _ _ h => h) (Or.inl ⟨by rfl, ?_⟩) ?_ ?_
                rotate_left
                · intro w'
                  go_simp
                  with_reducible rfl
                rotate_left
                · simp only [Act.put, List.setIfInBounds_toArray, List.set_cons_zero, List.set_cons_succ, i64_w, i32_w]
                  rfl
                refine pure_ (i := 4) (N := some 21) (v := ?_) (a' := ?_) #[true, false, true, true, true, false, false, false, false, false, false] rfl rfl (any_of HT_.out (by kernel_rfl)) (fun _ _ _ h => h) (Or.inl ⟨by rfl, ?_⟩) ?_ ?_
                rotate_left
                · intro w'
                  go_simp
                  with_reducible rfl
                rotate_left
                · simp only [Act.put, List.setIfInBounds_toArray, List.set_cons_zero, List.set_cons_succ, i64_w, i32_w]
                  rfl
                refine pure_ (i := 5) (N := some 22) (v := ?_) (a' := ?_) #[true, false, true, true, true, true, false, false, false, false, false] rfl rfl (any_of HT_.out (by kernel_rfl)) (fun _ _ _ h => h) (Or.inl ⟨by rfl, ?_⟩) ?_ ?_
                rotate_left
                · intro w'
                  go_simp
                  with_reducible rfl
                rotate_left
                · simp only [Act.put, List.setIfInBounds_toArray, List.set_cons_zero, List.set_cons_succ, i64_w, i32_w]
                  rfl
                refine pure_ (i := 6) (N := some 23) (v := ?_) (a' := ?_) #[true, false, true, true, true, true, true, false, false, false, false] rfl rfl (any_of HT_.out (by kernel_rfl)) (fun _ _ _ h => h) (Or.inl ⟨by rfl, ?_⟩) ?_ ?_
                rotate_left
                · intro w'
                  go_simp
                  with_reducible rfl
                rotate_left
                · simp only [Act.put, List.setIfInBounds_toArray, List.set_cons_zero, List.set_cons_succ, i64_w, i32_w]
                  rfl
                refine one_ (i := 1) (N := some 18) #[true, true, true, true, true, true, true, false, false, false, false] rfl rfl (one_of HT_.out (by kernel_rfl)) (by decide) (fun K hK => ?_)
                refine goes_ Tryd.func10 (by kernel_rfl) rfl #[.int .i64 a1, .int .i64 1099511627776] (by rfl) rfl rfl (by (try simp only [List.map_toArray, List.map_cons, List.map_nil]); first | done | rfl | (simp only [List.length_drop, List.length_take]; rfl)) ?_
                with_reducible refine (laws_idAt.calls a1 1099511627776 t146 _ A7.out).mono ?_
                rintro e w' ⟨rfl, ⟨nd, rfl⟩⟩
                refine ⟨_, rfl, ?_⟩
                refine hK.out _ _ trivial (fun hHeld => ?_)
                clear hK K
                refine norm_ (a' := ?_) ?_ ?_
                rotate_left
                · show Act.put _ (some 18) _ = _
                  simp only [Act.put, List.setIfInBounds_toArray, List.set_cons_zero, List.set_cons_succ, i64_w, i32_w]
                  rfl
                refine one_ (i := 7) (N := some 24) #[true, true, true, true, true, true, true, true, false, false, false] rfl rfl (one_of HT_.out (by kernel_rfl)) (by decide) (fun K hK => ?_)
                refine goes_ Tryd.func9 (by kernel_rfl) rfl #[.slice A0 (l0.take ((ji8) : Int).toNat).length c0] (by rfl) rfl rfl (by (try simp only [List.map_toArray, List.map_cons, List.map_nil]); first | done | (rw [show (l0.take ((ji8) : Int).toNat).length = (ji8).toNat from (by rw [List.length_take]; have h_ : ((ji8) : Int) ≤ (l0.length : Int) := of_decide_eq_true (by first | (with_reducible assumption) | assumption); omega)] <;> rfl) | (simp only [hji8]; rfl) | rfl | (simp only [List.length_drop, List.length_take]; rfl)) ?_
                with_reducible refine (spec_AnCharacters.calls kj3 _ _ (l0.take ((ji8) : Int).toNat) t148 _ ?side1 ?side2 A11.out).mono ?_
                (case side1 => repeat (first | exact (Kd.C_below HR147.out (by repeat (first | (with_reducible first | exact HB.out | apply below_alloc | apply pw_below_drewN | apply below_drew1) | exact HB.out))) | (with_reducible refine Kd.C_alloc ?_ _) | (with_reducible refine Kd.C_drewN ?_ _) | (with_reducible refine Kd.C_drew ?_)))
                (case side2 => exact HC147.out)
                rintro e w20 ⟨v149, rfl, ho0, hb⟩
                refine ⟨_, rfl, ?_⟩
                have n0_ := Aside0.mk (Kd.R_lower ho0 (below_size (by repeat (first | (with_reducible first | exact HB.out | apply below_alloc | apply pw_below_drewN | apply below_drew1) | exact HB.out))))
                have n1_ := Aside0.mk (below_step (by repeat (first | (with_reducible first | exact HB.out | apply below_alloc | apply pw_below_drewN | apply below_drew1) | exact HB.out)) hb)
                clear HB
                have HO150 := n0_
                have HB := n1_
                clear n0_ n1_
                (try clear hb)
                (try clear hb2)
                (try clear hk)
                (try clear hi)
                (try clear ho0)
                obtain ⟨Ao21, co21, eo21⟩ := Kd.R_slice HO150.out
                (first | subst eo21 | (injection eo21 with f1_ f2_ f3_; have f4_ := f1_.symm; have f5_ := f3_.symm; clear f1_ f2_ f3_; subst f4_; subst f5_))
                refine hK.out _ _ trivial (fun hHeld => ?_)
                clear hK K
                refine norm_ (a' := ?_) ?_ ?_
                rotate_left
                · show Act.put _ (some 24) _ = _
                  simp only [Act.put, List.setIfInBounds_toArray, List.set_cons_zero, List.set_cons_succ, i64_w, i32_w]
                  rfl
                refine one_ (i := 8) (N := some 25) #[true, true, true, true, true, true, true, true, true, false, false] rfl rfl (one_of HT_.out (by kernel_rfl)) (by decide) (fun K hK => ?_)
                refine goes_ Tryd.func8 (by kernel_rfl) rfl #[.slice Ao21 t148.length co21] (by rfl) rfl rfl (by (try simp only [List.map_toArray, List.map_cons, List.map_nil]); first | done | rfl | (simp only [List.length_drop, List.length_take]; rfl)) ?_
                with_reducible refine (spec_AnString.calls kj3 _ _ t148 t151 _ ?side1 ?side2 A12.out).mono ?_
                (case side1 => repeat (first | exact (Kd.R_reads' HO150.out).2.2 | (with_reducible refine Kd.C_alloc ?_ _) | (with_reducible refine Kd.C_drewN ?_ _) | (with_reducible refine Kd.C_drew ?_)))
                (case side2 => exact (Kd.R_reads' HO150.out).2.1)
                rintro e w' ⟨rfl, ⟨nd, rfl⟩⟩
                refine ⟨_, rfl, ?_⟩
                refine hK.out _ _ trivial (fun hHeld => ?_)
                clear hK K
                refine norm_ (a' := ?_) ?_ ?_
                rotate_left
                · show Act.put _ (some 25) _ = _
                  simp only [Act.put, List.setIfInBounds_toArray, List.set_cons_zero, List.set_cons_succ, i64_w, i32_w]
                  rfl
                refine pure_ (i := 9) (N := some 7) (v := ?_) (a' := ?_) #[true, true, true, true, true, true, true, true, true, true, false] rfl rfl (any_of HT_.out (by kernel_rfl)) (fun _ _ _ h => h) (Or.inl ⟨by rfl, ?_⟩) ?_ ?_
                rotate_left
                · intro w'
                  go_simp
                  with_reducible rfl
                rotate_left
                · simp only [Act.put, List.setIfInBounds_toArray, List.set_cons_zero, List.set_cons_succ, i64_w, i32_w]
                  rfl
                refine pure_ (i := 10) (N := some 8) (v := ?_) (a' := ?_) #[true, true, true, true, true, true, true, true, true, true, true] rfl rfl (any_of HT_.out (by kernel_rfl)) (fun _ _ _ h => h) (Or.inl ⟨by rfl, ?_⟩) ?_ ?_
                rotate_left
                · intro w'
                  go_simp
                  with_reducible rfl
                rotate_left
                · simp only [Act.put, List.setIfInBounds_toArray, List.set_cons_zero, List.set_cons_succ, i64_w, i32_w]
                  rfl
                refine done_ (done_of HT_.out (by kernel_rfl)) ?_
                try go_wp2
                (try (rw [drewN_self w20]; generalize hq_ : World.drewN w20 _ = w20; have n0_ : Aside0 (Kd.R (Kd.int .i64) 3 w20 w.heap.size (fun _ => True) (.slice Ao21 t148.length co21) t148) := ⟨by rw [← hq_]; exact (by (with_reducible repeat (first | apply Kd.R_alloc | apply Kd.R_drewN | apply Kd.R_drew)); exact HO150.out)⟩; have n1_ : Aside0 (Below w.heap.size w w20) := ⟨by rw [← hq_]; exact (by repeat (first | (with_reducible first | exact HB.out | apply below_alloc | apply pw_below_drewN | apply below_drew1) | exact HB.out))⟩; clear HO150 HB hq_; have HO150 := n0_; have HB := n1_; clear n0_ n1_))
                have n0_ := Aside0.mk (Kd.R_drew HO150.out)
                have n1_ := Aside0.mk (below_drew1 HB.out)
                clear HO150
                clear HB
                have HO150 := n0_
                have HB := n1_
                clear n0_ n1_
                refine start_ (n := 15) (S := fun w' => (convert 22 9 (.slice A2 l2.length c2)).run Tryd.prog w' = .ok (.string (strOfNums l2)) w') (ds := []) #[false, false, false, false, false, false, false, false, false, false, false, false, false, false, false] (by kernel_rfl) rfl rfl (Kd.C_string (P := Tryd.prog) (A := A2) (c := c2) Tryd.underlying22 Tryd.underlying5 Tryd.underlying9 (Kd.C_below HR2.out HB.out)) (fun hHeld => ?_); refine with_tabW laws_FnIdentifierUnicode.tab4 laws_FnIdentifierUnicode.bits4 (fun HT_ HW_ => ?_)
                generalize w20.drew = w22 at HO150 HB hHeld ⊢
                refine pure_ (i := 0) (N := some 26) (v := ?_) (a' := ?_) #[true, false, false, false, false, false, false, false, false, false, false, false, false, false, false] rfl rfl (any_of HT_.out (by kernel_rfl)) (fun _ _ _ h => h) (Or.inl ⟨by rfl, ?_⟩) ?_ ?_
                rotate_left
                · intro w'
                  go_simp
                  with_reducible rfl
                rotate_left
                · simp only [Act.put, List.setIfInBounds_toArray, List.set_cons_zero, List.set_cons_succ, i64_w, i32_w]
                  rfl
                refine pure_ (i := 1) (N := some 27) (v := ?_) (a' := ?_) #[true, true, false, false, false, false, false, false, false, false, false, false, false, false, false] rfl rfl (any_of HT_.out (by kernel_rfl)) (fun _ _ _ h => h) (Or.inl ⟨by rfl, ?_⟩) ?_ ?_
                rotate_left
                · intro w'
                  go_simp
                  with_reducible rfl
                rotate_left
                · simp only [Act.put, List.setIfInBounds_toArray, List.set_cons_zero, List.set_cons_succ, i64_w, i32_w]
                  rfl
                refine pure_ (i := 3) (N := some 29) (v := ?_) (a' := ?_) #[true, true, false, true, false, false, false, false, false, false, false, false, false, false, false] rfl rfl (any_of HT_.out (by kernel_rfl)) (fun _ _ _ h => h) (Or.inl ⟨by rfl, ?_⟩) ?_ ?_
                rotate_left
                · intro w'
                  go_simp
                  with_reducible rfl
                rotate_left
                · simp only [Act.put, List.setIfInBounds_toArray, List.set_cons_zero, List.set_cons_succ, i64_w, i32_w]
                  rfl
                refine pure_ (i := 6) (N := some 32) (v := ?_) (a' := ?_) #[true, true, false, true, false, false, true, false, false, false, false, false, false, false, false] rfl rfl (any_of HT_.out (by kernel_rfl)) (fun _ _ _ h => h) (Or.inl ⟨by rfl, ?_⟩) ?_ ?_
                rotate_left
                · intro w'
                  go_simp
                  with_reducible rfl
                rotate_left
                · simp only [Act.put, List.setIfInBounds_toArray, List.set_cons_zero, List.set_cons_succ, i64_w, i32_w]
                  rfl
                refine take_ (i := 7) (N := some 33) (v := ?_) (a' := ?_) #[true, true, false, true, false, false, true, true, false, false, false, false, false, false, false] rfl rfl (take_ofW HT_.out HW_.out (by kernel_rfl)) (fun _ _ _ h => h) (Or.inl ⟨by rfl, ?_⟩) hHeld ?_ ?_
                rotate_left
                · intro w' s0
                  go_simp
                  with_reducible rfl
                rotate_left
                · simp only [Act.put, List.setIfInBounds_toArray, List.set_cons_zero, List.set_cons_succ, i64_w, i32_w]
                  rfl
                refine pure_ (i := 9) (N := some 35) (v := ?_) (a' := ?_) #[true, true, false, true, false, false, true, true, false, true, false, false, false, false, false] rfl rfl (any_of HT_.out (by kernel_rfl)) (fun _ _ _ h => h) (Or.inl ⟨by rfl, ?_⟩) ?_ ?_
                rotate_left
                · intro w'
                  go_simp
                  with_reducible rfl
                rotate_left
                · simp only [Act.put, List.setIfInBounds_toArray, List.set_cons_zero, List.set_cons_succ, i64_w, i32_w]
                  rfl
                refine pure_ (i := 10) (N := some 36) (v := ?_) (a' := ?_) #[true, true, false, true, false, false, true, true, false, true, true, false, false, false, false] rfl rfl (any_of HT_.out (by kernel_rfl)) (fun _ _ _ h => h) (Or.inl ⟨by rfl, ?_⟩) ?_ ?_
                rotate_left
                · intro w'
                  go_simp
                  with_reducible rfl
                rotate_left
                · simp only [Act.put, List.setIfInBounds_toArray, List.set_cons_zero, List.set_cons_succ, i64_w, i32_w]
                  rfl
                refine pure_ (i := 11) (N := some 37) (v := ?_) (a' := ?_) #[true, true, false, true, false, false, true, true, false, true, true, true, false, false, false] rfl rfl (any_of HT_.out (by kernel_rfl)) (fun _ _ _ h => h) (Or.inl ⟨by rfl, ?_⟩) ?_ ?_
                rotate_left
                · intro w'
                  go_simp
                  with_reducible rfl
                rotate_left
                · simp only [Act.put, List.setIfInBounds_toArray, List.set_cons_zero, List.set_cons_succ, i64_w, i32_w]
                  rfl
                refine take_ (i := 12) (N := some 38) (v := ?_) (a' := ?_) #[true, true, false, true, false, false, true, true, false, true, true, true, true, false, false] rfl rfl (take_ofW HT_.out HW_.out (by kernel_rfl)) (fun _ _ _ h => h) (Or.inl ⟨by rfl, ?_⟩) hHeld ?_ ?_
                rotate_left
                · intro w' s0
                  go_simp
                  with_reducible rfl
                rotate_left
                · simp only [Act.put, List.setIfInBounds_toArray, List.set_cons_zero, List.set_cons_succ, i64_w, i32_w]
                  rfl
                refine one_ (i := 2) (N := some 28) #[true, true, true, true, false, false, true, true, false, true, true, true, true, false, false] rfl rfl (one_of HT_.out (by kernel_rfl)) (by decide) (fun K hK => ?_)
                refine goes_ Tryd.func14 (by kernel_rfl) rfl #[.int .u64 (IntKind.u64.wrap (t146))] (by rfl) rfl rfl (by (try simp only [List.map_toArray, List.map_cons, List.map_nil]); first | done | rfl | (simp only [List.length_drop, List.length_take]; rfl)) ?_
                with_reducible refine (spec_IdDisambiguator.calls kj3 (IntKind.u64.wrap (t146)) t152 _ A13.out).mono ?_
                rintro e w' ⟨rfl, ⟨nd, rfl⟩⟩
                refine ⟨_, rfl, ?_⟩
                refine hK.out _ _ (Kd.C_string (P := Tryd.prog) (A := A2) (c := c2) Tryd.underlying22 Tryd.underlying5 Tryd.underlying9 (Kd.C_drewN (Kd.C_below HR2.out HB.out) nd)) (fun hHeld => ?_)
                clear hK K
                refine norm_ (a' := ?_) ?_ ?_
                rotate_left
                · show Act.put _ (some 28) _ = _
                  simp only [Act.put, List.setIfInBounds_toArray, List.set_cons_zero, List.set_cons_succ, i64_w, i32_w]
                  rfl
                refine one_ (i := 4) (N := some 30) #[true, true, true, true, true, false, true, true, false, true, true, true, true, false, false] rfl rfl (one_of HT_.out (by kernel_rfl)) (by decide) (fun K hK => ?_)
                refine goes_ Tryd.func15 (by kernel_rfl) rfl #[.string t151] (by rfl) rfl rfl (by (try simp only [List.map_toArray, List.map_cons, List.map_nil]); first | done | rfl | (simp only [List.length_drop, List.length_take]; rfl)) ?_
                with_reducible refine (spec_IdWritten.calls kj3 t151 t153 _ (show UniIs _ from ?side1) A14.out).mono ?_
                (case side1 => exact Stays.below hT_ (by first | (repeat (first | (with_reducible first | exact HB.out | apply below_alloc | apply pw_below_drewN | apply below_drew1) | exact HB.out)) | (repeat (first | exact Below.refl _ _ | apply below_drew1 | apply pw_below_drewN))))
                rintro e w23 ⟨rfl, hb⟩
                refine ⟨_, rfl, ?_⟩
                have n0_ := Aside0.mk (Kd.R_below (by (with_reducible repeat (first | apply Kd.R_alloc | apply Kd.R_drewN | apply Kd.R_drew)); exact HO150.out) hb)
                have n1_ := Aside0.mk (below_step (by repeat (first | (with_reducible first | exact HB.out | apply below_alloc | apply pw_below_drewN | apply below_drew1) | exact HB.out)) hb)
                clear HO150
                clear HB
                have HO150 := n0_
                have HB := n1_
                clear n0_ n1_
                (try clear hb)
                (try clear hb2)
                (try clear hk)
                (try clear hi)
                have hcv24 := Kd.C_string (P := Tryd.prog) (A := A2) (c := c2) Tryd.underlying22 Tryd.underlying5 Tryd.underlying9 (Kd.C_below HR2.out HB.out)
                have hcvn24 := fun (nq_ : Nat) => Kd.C_string (P := Tryd.prog) (A := A2) (c := c2) Tryd.underlying22 Tryd.underlying5 Tryd.underlying9 (Kd.C_drewN ((Kd.C_below HR2.out HB.out)) nq_)
                have hcv25 := Kd.C_string (P := Tryd.prog) (A := A2) (c := c2) Tryd.underlying22 Tryd.underlying5 Tryd.underlying9 (Kd.C_below HR2.out HB.out)
                have hcvn25 := fun (nq_ : Nat) => Kd.C_string (P := Tryd.prog) (A := A2) (c := c2) Tryd.underlying22 Tryd.underlying5 Tryd.underlying9 (Kd.C_drewN ((Kd.C_below HR2.out HB.out)) nq_)
                refine hK.out _ _ (Kd.C_string (P := Tryd.prog) (A := A2) (c := c2) Tryd.underlying22 Tryd.underlying5 Tryd.underlying9 (Kd.C_below HR2.out HB.out)) (fun hHeld => ?_)
                clear hK K
                refine norm_ (a' := ?_) ?_ ?_
                rotate_left
                · show Act.put _ (some 30) _ = _
                  simp only [Act.put, List.setIfInBounds_toArray, List.set_cons_zero, List.set_cons_succ, i64_w, i32_w]
                  rfl
                refine pure_ (i := 5) (N := some 31) (v := ?_) (a' := ?_) #[true, true, true, true, true, true, true, true, false, true, true, true, true, false, false] rfl rfl (any_of HT_.out (by kernel_rfl)) (fun _ _ _ h => h) (Or.inl ⟨by rfl, ?_⟩) ?_ ?_
                rotate_left
                · intro w'
                  go_simp
                  with_reducible rfl
                rotate_left
                · simp only [Act.put, List.setIfInBounds_toArray, List.set_cons_zero, List.set_cons_succ, i64_w, i32_w]
                  rfl
                refine pure_ (i := 8) (N := some 34) (v := ?_) (a' := ?_) #[true, true, true, true, true, true, true, true, true, true, true, true, true, false, false] rfl rfl (any_of HT_.out (by kernel_rfl)) (fun _ _ _ h => h) (Or.inl ⟨by rfl, ?_⟩) ?_ ?_
                rotate_left
                · intro w'
                  go_simp
                  with_reducible rfl
                rotate_left
                · simp only [Act.put, List.setIfInBounds_toArray, List.set_cons_zero, List.set_cons_succ, i64_w, i32_w]
                  rfl
                refine one_ (i := 13) (N := some 39) #[true, true, true, true, true, true, true, true, true, true, true, true, true, true, false] rfl rfl (one_of HT_.out (by kernel_rfl)) (by decide) (fun K hK => ?_)
                refine goes_ Tryd.func13 (by kernel_rfl) rfl #[.string ((t152 ++ t153) ++ (strOfNums l2)), .int .i64 t146, .string t151, .string (strOfNums l2)] (by rfl) rfl rfl (by (try simp only [List.map_toArray, List.map_cons, List.map_nil]); first | done | rfl | (simp only [List.length_drop, List.length_take]; rfl)) ?_
                with_reducible refine (laws_doorIdentifier.calls ((t152 ++ t153) ++ (strOfNums l2)) t146 t151 (strOfNums l2) t154 _ A17.out).mono ?_
                rintro e w27 ⟨rfl, hb⟩
                refine ⟨_, rfl, ?_⟩
                have n0_ := Aside0.mk (Kd.R_below (by (with_reducible repeat (first | apply Kd.R_alloc | apply Kd.R_drewN | apply Kd.R_drew)); exact HO150.out) hb)
                have n1_ := Aside0.mk (below_step (by repeat (first | (with_reducible first | exact HB.out | apply below_alloc | apply pw_below_drewN | apply below_drew1) | exact HB.out)) hb)
                clear HO150
                clear HB
                have HO150 := n0_
                have HB := n1_
                clear n0_ n1_
                (try clear hb)
                (try clear hb2)
                (try clear hk)
                (try clear hi)
                refine hK.out _ _ (Kd.C_string (P := Tryd.prog) (A := A2) (c := c2) Tryd.underlying22 Tryd.underlying5 Tryd.underlying9 (Kd.C_below HR2.out HB.out)) (fun hHeld => ?_)
                clear hK K
                refine norm_ (a' := ?_) ?_ ?_
                rotate_left
                · show Act.put _ (some 39) _ = _
                  simp only [Act.put, List.setIfInBounds_toArray, List.set_cons_zero, List.set_cons_succ, i64_w, i32_w]
                  rfl
                refine pure_ (i := 14) (N := some 6) (v := ?_) (a' := ?_) #[true, true, true, true, true, true, true, true, true, true, true, true, true, true, true] rfl rfl (any_of HT_.out (by kernel_rfl)) (fun _ _ _ h => h) (Or.inl ⟨by rfl, ?_⟩) ?_ ?_
                rotate_left
                · intro w'
                  go_simp
                  with_reducible rfl
                rotate_left
                · simp only [Act.put, List.setIfInBounds_toArray, List.set_cons_zero, List.set_cons_succ, i64_w, i32_w]
                  rfl
                refine done_ (done_of HT_.out (by kernel_rfl)) ?_
                try go_wp2
                go_ret
                exact ⟨by first | rfl | (simp [errW_none, errW_some] <;> rfl) | (simp only [← hji8]; first | rfl | (simp [errW_none, errW_some] <;> rfl)) | (simp [*, errW_none, errW_some] <;> rfl), by repeat (first | (with_reducible first | exact HB.out | apply below_alloc | apply pw_below_drewN | apply below_drew1) | exact HB.out)⟩
              · rw [if_neg c16] at H
                exact absurd H (by simp)
            · rw [if_neg c15] at H
              exact absurd H (by simp)
          · rw [if_neg c10] at H
            exact absurd H (by simp)
        · rw [if_neg c9] at H
          exact absurd H (by simp)

/-- THE ONE PURE STATEMENT of laws_FnIdentifierUnicode: yours. -/
def laws_FnIdentifierUnicode.Pure : Prop := ∀ (l0 : List Int) (a1 : Int) (l2 : List Int), l0.length ≤ maxLen → l0.length * 8 ≤ 140737488351232 → (∀ x ∈ l0, (Lit.int .i64 x).wf = true) → (Lit.int .i64 a1).wf = true → l2.length ≤ maxLen → l2.length * 1 ≤ 140737488351232 → (∀ x ∈ l2, (Lit.int .u8 x).wf = true) → ∃ k, laws_FnIdentifierUnicode.f k l0 a1 l2 = some true
theorem laws_FnIdentifierUnicode.walk (P : laws_FnIdentifierUnicode.Pure) (a0 : Option Addr) (len0 cap0 : Nat) (z0 : List Int) (a1 : Int) (a2 : Option Addr) (len2 cap2 : Nat) (z2 : List Int) (w : World) (hT_ : UniIs w) (w0 : (a0 = none ∧ len0 = 0 ∧ cap0 = 0 ∧ z0 = []) ∨ ∃ x, a0 = some x ∧ len0 ≤ cap0 ∧ cap0 ≤ maxLen ∧ z0.length = cap0 ∧ (∀ i, i < z0.length → w.cell? (x.add i) = some (.int .i64 (z0.getD i 0))) ∧ ∀ n ∈ z0, (Lit.int .i64 n).wf = true) (y0 : len0 * 8 ≤ 140737488351232) (w1 : (Lit.int .i64 a1).wf = true) (w2 : (a2 = none ∧ len2 = 0 ∧ cap2 = 0 ∧ z2 = []) ∨ ∃ x, a2 = some x ∧ len2 ≤ cap2 ∧ cap2 ≤ maxLen ∧ z2.length = cap2 ∧ (∀ i, i < z2.length → w.cell? (x.add i) = some (.int .u8 (z2.getD i 0))) ∧ ∀ n ∈ z2, (Lit.int .u8 n).wf = true) (y2 : len2 * 1 ≤ 140737488351232) :
    Calls Tryd.prog 4 #[.slice a0 len0 cap0, .int .i64 a1, .slice a2 len2 cap2] w fun e w' => e = .returned (.bool true) ∧ Below w.heap.size w w' := by
  obtain ⟨l0, rfl, hr0, hm0, hw0, hc0⟩ := ReadsInt.ofRowC w0
  obtain ⟨l2, rfl, hr2, hm2, hw2, hc2⟩ := ReadsInt.ofRowC w2
  obtain ⟨k, h⟩ := P l0 a1 l2 hm0 y0 hw0 w1 hm2 y2 hw2
  refine (laws_FnIdentifierUnicode.calls k _ _ l0 a1 _ _ l2 true w (Kd.C_of_reads (d := (0 : Int)) (h1 := fun _ => rfl) hr0) hc0 (Kd.C_of_reads (d := (0 : Int)) (h1 := fun _ => rfl) hr2) hc2 hT_ h).mono ?_
  rintro e w' ⟨rfl, hd⟩
  exact ⟨rfl, hd⟩

end Go.Proofs.YtkhbmkccbhkolaaDoor.PFnIdentifierUnicode
