/- Written by a program of this session (wip/tools/myprint.py) with the kit's print: contracts of the functions that one statement reaches; functions that are proved by hand are taken as printed. Conditions: none. -/
import Derived.Test.YtfblehpiecialaaPFnBase62Digitsx0
namespace Go.Proofs.Ytfblehpiecialaa.PFnBase62Digits
open Go.RowKit Go.Proofs.YtfblehpiecialaaW.PrintWords Go.Proofs.YtfblehpiecialaaW.PrintLast Go.Proofs.YtfblehpiecialaaW.PrintMore
attribute [local go_sem] max2_int min2_int max_two min_two max_three min_three max_four min_four   -- for this text's walks alone
set_option linter.unusedVariables false
set_option linter.unusedSimpArgs false

/-! ### laws_doorNumber: function 10 -/
def laws_doorNumber.f (a0 : ByteArray) (a1 : Int) (a2 : ByteArray) : Option (Bool) := (impl_Base62.f a0).bind fun bt101 => (if bt101.2.2 = true then (if bt101.1 = a1 then (some (bt101.2.1.toList == a2.toList)) else (some false)) else (some false))
set_option maxHeartbeats 8000000 in
set_option maxRecDepth 100000 in
theorem laws_doorNumber.calls (a0 : ByteArray) (a1 : Int) (a2 : ByteArray) (r : Bool) (w : World) (h : laws_doorNumber.f a0 a1 a2 = some r) :
    Calls Try.prog 10 #[.string a0, .int .i64 a1, .string a2] w fun e w' => e = .returned (.bool r) ∧ Below w.heap.size w w' := by
  have HB := Aside0.mk (Below.refl w.heap.size w)
  have H : ((impl_Base62.f a0).bind fun bt101 => (if bt101.2.2 = true then (if bt101.1 = a1 then (some (bt101.2.1.toList == a2.toList)) else (some false)) else (some false))) = some r := h
  clear h
  replace H := Option.bind_eq_some_iff.mp H
  obtain ⟨⟨t101, t102, t103⟩, A40, H⟩ := H
  replace H : (if t103 = true then (if t101 = a1 then (some (t102.toList == a2.toList)) else (some false)) else (some false)) = some r := H
  have A4 := Aside0.mk A40
  clear A40
  by_cases c5 : t103 = true
  · subst c5
    have H1 : (if t101 = a1 then (some (t102.toList == a2.toList)) else (some false)) = some r := by rw [if_pos rfl] at H; exact H
    clear H
    have H := H1
    clear H1
    by_cases c6 : t101 = a1
    · rw [if_pos c6] at H
      have c6b0 : (t101 == a1) = true := beq_iff_eq.mpr c6
      have c6b1 : (t101 != a1) = false := bne_eq_false_iff_eq.mpr c6
      clear c6
      obtain rfl := Option.some.inj H
      go_enter Try.func10, Try.ntmps10
      go_wp2_with (first | ((with_reducible refine gate_callee (f := 12) rfl ?_); refine goesL_ (some 12) rfl rfl Try.func12 (by kernel_rfl) rfl #[.string a0] rfl (by (try simp only [List.map_toArray, List.map_cons, List.map_nil]); first | done | rfl | (simp only [List.length_drop, List.length_take]; rfl)) ?_; (with_reducible refine (impl_Base62.calls a0 t101 t102 true _ A4.out).mono ?_); rintro e w7 ⟨rfl, hb⟩; refine ⟨_, rfl, ?_⟩; have n0_ := Aside0.mk (below_step (by repeat (first | (with_reducible first | exact HB.out | apply below_alloc | apply pw_below_drewN | apply below_drew1) | exact HB.out)) hb); clear HB; have HB := n0_; clear n0_; (try clear hb); (try clear hb2); (try clear hk); (try clear hi)))
      go_ret
      exact ⟨by first | rfl | (simp [errW_none, errW_some] <;> rfl) | (simp [*, errW_none, errW_some] <;> rfl), by repeat (first | (with_reducible first | exact HB.out | apply below_alloc | apply pw_below_drewN | apply below_drew1) | exact HB.out)⟩
    · rw [if_neg c6] at H
      have c6b0 : (t101 == a1) = false := beq_eq_false_iff_ne.mpr c6
      have c6b1 : (t101 != a1) = true := bne_iff_ne.mpr c6
      obtain rfl := Option.some.inj H
      go_enter Try.func10, Try.ntmps10
      go_wp2_with (first | ((with_reducible refine gate_callee (f := 12) rfl ?_); refine goesL_ (some 12) rfl rfl Try.func12 (by kernel_rfl) rfl #[.string a0] rfl (by (try simp only [List.map_toArray, List.map_cons, List.map_nil]); first | done | rfl | (simp only [List.length_drop, List.length_take]; rfl)) ?_; (with_reducible refine (impl_Base62.calls a0 t101 t102 true _ A4.out).mono ?_); rintro e w8 ⟨rfl, hb⟩; refine ⟨_, rfl, ?_⟩; have n0_ := Aside0.mk (below_step (by repeat (first | (with_reducible first | exact HB.out | apply below_alloc | apply pw_below_drewN | apply below_drew1) | exact HB.out)) hb); clear HB; have HB := n0_; clear n0_; (try clear hb); (try clear hb2); (try clear hk); (try clear hi)))
      go_ret
      exact ⟨by first | rfl | (simp [errW_none, errW_some] <;> rfl) | (simp [*, errW_none, errW_some] <;> rfl), by repeat (first | (with_reducible first | exact HB.out | apply below_alloc | apply pw_below_drewN | apply below_drew1) | exact HB.out)⟩
  · replace c5 := Bool.eq_false_iff.mpr c5
    subst c5
    have H1 : (some false) = some r := by rw [if_neg (show ¬ (false = true) by decide)] at H; exact H
    clear H
    have H := H1
    clear H1
    obtain rfl := Option.some.inj H
    go_enter Try.func10, Try.ntmps10
    go_wp2_with (first | ((with_reducible refine gate_callee (f := 12) rfl ?_); refine goesL_ (some 12) rfl rfl Try.func12 (by kernel_rfl) rfl #[.string a0] rfl (by (try simp only [List.map_toArray, List.map_cons, List.map_nil]); first | done | rfl | (simp only [List.length_drop, List.length_take]; rfl)) ?_; (with_reducible refine (impl_Base62.calls a0 t101 t102 false _ A4.out).mono ?_); rintro e w9 ⟨rfl, hb⟩; refine ⟨_, rfl, ?_⟩; have n0_ := Aside0.mk (below_step (by repeat (first | (with_reducible first | exact HB.out | apply below_alloc | apply pw_below_drewN | apply below_drew1) | exact HB.out)) hb); clear HB; have HB := n0_; clear n0_; (try clear hb); (try clear hb2); (try clear hk); (try clear hi)))
    go_ret
    exact ⟨by first | rfl | (simp [errW_none, errW_some] <;> rfl) | (simp [*, errW_none, errW_some] <;> rfl), by repeat (first | (with_reducible first | exact HB.out | apply below_alloc | apply pw_below_drewN | apply below_drew1) | exact HB.out)⟩

/-! ### laws_FnBase62Digits: function 4 -/
mutual
def laws_FnBase62Digits.j0 : Nat → List Int → List Int → Bool → Option (Bool)
  | 0, _, _, _ => none
  | k + 1, x0, x1, x16 => if x16 = true then (some true) else (laws_FnBase62Digits.l0 k x1 (⟨#[]⟩ : ByteArray) 0 x0 (x0.length : Int) 0)
def laws_FnBase62Digits.l0 : Nat → List Int → ByteArray → Int → List Int → Int → Int → Option (Bool)
  | 0, _, _, _, _, _, _ => none
  | k + 1, x1, x5, x6, x17, x18, x19 => if x19 < x18 then (if 0 ≤ x19 then (if x19 < (x17.length : Int) then (if x19 < 10 then (if 0 ≤ (Int.tmod (rd x17 x19) 62) then (if (Int.tmod (rd x17 x19) 62) ≤ (((Int.tmod (rd x17 x19) 62) + 1) % 256) then (if (((Int.tmod (rd x17 x19) 62) + 1) % 256) ≤ 62 then (if x5.size + ((⟨#[48, 49, 50, 51, 52, 53, 54, 55, 56, 57, 97, 98, 99, 100, 101, 102, 103, 104, 105, 106, 107, 108, 109, 110, 111, 112, 113, 114, 115, 116, 117, 118, 119, 120, 121, 122, 65, 66, 67, 68, 69, 70, 71, 72, 73, 74, 75, 76, 77, 78, 79, 80, 81, 82, 83, 84, 85, 86, 87, 88, 89, 90]⟩ : ByteArray).extract ((Int.tmod (rd x17 x19) 62) : Int).toNat ((((Int.tmod (rd x17 x19) 62) + 1) % 256) : Int).toNat).size ≤ 9223372036854775807 then (laws_FnBase62Digits.l0 k x1 (x5 ++ ((⟨#[48, 49, 50, 51, 52, 53, 54, 55, 56, 57, 97, 98, 99, 100, 101, 102, 103, 104, 105, 106, 107, 108, 109, 110, 111, 112, 113, 114, 115, 116, 117, 118, 119, 120, 121, 122, 65, 66, 67, 68, 69, 70, 71, 72, 73, 74, 75, 76, 77, 78, 79, 80, 81, 82, 83, 84, 85, 86, 87, 88, 89, 90]⟩ : ByteArray).extract ((Int.tmod (rd x17 x19) 62) : Int).toNat ((((Int.tmod (rd x17 x19) 62) + 1) % 256) : Int).toNat)) (wrap64 ((wrap64 (62 * x6)) + (wrap64 (Int.tmod (rd x17 x19) 62)))) x17 x18 (wrap64 (x19 + 1))) else (none)) else (none)) else (none)) else (none)) else (laws_FnBase62Digits.l0 k x1 x5 x6 x17 x18 (wrap64 (x19 + 1)))) else (none)) else (none)) else (if x5.toList = ([] : List UInt8) then (if 1 + (strOfNums x1).size ≤ 9223372036854775807 then ((laws_doorNumber.f ((⟨#[95]⟩ : ByteArray) ++ (strOfNums x1)) 0 (strOfNums x1)).bind fun t105 => (some t105)) else (none)) else (if x5.size + 1 ≤ 9223372036854775807 then (if (x5 ++ (⟨#[95]⟩ : ByteArray)).size + (strOfNums x1).size ≤ 9223372036854775807 then ((laws_doorNumber.f ((x5 ++ (⟨#[95]⟩ : ByteArray)) ++ (strOfNums x1)) (wrap64 (x6 + 1)) (strOfNums x1)).bind fun t106 => (some t106)) else (none)) else (none)))
end
def laws_FnBase62Digits.f (k : Nat) (l0 : List Int) (l1 : List Int) : Option (Bool) := if (l0.length : Int) > 2147483647 then (laws_FnBase62Digits.j0 k l0 l1 true) else (laws_FnBase62Digits.j0 k l0 l1 (decide ((l1.length : Int) > 2147483647)))
theorem laws_FnBase62Digits.mono_l : ∀ k, (∀ y0 y1 y2, LeO (laws_FnBase62Digits.j0 k y0 y1 y2) (laws_FnBase62Digits.j0 (k + 1) y0 y1 y2)) ∧ (∀ y0 y1 y2 y3 y4 y5, LeO (laws_FnBase62Digits.l0 k y0 y1 y2 y3 y4 y5) (laws_FnBase62Digits.l0 (k + 1) y0 y1 y2 y3 y4 y5))
  | 0 => ⟨fun _ _ _ r h => by simp [laws_FnBase62Digits.j0] at h, fun _ _ _ _ _ _ r h => by simp [laws_FnBase62Digits.l0] at h⟩
  | k + 1 => by
    obtain ⟨ih0, ih1⟩ := laws_FnBase62Digits.mono_l k
    refine ⟨?_, ?_⟩
    · intro y0 y1 y2
      unfold laws_FnBase62Digits.j0
      repeat' first
      | (with_reducible exact ih0 _ _ _)
      | (with_reducible exact ih1 _ _ _ _ _ _)
      | (with_reducible exact LeO.refl _)
      | (with_reducible exact LeO.none _)
      | (with_reducible refine LeO.ite ?_ ?_)
      | (with_reducible refine LeO.bind ?_ (fun _ => ?_))
      | exact ih0 _ _ _
      | exact ih1 _ _ _ _ _ _
      | exact LeO.none _
      | refine LeO.ite ?_ ?_
      | refine LeO.bind ?_ (fun _ => ?_)
    · intro y0 y1 y2 y3 y4 y5
      unfold laws_FnBase62Digits.l0
      repeat' first
      | (with_reducible exact ih0 _ _ _)
      | (with_reducible exact ih1 _ _ _ _ _ _)
      | (with_reducible exact LeO.refl _)
      | (with_reducible exact LeO.none _)
      | (with_reducible refine LeO.ite ?_ ?_)
      | (with_reducible refine LeO.bind ?_ (fun _ => ?_))
      | exact ih0 _ _ _
      | exact ih1 _ _ _ _ _ _
      | exact LeO.none _
      | refine LeO.ite ?_ ?_
      | refine LeO.bind ?_ (fun _ => ?_)
theorem laws_FnBase62Digits.mono : ∀ a0 a1 k, LeO (laws_FnBase62Digits.f k a0 a1) (laws_FnBase62Digits.f (k + 1) a0 a1) := by
  intro a0 a1 k
  obtain ⟨ih0, ih1⟩ := laws_FnBase62Digits.mono_l k
  unfold laws_FnBase62Digits.f
  repeat' first
      | (with_reducible exact ih0 _ _ _)
      | (with_reducible exact ih1 _ _ _ _ _ _)
      | (with_reducible exact LeO.refl _)
      | (with_reducible exact LeO.none _)
      | (with_reducible refine LeO.ite ?_ ?_)
      | (with_reducible refine LeO.bind ?_ (fun _ => ?_))
      | exact ih0 _ _ _
      | exact ih1 _ _ _ _ _ _
      | exact LeO.none _
      | refine LeO.ite ?_ ?_
      | refine LeO.bind ?_ (fun _ => ?_)
set_option maxHeartbeats 8000000 in
set_option maxRecDepth 100000 in
theorem laws_FnBase62Digits.calls (k : Nat) (A0 : Option Addr) (c0 : Nat) (l0 : List Int) (A1 : Option Addr) (c1 : Nat) (l1 : List Int) (r : Bool) (w : World) (hr0 : Kd.C (Kd.int .u8) w A0 l0.length l0) (hc0 : l0.length ≤ c0) (hr1 : Kd.C (Kd.int .u8) w A1 l1.length l1) (hc1 : l1.length ≤ c1) (h : laws_FnBase62Digits.f k l0 l1 = some r) :
    Calls Try.prog 4 #[.slice A0 l0.length c0, .slice A1 l1.length c1] w fun e w' => e = .returned (.bool r) ∧ Below w.heap.size w w' := by
  have HR0 := Aside0.mk hr0
  have HC0 := Aside0.mk hc0
  clear hr0 hc0
  have HR1 := Aside0.mk hr1
  have HC1 := Aside0.mk hc1
  clear hr1 hc1
  have HB := Aside0.mk (Below.refl w.heap.size w)
  have H : (if (l0.length : Int) > 2147483647 then (laws_FnBase62Digits.j0 k l0 l1 true) else (laws_FnBase62Digits.j0 k l0 l1 (decide ((l1.length : Int) > 2147483647)))) = some r := h
  clear h
  have HC3 := Aside0.mk H
  clear H
  go_enter Try.func4, Try.ntmps4
  go_upto_region 1 with (fail)
  go_cut [16] (fun v16 wc => ∃ (kq : Nat) (x16_2 : Bool), v16 = .bool x16_2 ∧ Aside0 (laws_FnBase62Digits.j0 kq l0 l1 x16_2 = some r) ∧ Aside0 (kq ≤ k) ∧ Aside0 (Below w.heap.size w wc))
  case first =>
    have H := HC3.out
    clear HC3
    by_cases c4 : (l0.length : Int) > 2147483647
    · rw [if_pos c4] at H
      have c4b0 : decide (2147483647 < (l0.length : Int)) = true := decide_eq_true c4
      have c4b1 : decide (2147483647 < l0.length) = true := decide_eq_true (by omega)
      clear c4
      (first | rw [c4b0] | (simp only [i64_w, i32_w]; rw [c4b0]) | skip)
      have H' := Aside0.mk H
      clear H
      go_wp2
      go_meet
      case rel => exact ⟨_, (true), (by first | rfl | (simp; done) | (simp [*]; done)), H', ⟨by first | omega | exact Nat.le_refl _⟩, ⟨by repeat (first | (with_reducible first | exact HB.out | apply below_alloc | apply pw_below_drewN | apply below_drew1) | exact HB.out)⟩⟩
    · rw [if_neg c4] at H
      have c4b0 : decide (2147483647 < (l0.length : Int)) = false := decide_eq_false c4
      have c4b1 : decide (2147483647 < l0.length) = false := decide_eq_false (by omega)
      clear c4
      (first | rw [c4b0] | (simp only [i64_w, i32_w]; rw [c4b0]) | skip)
      have H' := Aside0.mk H
      clear H
      go_wp2
      go_meet
      case rel => exact ⟨_, (decide ((l1.length : Int) > 2147483647)), (by first | rfl | (simp; done) | (simp [*]; done)), H', ⟨by first | omega | exact Nat.le_refl _⟩, ⟨by repeat (first | (with_reducible first | exact HB.out | apply below_alloc | apply pw_below_drewN | apply below_drew1) | exact HB.out)⟩⟩
  case rest =>
    clear HC3
    try clear c1
    try clear p2
    try clear c4
    try clear c4b0
    try clear c4b1
    obtain ⟨kq, x16_2, rfl, HA, HJ2, HB⟩ := hcut
    cases kq with
    | zero => exact absurd HA.out (by simp [laws_FnBase62Digits.j0])
    | succ kj2 =>
      have H := HA.out
      clear HA
      simp only [laws_FnBase62Digits.j0] at H
      by_cases c5 : x16_2 = true
      · subst c5
        have H1 : (some true) = some r := by rw [if_pos rfl] at H; exact H
        clear H
        have H := H1
        clear H1
        obtain rfl := Option.some.inj H
        go_wp2
        go_ret
        exact ⟨by first | rfl | (simp [errW_none, errW_some] <;> rfl) | (simp [*, errW_none, errW_some] <;> rfl), by repeat (first | (with_reducible first | exact HB.out | apply below_alloc | apply pw_below_drewN | apply below_drew1) | exact HB.out)⟩
      · replace c5 := Bool.eq_false_iff.mpr c5
        subst c5
        have H1 : (laws_FnBase62Digits.l0 kj2 l1 (⟨#[]⟩ : ByteArray) 0 l0 (l0.length : Int) 0) = some r := by rw [if_neg (show ¬ (false = true) by decide)] at H; exact H
        clear H
        have H := H1
        clear H1
        have H' := Aside0.mk H
        clear H
        go_wp2
        go_loopg [5, 6, 19] kj2 (fun kq v5 v6 v19 w' => ∃ (x5_2 : ByteArray) (x6_2 : Int) (x19_2 : Int), v5 = .string x5_2 ∧ v6 = .int .i64 x6_2 ∧ v19 = .int .i64 x19_2 ∧ Aside0 (laws_FnBase62Digits.l0 kq l1 x5_2 x6_2 l0 (l0.length : Int) x19_2 = some r) ∧ Aside0 (kq ≤ kj2) ∧ Aside0 (Below w.heap.size w w'))
        case atStart => exact ⟨((⟨#[]⟩ : ByteArray)), (0), (0), (by first | rfl | (simp; done) | (simp [*]; done)), (by first | rfl | (simp; done) | (simp [*]; done)), (by first | rfl | (simp; done) | (simp [*]; done)), H', ⟨Nat.le_refl _⟩, ⟨by repeat (first | (with_reducible first | exact HB.out | apply below_alloc | apply pw_below_drewN | apply below_drew1) | exact HB.out)⟩⟩
        case round =>
          clear H'
          try clear c1
          try clear p2
          try clear c4
          try clear c4b0
          try clear c4b1
          try clear c5
          try clear p2
          obtain ⟨x5_2, x6_2, x19_2, rfl, rfl, rfl, HA, HK2, HB⟩ := hrel
          cases gk with
          | zero => exact absurd HA.out (by simp [laws_FnBase62Digits.l0])
          | succ k2 =>
            have H := HA.out
            clear HA
            simp only [laws_FnBase62Digits.l0] at H
            by_cases c6 : x19_2 < (l0.length : Int)
            · rw [if_pos c6] at H
              have c6b0 : decide (x19_2 < (l0.length : Int)) = true := decide_eq_true c6
              clear c6
              by_cases c7 : 0 ≤ x19_2
              · rw [if_pos c7] at H
                have c7b0 : decide (0 ≤ x19_2) = true := decide_eq_true c7
                clear c7
                by_cases c8 : x19_2 < (l0.length : Int)
                · rw [if_pos c8] at H
                  have c8b0 : decide (x19_2 < (l0.length : Int)) = true := decide_eq_true c8
                  clear c8
                  by_cases c9 : x19_2 < 10
                  · rw [if_pos c9] at H
                    have c9b0 : decide (x19_2 < 10) = true := decide_eq_true c9
                    clear c9
                    obtain ⟨ji10, hji10⟩ : ∃ j_ : Int, (Int.tmod (rd l0 x19_2) 62) = j_ := ⟨_, rfl⟩
                    replace H : (if 0 ≤ (ji10) then (if (ji10) ≤ (((ji10) + 1) % 256) then (if (((ji10) + 1) % 256) ≤ 62 then (if x5_2.size + ((⟨#[48, 49, 50, 51, 52, 53, 54, 55, 56, 57, 97, 98, 99, 100, 101, 102, 103, 104, 105, 106, 107, 108, 109, 110, 111, 112, 113, 114, 115, 116, 117, 118, 119, 120, 121, 122, 65, 66, 67, 68, 69, 70, 71, 72, 73, 74, 75, 76, 77, 78, 79, 80, 81, 82, 83, 84, 85, 86, 87, 88, 89, 90]⟩ : ByteArray).extract ((ji10) : Int).toNat ((((ji10) + 1) % 256) : Int).toNat).size ≤ 9223372036854775807 then (laws_FnBase62Digits.l0 k2 l1 (x5_2 ++ ((⟨#[48, 49, 50, 51, 52, 53, 54, 55, 56, 57, 97, 98, 99, 100, 101, 102, 103, 104, 105, 106, 107, 108, 109, 110, 111, 112, 113, 114, 115, 116, 117, 118, 119, 120, 121, 122, 65, 66, 67, 68, 69, 70, 71, 72, 73, 74, 75, 76, 77, 78, 79, 80, 81, 82, 83, 84, 85, 86, 87, 88, 89, 90]⟩ : ByteArray).extract ((ji10) : Int).toNat ((((ji10) + 1) % 256) : Int).toNat)) (wrap64 ((wrap64 (62 * x6_2)) + (wrap64 (ji10)))) l0 (l0.length : Int) (wrap64 (x19_2 + 1))) else (none)) else (none)) else (none)) else (none)) = some r := by first | (rw [hji10] at H; exact H) | (simp only [hji10] at H ⊢; exact H)
                    by_cases c11 : 0 ≤ (ji10)
                    · rw [if_pos c11] at H
                      have c11b0 := eq_true c11
                      have c11b1 : decide (0 ≤ (ji10)) = true := decide_eq_true c11
                      clear c11
                      by_cases c12 : (ji10) ≤ (((ji10) + 1) % 256)
                      · rw [if_pos c12] at H
                        have c12b0 := eq_true c12
                        have c12b1 : decide ((ji10) ≤ (((ji10) + 1) % 256)) = true := decide_eq_true c12
                        by_cases c13 : (((ji10) + 1) % 256) ≤ 62
                        · rw [if_pos c13] at H
                          have c13b0 := eq_true c13
                          have c13b1 : decide ((((ji10) + 1) % 256) ≤ 62) = true := decide_eq_true c13
                          by_cases c14 : x5_2.size + ((⟨#[48, 49, 50, 51, 52, 53, 54, 55, 56, 57, 97, 98, 99, 100, 101, 102, 103, 104, 105, 106, 107, 108, 109, 110, 111, 112, 113, 114, 115, 116, 117, 118, 119, 120, 121, 122, 65, 66, 67, 68, 69, 70, 71, 72, 73, 74, 75, 76, 77, 78, 79, 80, 81, 82, 83, 84, 85, 86, 87, 88, 89, 90]⟩ : ByteArray).extract ((ji10) : Int).toNat ((((ji10) + 1) % 256) : Int).toNat).size ≤ 9223372036854775807
                          · rw [if_pos c14] at H
                            have c14b0 := eq_true c14
                            have c14b1 : decide (x5_2.size + ((⟨#[48, 49, 50, 51, 52, 53, 54, 55, 56, 57, 97, 98, 99, 100, 101, 102, 103, 104, 105, 106, 107, 108, 109, 110, 111, 112, 113, 114, 115, 116, 117, 118, 119, 120, 121, 122, 65, 66, 67, 68, 69, 70, 71, 72, 73, 74, 75, 76, 77, 78, 79, 80, 81, 82, 83, 84, 85, 86, 87, 88, 89, 90]⟩ : ByteArray).extract ((ji10) : Int).toNat ((((ji10) + 1) % 256) : Int).toNat).size ≤ 9223372036854775807) = true := decide_eq_true c14
                            try have c14b2 : (9223372036854775807 < x5_2.size + ((⟨#[48, 49, 50, 51, 52, 53, 54, 55, 56, 57, 97, 98, 99, 100, 101, 102, 103, 104, 105, 106, 107, 108, 109, 110, 111, 112, 113, 114, 115, 116, 117, 118, 119, 120, 121, 122, 65, 66, 67, 68, 69, 70, 71, 72, 73, 74, 75, 76, 77, 78, 79, 80, 81, 82, 83, 84, 85, 86, 87, 88, 89, 90]⟩ : ByteArray).extract ((ji10) : Int).toNat ((((ji10) + 1) % 256) : Int).toNat).size) = False := eq_false (Nat.not_lt.2 c14)
                            try (have c14q := c14; rw [ByteArray.size_extract, Nat.min_eq_left (by show _ ≤ Array.size _; simp only [List.size_toArray, List.length_cons, List.length_nil]; omega)] at c14q; have c14b3 := eq_false (Nat.not_lt.2 c14q); clear c14q)
                            have H' := Aside0.mk H
                            clear H
                            have p104 : 0 ≤ (x19_2 : Int) := of_decide_eq_true (by first | (with_reducible assumption) | assumption)
                            have q104 : x19_2 < (l0.length : Int) := of_decide_eq_true (by first | (with_reducible assumption) | assumption)
                            obtain ⟨ad104, e104, hx104_0⟩ := Kd.at_int HR0.out x19_2 p104 q104
                            cases e104
                            replace hx104_0 := (HB.out.cell (World.block_lt_of_cell? w _ hx104_0)).trans hx104_0
                            replace p104 := eq_true p104
                            replace q104 := eq_true q104
                            go_wp2
                            go_roundg k2
                            case measure => have := HJ2.out; have := HK2.out; omega
                            case rel => exact ⟨(x5_2 ++ ((⟨#[48, 49, 50, 51, 52, 53, 54, 55, 56, 57, 97, 98, 99, 100, 101, 102, 103, 104, 105, 106, 107, 108, 109, 110, 111, 112, 113, 114, 115, 116, 117, 118, 119, 120, 121, 122, 65, 66, 67, 68, 69, 70, 71, 72, 73, 74, 75, 76, 77, 78, 79, 80, 81, 82, 83, 84, 85, 86, 87, 88, 89, 90]⟩ : ByteArray).extract ((ji10) : Int).toNat ((((ji10) + 1) % 256) : Int).toNat)), (wrap64 ((wrap64 (62 * x6_2)) + (wrap64 (ji10)))), (wrap64 (x19_2 + 1)), (by first | rfl | (simp; done) | (simp only [← hji10] <;> (first | rfl | simp)) | (simp [*]; done)), (by first | rfl | (simp; done) | (simp only [← hji10] <;> (first | rfl | simp)) | (simp [*]; done)), (by first | rfl | (simp; done) | (simp [*]; done)), H', ⟨by have := HJ2.out; have := HK2.out; omega⟩, ⟨by repeat (first | (with_reducible first | exact HB.out | apply below_alloc | apply pw_below_drewN | apply below_drew1) | exact HB.out)⟩⟩
                          · rw [if_neg c14] at H
                            exact absurd H (by simp)
                        · rw [if_neg c13] at H
                          exact absurd H (by simp)
                      · rw [if_neg c12] at H
                        exact absurd H (by simp)
                    · rw [if_neg c11] at H
                      exact absurd H (by simp)
                  · rw [if_neg c9] at H
                    have c9b0 : decide (x19_2 < 10) = false := decide_eq_false c9
                    clear c9
                    have H' := Aside0.mk H
                    clear H
                    have p104 : 0 ≤ (x19_2 : Int) := of_decide_eq_true (by first | (with_reducible assumption) | assumption)
                    have q104 : x19_2 < (l0.length : Int) := of_decide_eq_true (by first | (with_reducible assumption) | assumption)
                    obtain ⟨ad104, e104, hx104_0⟩ := Kd.at_int HR0.out x19_2 p104 q104
                    cases e104
                    replace hx104_0 := (HB.out.cell (World.block_lt_of_cell? w _ hx104_0)).trans hx104_0
                    replace p104 := eq_true p104
                    replace q104 := eq_true q104
                    go_wp2
                    go_roundg k2
                    case measure => have := HJ2.out; have := HK2.out; omega
                    case rel => exact ⟨(x5_2), (x6_2), (wrap64 (x19_2 + 1)), (by first | rfl | (simp; done) | (simp [*]; done)), (by first | rfl | (simp; done) | (simp [*]; done)), (by first | rfl | (simp; done) | (simp [*]; done)), H', ⟨by have := HJ2.out; have := HK2.out; omega⟩, ⟨by repeat (first | (with_reducible first | exact HB.out | apply below_alloc | apply pw_below_drewN | apply below_drew1) | exact HB.out)⟩⟩
                · rw [if_neg c8] at H
                  exact absurd H (by simp)
              · rw [if_neg c7] at H
                exact absurd H (by simp)
            · rw [if_neg c6] at H
              have c6b0 : decide (x19_2 < (l0.length : Int)) = false := decide_eq_false c6
              clear c6
              by_cases c15 : x5_2.toList = ([] : List UInt8)
              · rw [if_pos c15] at H
                have c15b0 : (x5_2.toList == ([] : List UInt8)) = true := beq_iff_eq.mpr c15
                have c15b1 : (x5_2.toList != ([] : List UInt8)) = false := bne_eq_false_iff_eq.mpr c15
                clear c15
                by_cases c16 : 1 + (strOfNums l1).size ≤ 9223372036854775807
                · rw [if_pos c16] at H
                  have c16b0 := eq_true c16
                  have c16b1 : decide (1 + (strOfNums l1).size ≤ 9223372036854775807) = true := decide_eq_true c16
                  try have c16b2 : (9223372036854775807 < 1 + (strOfNums l1).size) = False := eq_false (Nat.not_lt.2 c16)
                  replace H := Option.bind_eq_some_iff.mp H
                  obtain ⟨t105, A170, H⟩ := H
                  replace H : (some t105) = some r := H
                  have A17 := Aside0.mk A170
                  clear A170
                  obtain rfl := Option.some.inj H
                  have hcv18 := Kd.C_string (P := Try.prog) (A := A1) (c := c1) Try.underlying22 Try.underlying5 Try.underlying9 (Kd.C_below HR1.out HB.out)
                  have hcvn18 := fun (nq_ : Nat) => Kd.C_string (P := Try.prog) (A := A1) (c := c1) Try.underlying22 Try.underlying5 Try.underlying9 (Kd.C_drewN ((Kd.C_below HR1.out HB.out)) nq_)
                  have hcv19 := Kd.C_string (P := Try.prog) (A := A1) (c := c1) Try.underlying22 Try.underlying5 Try.underlying9 (Kd.C_below HR1.out HB.out)
                  have hcvn19 := fun (nq_ : Nat) => Kd.C_string (P := Try.prog) (A := A1) (c := c1) Try.underlying22 Try.underlying5 Try.underlying9 (Kd.C_drewN ((Kd.C_below HR1.out HB.out)) nq_)
                  go_wp2_with (first | ((with_reducible refine gate_callee (f := 10) rfl ?_); refine goesL_ (some 48) rfl rfl Try.func10 (by kernel_rfl) rfl #[.string ((⟨#[95]⟩ : ByteArray) ++ (strOfNums l1)), .int .i64 0, .string (strOfNums l1)] rfl (by (try simp only [List.map_toArray, List.map_cons, List.map_nil]); first | done | rfl | (simp only [List.length_drop, List.length_take]; rfl)) ?_; (with_reducible refine (laws_doorNumber.calls ((⟨#[95]⟩ : ByteArray) ++ (strOfNums l1)) 0 (strOfNums l1) t105 _ A17.out).mono ?_); rintro e w20 ⟨rfl, hb⟩; refine ⟨_, rfl, ?_⟩; have n0_ := Aside0.mk (below_step (by repeat (first | (with_reducible first | exact HB.out | apply below_alloc | apply pw_below_drewN | apply below_drew1) | exact HB.out)) hb); clear HB; have HB := n0_; clear n0_; (try clear hb); (try clear hb2); (try clear hk); (try clear hi)))
                  go_ret
                  exact ⟨by first | rfl | (simp [errW_none, errW_some] <;> rfl) | (simp [*, errW_none, errW_some] <;> rfl), by repeat (first | (with_reducible first | exact HB.out | apply below_alloc | apply pw_below_drewN | apply below_drew1) | exact HB.out)⟩
                · rw [if_neg c16] at H
                  exact absurd H (by simp)
              · rw [if_neg c15] at H
                have c15b0 : (x5_2.toList == ([] : List UInt8)) = false := beq_eq_false_iff_ne.mpr c15
                have c15b1 : (x5_2.toList != ([] : List UInt8)) = true := bne_iff_ne.mpr c15
                by_cases c21 : x5_2.size + 1 ≤ 9223372036854775807
                · rw [if_pos c21] at H
                  have c21b0 := eq_true c21
                  have c21b1 : decide (x5_2.size + 1 ≤ 9223372036854775807) = true := decide_eq_true c21
                  try have c21b2 : (9223372036854775807 < x5_2.size + 1) = False := eq_false (Nat.not_lt.2 c21)
                  by_cases c22 : (x5_2 ++ (⟨#[95]⟩ : ByteArray)).size + (strOfNums l1).size ≤ 9223372036854775807
                  · rw [if_pos c22] at H
                    have c22b0 := eq_true c22
                    have c22b1 : decide ((x5_2 ++ (⟨#[95]⟩ : ByteArray)).size + (strOfNums l1).size ≤ 9223372036854775807) = true := decide_eq_true c22
                    try have c22b2 : (9223372036854775807 < (x5_2 ++ (⟨#[95]⟩ : ByteArray)).size + (strOfNums l1).size) = False := eq_false (Nat.not_lt.2 c22)
                    replace H := Option.bind_eq_some_iff.mp H
                    obtain ⟨t106, A230, H⟩ := H
                    replace H : (some t106) = some r := H
                    have A23 := Aside0.mk A230
                    clear A230
                    obtain rfl := Option.some.inj H
                    have hcv24 := Kd.C_string (P := Try.prog) (A := A1) (c := c1) Try.underlying22 Try.underlying5 Try.underlying9 (Kd.C_below HR1.out HB.out)
                    have hcvn24 := fun (nq_ : Nat) => Kd.C_string (P := Try.prog) (A := A1) (c := c1) Try.underlying22 Try.underlying5 Try.underlying9 (Kd.C_drewN ((Kd.C_below HR1.out HB.out)) nq_)
                    have hcv25 := Kd.C_string (P := Try.prog) (A := A1) (c := c1) Try.underlying22 Try.underlying5 Try.underlying9 (Kd.C_below HR1.out HB.out)
                    have hcvn25 := fun (nq_ : Nat) => Kd.C_string (P := Try.prog) (A := A1) (c := c1) Try.underlying22 Try.underlying5 Try.underlying9 (Kd.C_drewN ((Kd.C_below HR1.out HB.out)) nq_)
                    go_wp2_with (first | ((with_reducible refine gate_callee (f := 10) rfl ?_); refine goesL_ (some 58) rfl rfl Try.func10 (by kernel_rfl) rfl #[.string ((x5_2 ++ (⟨#[95]⟩ : ByteArray)) ++ (strOfNums l1)), .int .i64 (wrap64 (x6_2 + 1)), .string (strOfNums l1)] rfl (by (try simp only [List.map_toArray, List.map_cons, List.map_nil]); first | done | rfl | (simp only [List.length_drop, List.length_take]; rfl)) ?_; (with_reducible refine (laws_doorNumber.calls ((x5_2 ++ (⟨#[95]⟩ : ByteArray)) ++ (strOfNums l1)) (wrap64 (x6_2 + 1)) (strOfNums l1) t106 _ A23.out).mono ?_); rintro e w26 ⟨rfl, hb⟩; refine ⟨_, rfl, ?_⟩; have n0_ := Aside0.mk (below_step (by repeat (first | (with_reducible first | exact HB.out | apply below_alloc | apply pw_below_drewN | apply below_drew1) | exact HB.out)) hb); clear HB; have HB := n0_; clear n0_; (try clear hb); (try clear hb2); (try clear hk); (try clear hi)))
                    go_ret
                    exact ⟨by first | rfl | (simp [errW_none, errW_some] <;> rfl) | (simp [*, errW_none, errW_some] <;> rfl), by repeat (first | (with_reducible first | exact HB.out | apply below_alloc | apply pw_below_drewN | apply below_drew1) | exact HB.out)⟩
                  · rw [if_neg c22] at H
                    exact absurd H (by simp)
                · rw [if_neg c21] at H
                  exact absurd H (by simp)

/-- THE ONE PURE STATEMENT of laws_FnBase62Digits: yours. -/
def laws_FnBase62Digits.Pure : Prop := ∀ (l0 : List Int) (l1 : List Int), l0.length ≤ maxLen → l0.length * 1 ≤ 140737488351232 → (∀ x ∈ l0, (Lit.int .u8 x).wf = true) → l1.length ≤ maxLen → l1.length * 1 ≤ 140737488351232 → (∀ x ∈ l1, (Lit.int .u8 x).wf = true) → ∃ k, laws_FnBase62Digits.f k l0 l1 = some true
theorem laws_FnBase62Digits.walk (P : laws_FnBase62Digits.Pure) (a0 : Option Addr) (len0 cap0 : Nat) (z0 : List Int) (a1 : Option Addr) (len1 cap1 : Nat) (z1 : List Int) (w : World) (w0 : (a0 = none ∧ len0 = 0 ∧ cap0 = 0 ∧ z0 = []) ∨ ∃ x, a0 = some x ∧ len0 ≤ cap0 ∧ cap0 ≤ maxLen ∧ z0.length = cap0 ∧ (∀ i, i < z0.length → w.cell? (x.add i) = some (.int .u8 (z0.getD i 0))) ∧ ∀ n ∈ z0, (Lit.int .u8 n).wf = true) (y0 : len0 * 1 ≤ 140737488351232) (w1 : (a1 = none ∧ len1 = 0 ∧ cap1 = 0 ∧ z1 = []) ∨ ∃ x, a1 = some x ∧ len1 ≤ cap1 ∧ cap1 ≤ maxLen ∧ z1.length = cap1 ∧ (∀ i, i < z1.length → w.cell? (x.add i) = some (.int .u8 (z1.getD i 0))) ∧ ∀ n ∈ z1, (Lit.int .u8 n).wf = true) (y1 : len1 * 1 ≤ 140737488351232) :
    Calls Try.prog 4 #[.slice a0 len0 cap0, .slice a1 len1 cap1] w fun e w' => e = .returned (.bool true) ∧ Below w.heap.size w w' := by
  obtain ⟨l0, rfl, hr0, hm0, hw0, hc0⟩ := ReadsInt.ofRowC w0
  obtain ⟨l1, rfl, hr1, hm1, hw1, hc1⟩ := ReadsInt.ofRowC w1
  obtain ⟨k, h⟩ := P l0 l1 hm0 y0 hw0 hm1 y1 hw1
  refine (laws_FnBase62Digits.calls k _ _ l0 _ _ l1 true w (Kd.C_of_reads (d := (0 : Int)) (h1 := fun _ => rfl) hr0) hc0 (Kd.C_of_reads (d := (0 : Int)) (h1 := fun _ => rfl) hr1) hc1 h).mono ?_
  rintro e w' ⟨rfl, hd⟩
  exact ⟨rfl, hd⟩

end Go.Proofs.Ytfblehpiecialaa.PFnBase62Digits
