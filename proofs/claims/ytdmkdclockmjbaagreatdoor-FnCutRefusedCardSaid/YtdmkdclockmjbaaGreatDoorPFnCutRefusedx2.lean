/- Written by a program of this session (wip/tools/myprint.py) with the kit's print: contracts of the functions that one statement reaches; functions that are proved by hand are taken as printed. Conditions: none. -/
import Derived.Test.YtdmkdclockmjbaaGreatDoorPFnCutRefusedx0
import Derived.Test.YtdmkdclockmjbaaGreatDoorPFnCutRefusedx1
namespace Go.Proofs.YtdmkdclockmjbaaGreatDoor.PFnCutRefused
open Go.RowKit Go.Proofs.YtdmkdclockmjbaaGreatDoorW.PrintWords Go.Proofs.YtdmkdclockmjbaaGreatDoorW.PrintLast Go.Proofs.YtdmkdclockmjbaaGreatDoorW.PrintMore
attribute [local go_sem] max2_int min2_int max_two min_two max_three min_three max_four min_four   -- for this text's walks alone
set_option linter.unusedVariables false
set_option linter.unusedSimpArgs false

/-! ### spec_idIdentifier: function 34 -/
def spec_idIdentifier.f (k : Nat) (a0 : ByteArray) (a1 : Int) : Option (ByteArray) := (spec_IdDisambiguator.f k a1).bind fun t125 => ((spec_IdWritten.f a0).bind fun t126 => (if t125.size + t126.size ≤ 9223372036854775807 then (some (t125 ++ t126)) else (none)))
theorem spec_idIdentifier.mono : ∀ a0 a1 k, LeO (spec_idIdentifier.f k a0 a1) (spec_idIdentifier.f (k + 1) a0 a1) := by
  intro a0 a1 k
  unfold spec_idIdentifier.f
  repeat' first
      | (with_reducible exact spec_IdDisambiguator.mono _ _)
      | (with_reducible exact LeO.refl _)
      | (with_reducible exact LeO.none _)
      | (with_reducible refine LeO.ite ?_ ?_)
      | (with_reducible refine LeO.bind ?_ (fun _ => ?_))
      | exact spec_IdDisambiguator.mono _ _
      | exact LeO.none _
      | refine LeO.ite ?_ ?_
      | refine LeO.bind ?_ (fun _ => ?_)
set_option maxHeartbeats 8000000 in
set_option maxRecDepth 100000 in
theorem spec_idIdentifier.calls (k : Nat) (a0 : ByteArray) (a1 : Int) (r : ByteArray) (w : World) (hT_ : DoorIs w) (h : spec_idIdentifier.f k a0 a1 = some r) :
    Calls Tryz.prog 34 #[.string a0, .int .u64 a1] w fun e w' => e = .returned (.string r) ∧ Below w.heap.size w w' := by
  have HB := Aside0.mk (Below.refl w.heap.size w)
  have H : ((spec_IdDisambiguator.f k a1).bind fun t125 => ((spec_IdWritten.f a0).bind fun t126 => (if t125.size + t126.size ≤ 9223372036854775807 then (some (t125 ++ t126)) else (none)))) = some r := h
  clear h
  replace H := Option.bind_eq_some_iff.mp H
  obtain ⟨t125, A30, H⟩ := H
  try rw [show (((⟨#[95, 82]⟩ : ByteArray) ++ t140).size : Int) = 2 + (t140.size : Int) from by rw [ByteArray.size_append]; have e_ : (⟨#[95, 82]⟩ : ByteArray).size = 2 := rfl; rw [e_]; omega] at A30
  replace H : ((spec_IdWritten.f a0).bind fun t126 => (if t125.size + t126.size ≤ 9223372036854775807 then (some (t125 ++ t126)) else (none))) = some r := H
  have A3 := Aside0.mk A30
  clear A30
  replace H := Option.bind_eq_some_iff.mp H
  obtain ⟨t126, A40, H⟩ := H
  try rw [show (((⟨#[95, 82]⟩ : ByteArray) ++ t140).size : Int) = 2 + (t140.size : Int) from by rw [ByteArray.size_append]; have e_ : (⟨#[95, 82]⟩ : ByteArray).size = 2 := rfl; rw [e_]; omega] at A40
  replace H : (if t125.size + t126.size ≤ 9223372036854775807 then (some (t125 ++ t126)) else (none)) = some r := H
  have A4 := Aside0.mk A40
  clear A40
  by_cases c5 : t125.size + t126.size ≤ 9223372036854775807
  · rw [if_pos c5] at H
    have c5b0 := eq_true c5
    have c5b1 : decide (t125.size + t126.size ≤ 9223372036854775807) = true := decide_eq_true c5
    try have c5b2 : (9223372036854775807 < t125.size + t126.size) = False := eq_false (Nat.not_lt.2 c5)
    obtain rfl := Option.some.inj H
    go_enter Tryz.func34, Tryz.ntmps34
    go_wp2_with (first | (go_at_call 15; refine (idCut_at _ _ _ _ _ _ (by assumption) (by assumption)).mono ?_; rintro e w_ ⟨rfl, rfl⟩) | ((with_reducible refine gate_callee (f := 35) rfl ?_); refine goesL_ (some 6) rfl rfl Tryz.func35 (by kernel_rfl) rfl #[.int .u64 a1] rfl (by (try simp only [List.map_toArray, List.map_cons, List.map_nil]); first | done | rfl | (simp only [List.length_drop, List.length_take]; rfl)) ?_; (with_reducible refine (spec_IdDisambiguator.calls k a1 t125 _ A3.out).mono ?_); rintro e w' ⟨rfl, ⟨nd, rfl⟩⟩; refine ⟨_, rfl, ?_⟩) | ((with_reducible refine gate_callee (f := 40) rfl ?_); refine goesL_ (some 8) rfl rfl Tryz.func40 (by kernel_rfl) rfl #[.string a0] rfl (by (try simp only [List.map_toArray, List.map_cons, List.map_nil]); first | done | rfl | (simp only [List.length_drop, List.length_take]; rfl)) ?_; (with_reducible refine (spec_IdWritten.calls a0 t126 _ (show DoorIs _ from ?side1) A4.out).mono ?_); (case side1 => exact Stays.below hT_ (by first | (repeat (first | (with_reducible first | exact HB.out | apply below_alloc | apply pw_below_drewN | apply below_drew1) | exact HB.out)) | (repeat (first | exact Below.refl _ _ | apply below_drew1 | apply pw_below_drewN)))); rintro e w6 ⟨rfl, hb⟩; refine ⟨_, rfl, ?_⟩; have n0_ := Aside0.mk (below_step (by repeat (first | (with_reducible first | exact HB.out | apply below_alloc | apply pw_below_drewN | apply below_drew1) | exact HB.out)) hb); clear HB; have HB := n0_; clear n0_; (try clear hb); (try clear hb2); (try clear hk); (try clear hi)))
    go_ret
    exact ⟨by first | rfl | (simp [errW_none, errW_some] <;> rfl) | (simp [*, errW_none, errW_some] <;> rfl), by repeat (first | (with_reducible first | exact HB.out | apply below_alloc | apply pw_below_drewN | apply below_drew1) | exact HB.out)⟩
  · rw [if_neg c5] at H
    exact absurd H (by simp)

/-! ### spec_IdSymbol: function 18 -/
def spec_IdSymbol.l0 : Nat → List (S43) → ByteArray → List (S43) → Int → Int → Option (ByteArray)
  | 0, _, _, _, _, _ => none
  | k + 1, x2, x7, x15, x16, x17 => if x17 < x16 then (if 0 ≤ x17 then (if x17 < (x15.length : Int) then ((spec_idIdentifier.f k ((rd_T43 x15 x17).f1) ((rd_T43 x15 x17).f2)).bind fun t130 => (if ((rd_T43 x15 x17).f1).toList = ([] : List UInt8) then (if x17 = (wrap64 ((x2.length : Int) - 1)) then ((spec_IdDisambiguator.f k ((rd_T43 x15 x17).f2)).bind fun t131 => (if t131.size + 1 ≤ 9223372036854775807 then (if 1 + (Utf8.encode (wrap32 ((rd_T43 x15 x17).f0))).size ≤ 9223372036854775807 then (if ((⟨#[78]⟩ : ByteArray) ++ (Utf8.encode (wrap32 ((rd_T43 x15 x17).f0)))).size + x7.size ≤ 9223372036854775807 then (if (((⟨#[78]⟩ : ByteArray) ++ (Utf8.encode (wrap32 ((rd_T43 x15 x17).f0)))) ++ x7).size + (t131 ++ (⟨#[48]⟩ : ByteArray)).size ≤ 9223372036854775807 then (spec_IdSymbol.l0 k x2 ((((⟨#[78]⟩ : ByteArray) ++ (Utf8.encode (wrap32 ((rd_T43 x15 x17).f0)))) ++ x7) ++ (t131 ++ (⟨#[48]⟩ : ByteArray))) x15 x16 (wrap64 (x17 + 1))) else (none)) else (none)) else (none)) else (none))) else (if 1 + (Utf8.encode (wrap32 ((rd_T43 x15 x17).f0))).size ≤ 9223372036854775807 then (if ((⟨#[78]⟩ : ByteArray) ++ (Utf8.encode (wrap32 ((rd_T43 x15 x17).f0)))).size + x7.size ≤ 9223372036854775807 then (if (((⟨#[78]⟩ : ByteArray) ++ (Utf8.encode (wrap32 ((rd_T43 x15 x17).f0)))) ++ x7).size + t130.size ≤ 9223372036854775807 then (spec_IdSymbol.l0 k x2 ((((⟨#[78]⟩ : ByteArray) ++ (Utf8.encode (wrap32 ((rd_T43 x15 x17).f0)))) ++ x7) ++ t130) x15 x16 (wrap64 (x17 + 1))) else (none)) else (none)) else (none))) else (if 1 + (Utf8.encode (wrap32 ((rd_T43 x15 x17).f0))).size ≤ 9223372036854775807 then (if ((⟨#[78]⟩ : ByteArray) ++ (Utf8.encode (wrap32 ((rd_T43 x15 x17).f0)))).size + x7.size ≤ 9223372036854775807 then (if (((⟨#[78]⟩ : ByteArray) ++ (Utf8.encode (wrap32 ((rd_T43 x15 x17).f0)))) ++ x7).size + t130.size ≤ 9223372036854775807 then (spec_IdSymbol.l0 k x2 ((((⟨#[78]⟩ : ByteArray) ++ (Utf8.encode (wrap32 ((rd_T43 x15 x17).f0)))) ++ x7) ++ t130) x15 x16 (wrap64 (x17 + 1))) else (none)) else (none)) else (none)))) else (none)) else (none)) else (some x7)
def spec_IdSymbol.f (k : Nat) (a0 : ByteArray) (a1 : Int) (l2 : List (S43)) : Option (ByteArray) := (spec_idIdentifier.f k a0 a1).bind fun t127 => (if 1 + t127.size ≤ 9223372036854775807 then (spec_IdSymbol.l0 k l2 ((⟨#[67]⟩ : ByteArray) ++ t127) l2 (l2.length : Int) 0) else (none))
theorem spec_IdSymbol.mono_l : ∀ k, (∀ y0 y1 y2 y3 y4, LeO (spec_IdSymbol.l0 k y0 y1 y2 y3 y4) (spec_IdSymbol.l0 (k + 1) y0 y1 y2 y3 y4))
  | 0 => fun _ _ _ _ _ r h => by simp [spec_IdSymbol.l0] at h
  | k + 1 => by
    have ih0 := spec_IdSymbol.mono_l k
    · intro y0 y1 y2 y3 y4
      unfold spec_IdSymbol.l0
      repeat' first
      | (with_reducible exact ih0 _ _ _ _ _)
      | (with_reducible exact spec_IdDisambiguator.mono _ _)
      | (with_reducible exact spec_idIdentifier.mono _ _ _)
      | (with_reducible exact LeO.refl _)
      | (with_reducible exact LeO.none _)
      | (with_reducible refine LeO.ite ?_ ?_)
      | (with_reducible refine LeO.bind ?_ (fun _ => ?_))
      | exact ih0 _ _ _ _ _
      | exact spec_IdDisambiguator.mono _ _
      | exact spec_idIdentifier.mono _ _ _
      | exact LeO.none _
      | refine LeO.ite ?_ ?_
      | refine LeO.bind ?_ (fun _ => ?_)
theorem spec_IdSymbol.mono : ∀ a0 a1 a2 k, LeO (spec_IdSymbol.f k a0 a1 a2) (spec_IdSymbol.f (k + 1) a0 a1 a2) := by
  intro a0 a1 a2 k
  have ih0 := spec_IdSymbol.mono_l k
  unfold spec_IdSymbol.f
  repeat' first
      | (with_reducible exact ih0 _ _ _ _ _)
      | (with_reducible exact spec_IdDisambiguator.mono _ _)
      | (with_reducible exact spec_idIdentifier.mono _ _ _)
      | (with_reducible exact LeO.refl _)
      | (with_reducible exact LeO.none _)
      | (with_reducible refine LeO.ite ?_ ?_)
      | (with_reducible refine LeO.bind ?_ (fun _ => ?_))
      | exact ih0 _ _ _ _ _
      | exact spec_IdDisambiguator.mono _ _
      | exact spec_idIdentifier.mono _ _ _
      | exact LeO.none _
      | refine LeO.ite ?_ ?_
      | refine LeO.bind ?_ (fun _ => ?_)
set_option maxHeartbeats 8000000 in
set_option maxRecDepth 100000 in
theorem spec_IdSymbol.calls (k : Nat) (a0 : ByteArray) (a1 : Int) (A2 : Option Addr) (c2 : Nat) (l2 : List (S43)) (r : ByteArray) (w : World) (hr2 : Kd.C k43 w A2 l2.length l2) (hc2 : l2.length ≤ c2) (hT_ : DoorIs w) (h : spec_IdSymbol.f k a0 a1 l2 = some r) :
    Calls Tryz.prog 18 #[.string a0, .int .u64 a1, .slice A2 l2.length c2] w fun e w' => e = .returned (.string r) ∧ Below w.heap.size w w' := by
  have hu43 := Tryz.underlying43
  have HR2 := Aside0.mk hr2
  have HC2 := Aside0.mk hc2
  clear hr2 hc2
  have HB := Aside0.mk (Below.refl w.heap.size w)
  have H : ((spec_idIdentifier.f k a0 a1).bind fun t127 => (if 1 + t127.size ≤ 9223372036854775807 then (spec_IdSymbol.l0 k l2 ((⟨#[67]⟩ : ByteArray) ++ t127) l2 (l2.length : Int) 0) else (none))) = some r := h
  clear h
  replace H := Option.bind_eq_some_iff.mp H
  obtain ⟨t127, A40, H⟩ := H
  try rw [show (((⟨#[95, 82]⟩ : ByteArray) ++ t140).size : Int) = 2 + (t140.size : Int) from by rw [ByteArray.size_append]; have e_ : (⟨#[95, 82]⟩ : ByteArray).size = 2 := rfl; rw [e_]; omega] at A40
  replace H : (if 1 + t127.size ≤ 9223372036854775807 then (spec_IdSymbol.l0 k l2 ((⟨#[67]⟩ : ByteArray) ++ t127) l2 (l2.length : Int) 0) else (none)) = some r := H
  have A4 := Aside0.mk A40
  clear A40
  by_cases c5 : 1 + t127.size ≤ 9223372036854775807
  · rw [if_pos c5] at H
    have c5b0 := eq_true c5
    have c5b1 : decide (1 + t127.size ≤ 9223372036854775807) = true := decide_eq_true c5
    try have c5b2 : (9223372036854775807 < 1 + t127.size) = False := eq_false (Nat.not_lt.2 c5)
    have H' := Aside0.mk H
    clear H
    go_enter Tryz.func18, Tryz.ntmps18
    go_wp2_with (first | (go_at_call 15; refine (idCut_at _ _ _ _ _ _ (by assumption) (by assumption)).mono ?_; rintro e w_ ⟨rfl, rfl⟩) | ((with_reducible refine gate_callee (f := 34) rfl ?_); refine goesL_ (some 13) rfl rfl Tryz.func34 (by kernel_rfl) rfl #[.string a0, .int .u64 a1] rfl (by (try simp only [List.map_toArray, List.map_cons, List.map_nil]); first | done | rfl | (simp only [List.length_drop, List.length_take]; rfl)) ?_; (with_reducible refine (spec_idIdentifier.calls k a0 a1 t127 _ (show DoorIs _ from ?side1) A4.out).mono ?_); (case side1 => exact Stays.below hT_ (by first | (repeat (first | (with_reducible first | exact HB.out | apply below_alloc | apply pw_below_drewN | apply below_drew1) | exact HB.out)) | (repeat (first | exact Below.refl _ _ | apply below_drew1 | apply pw_below_drewN)))); rintro e w6 ⟨rfl, hb⟩; refine ⟨_, rfl, ?_⟩; have n0_ := Aside0.mk (below_step (by repeat (first | (with_reducible first | exact HB.out | apply below_alloc | apply pw_below_drewN | apply below_drew1) | exact HB.out)) hb); clear HB; have HB := n0_; clear n0_; (try clear hb); (try clear hb2); (try clear hk); (try clear hi)))
    go_loopg [7, 17] k (fun kq v7 v17 w' => ∃ (x7_1 : ByteArray) (x17_1 : Int), v7 = .string x7_1 ∧ v17 = .int .i64 x17_1 ∧ Aside0 (spec_IdSymbol.l0 kq l2 x7_1 l2 (l2.length : Int) x17_1 = some r) ∧ Aside0 (kq ≤ k) ∧ Aside0 (Below w.heap.size w w'))
    case atStart => exact ⟨((⟨#[67]⟩ : ByteArray) ++ t127), (0), (by first | rfl | (simp; done) | (simp [*]; done)), (by first | rfl | (simp; done) | (simp [*]; done)), H', ⟨Nat.le_refl _⟩, ⟨by repeat (first | (with_reducible first | exact HB.out | apply below_alloc | apply pw_below_drewN | apply below_drew1) | exact HB.out)⟩⟩
    case round =>
      clear H'
      try clear c1
      try clear c2
      try clear p2
      try clear c3
      try clear c5
      try clear c5b0
      try clear c5b1
      try clear c5b2
      obtain ⟨x7_1, x17_1, rfl, rfl, HA, HK1, HB⟩ := hrel
      cases gk with
      | zero => exact absurd HA.out (by simp [spec_IdSymbol.l0])
      | succ k1 =>
        have H := HA.out
        clear HA
        simp only [spec_IdSymbol.l0] at H
        by_cases c7 : x17_1 < (l2.length : Int)
        · rw [if_pos c7] at H
          have c7b0 : decide (x17_1 < (l2.length : Int)) = true := decide_eq_true c7
          clear c7
          by_cases c8 : 0 ≤ x17_1
          · rw [if_pos c8] at H
            have c8b0 : decide (0 ≤ x17_1) = true := decide_eq_true c8
            clear c8
            by_cases c9 : x17_1 < (l2.length : Int)
            · rw [if_pos c9] at H
              have c9b0 : decide (x17_1 < (l2.length : Int)) = true := decide_eq_true c9
              clear c9
              replace H := Option.bind_eq_some_iff.mp H
              obtain ⟨t130, A100, H⟩ := H
              try rw [show (((⟨#[95, 82]⟩ : ByteArray) ++ t140).size : Int) = 2 + (t140.size : Int) from by rw [ByteArray.size_append]; have e_ : (⟨#[95, 82]⟩ : ByteArray).size = 2 := rfl; rw [e_]; omega] at A100
              replace H : (if ((rd_T43 l2 x17_1).f1).toList = ([] : List UInt8) then (if x17_1 = (wrap64 ((l2.length : Int) - 1)) then ((spec_IdDisambiguator.f k1 ((rd_T43 l2 x17_1).f2)).bind fun t131 => (if t131.size + 1 ≤ 9223372036854775807 then (if 1 + (Utf8.encode (wrap32 ((rd_T43 l2 x17_1).f0))).size ≤ 9223372036854775807 then (if ((⟨#[78]⟩ : ByteArray) ++ (Utf8.encode (wrap32 ((rd_T43 l2 x17_1).f0)))).size + x7_1.size ≤ 9223372036854775807 then (if (((⟨#[78]⟩ : ByteArray) ++ (Utf8.encode (wrap32 ((rd_T43 l2 x17_1).f0)))) ++ x7_1).size + (t131 ++ (⟨#[48]⟩ : ByteArray)).size ≤ 9223372036854775807 then (spec_IdSymbol.l0 k1 l2 ((((⟨#[78]⟩ : ByteArray) ++ (Utf8.encode (wrap32 ((rd_T43 l2 x17_1).f0)))) ++ x7_1) ++ (t131 ++ (⟨#[48]⟩ : ByteArray))) l2 (l2.length : Int) (wrap64 (x17_1 + 1))) else (none)) else (none)) else (none)) else (none))) else (if 1 + (Utf8.encode (wrap32 ((rd_T43 l2 x17_1).f0))).size ≤ 9223372036854775807 then (if ((⟨#[78]⟩ : ByteArray) ++ (Utf8.encode (wrap32 ((rd_T43 l2 x17_1).f0)))).size + x7_1.size ≤ 9223372036854775807 then (if (((⟨#[78]⟩ : ByteArray) ++ (Utf8.encode (wrap32 ((rd_T43 l2 x17_1).f0)))) ++ x7_1).size + t130.size ≤ 9223372036854775807 then (spec_IdSymbol.l0 k1 l2 ((((⟨#[78]⟩ : ByteArray) ++ (Utf8.encode (wrap32 ((rd_T43 l2 x17_1).f0)))) ++ x7_1) ++ t130) l2 (l2.length : Int) (wrap64 (x17_1 + 1))) else (none)) else (none)) else (none))) else (if 1 + (Utf8.encode (wrap32 ((rd_T43 l2 x17_1).f0))).size ≤ 9223372036854775807 then (if ((⟨#[78]⟩ : ByteArray) ++ (Utf8.encode (wrap32 ((rd_T43 l2 x17_1).f0)))).size + x7_1.size ≤ 9223372036854775807 then (if (((⟨#[78]⟩ : ByteArray) ++ (Utf8.encode (wrap32 ((rd_T43 l2 x17_1).f0)))) ++ x7_1).size + t130.size ≤ 9223372036854775807 then (spec_IdSymbol.l0 k1 l2 ((((⟨#[78]⟩ : ByteArray) ++ (Utf8.encode (wrap32 ((rd_T43 l2 x17_1).f0)))) ++ x7_1) ++ t130) l2 (l2.length : Int) (wrap64 (x17_1 + 1))) else (none)) else (none)) else (none))) = some r := H
              have A10 := Aside0.mk A100
              clear A100
              by_cases c11 : ((rd_T43 l2 x17_1).f1).toList = ([] : List UInt8)
              · rw [if_pos c11] at H
                have c11b0 : (((rd_T43 l2 x17_1).f1).toList == ([] : List UInt8)) = true := beq_iff_eq.mpr c11
                have c11b1 : (((rd_T43 l2 x17_1).f1).toList != ([] : List UInt8)) = false := bne_eq_false_iff_eq.mpr c11
                clear c11
                by_cases c12 : x17_1 = (wrap64 ((l2.length : Int) - 1))
                · rw [if_pos c12] at H
                  have c12b0 : (x17_1 == (wrap64 ((l2.length : Int) - 1))) = true := beq_iff_eq.mpr c12
                  have c12b1 : (x17_1 != (wrap64 ((l2.length : Int) - 1))) = false := bne_eq_false_iff_eq.mpr c12
                  clear c12
                  replace H := Option.bind_eq_some_iff.mp H
                  obtain ⟨t131, A130, H⟩ := H
                  try rw [show (((⟨#[95, 82]⟩ : ByteArray) ++ t140).size : Int) = 2 + (t140.size : Int) from by rw [ByteArray.size_append]; have e_ : (⟨#[95, 82]⟩ : ByteArray).size = 2 := rfl; rw [e_]; omega] at A130
                  replace H : (if t131.size + 1 ≤ 9223372036854775807 then (if 1 + (Utf8.encode (wrap32 ((rd_T43 l2 x17_1).f0))).size ≤ 9223372036854775807 then (if ((⟨#[78]⟩ : ByteArray) ++ (Utf8.encode (wrap32 ((rd_T43 l2 x17_1).f0)))).size + x7_1.size ≤ 9223372036854775807 then (if (((⟨#[78]⟩ : ByteArray) ++ (Utf8.encode (wrap32 ((rd_T43 l2 x17_1).f0)))) ++ x7_1).size + (t131 ++ (⟨#[48]⟩ : ByteArray)).size ≤ 9223372036854775807 then (spec_IdSymbol.l0 k1 l2 ((((⟨#[78]⟩ : ByteArray) ++ (Utf8.encode (wrap32 ((rd_T43 l2 x17_1).f0)))) ++ x7_1) ++ (t131 ++ (⟨#[48]⟩ : ByteArray))) l2 (l2.length : Int) (wrap64 (x17_1 + 1))) else (none)) else (none)) else (none)) else (none)) = some r := H
                  have A13 := Aside0.mk A130
                  clear A130
                  by_cases c14 : t131.size + 1 ≤ 9223372036854775807
                  · rw [if_pos c14] at H
                    have c14b0 := eq_true c14
                    have c14b1 : decide (t131.size + 1 ≤ 9223372036854775807) = true := decide_eq_true c14
                    try have c14b2 : (9223372036854775807 < t131.size + 1) = False := eq_false (Nat.not_lt.2 c14)
                    by_cases c15 : 1 + (Utf8.encode (wrap32 ((rd_T43 l2 x17_1).f0))).size ≤ 9223372036854775807
                    · rw [if_pos c15] at H
                      have c15b0 := eq_true c15
                      have c15b1 : decide (1 + (Utf8.encode (wrap32 ((rd_T43 l2 x17_1).f0))).size ≤ 9223372036854775807) = true := decide_eq_true c15
                      try have c15b2 : (9223372036854775807 < 1 + (Utf8.encode (wrap32 ((rd_T43 l2 x17_1).f0))).size) = False := eq_false (Nat.not_lt.2 c15)
                      by_cases c16 : ((⟨#[78]⟩ : ByteArray) ++ (Utf8.encode (wrap32 ((rd_T43 l2 x17_1).f0)))).size + x7_1.size ≤ 9223372036854775807
                      · rw [if_pos c16] at H
                        have c16b0 := eq_true c16
                        have c16b1 : decide (((⟨#[78]⟩ : ByteArray) ++ (Utf8.encode (wrap32 ((rd_T43 l2 x17_1).f0)))).size + x7_1.size ≤ 9223372036854775807) = true := decide_eq_true c16
                        try have c16b2 : (9223372036854775807 < ((⟨#[78]⟩ : ByteArray) ++ (Utf8.encode (wrap32 ((rd_T43 l2 x17_1).f0)))).size + x7_1.size) = False := eq_false (Nat.not_lt.2 c16)
                        try have c16b4 : (9223372036854775807 < 1 + (Utf8.encode (wrap32 ((rd_T43 l2 x17_1).f0))).size + x7_1.size) = False := eq_false (by have h_ := c16; (repeat rw [ByteArray.size_append] at h_); exact Nat.not_lt.2 h_)
                        by_cases c17 : (((⟨#[78]⟩ : ByteArray) ++ (Utf8.encode (wrap32 ((rd_T43 l2 x17_1).f0)))) ++ x7_1).size + (t131 ++ (⟨#[48]⟩ : ByteArray)).size ≤ 9223372036854775807
                        · rw [if_pos c17] at H
                          have c17b0 := eq_true c17
                          have c17b1 : decide ((((⟨#[78]⟩ : ByteArray) ++ (Utf8.encode (wrap32 ((rd_T43 l2 x17_1).f0)))) ++ x7_1).size + (t131 ++ (⟨#[48]⟩ : ByteArray)).size ≤ 9223372036854775807) = true := decide_eq_true c17
                          try have c17b2 : (9223372036854775807 < (((⟨#[78]⟩ : ByteArray) ++ (Utf8.encode (wrap32 ((rd_T43 l2 x17_1).f0)))) ++ x7_1).size + (t131 ++ (⟨#[48]⟩ : ByteArray)).size) = False := eq_false (Nat.not_lt.2 c17)
                          try have c17b4 : (9223372036854775807 < 1 + (Utf8.encode (wrap32 ((rd_T43 l2 x17_1).f0))).size + x7_1.size + (t131.size + 1)) = False := eq_false (by have h_ := c17; (repeat rw [ByteArray.size_append] at h_); exact Nat.not_lt.2 h_)
                          have H' := Aside0.mk H
                          clear H
                          have p128 : 0 ≤ (x17_1 : Int) := of_decide_eq_true (by first | (with_reducible assumption) | assumption)
                          have q128 : x17_1 < (l2.length : Int) := of_decide_eq_true (by first | (with_reducible assumption) | assumption)
                          obtain ⟨ad128, e128, hx128_0, hx128_1, hx128_2⟩ := at_T43 HR2.out x17_1 p128 q128
                          cases e128
                          replace hx128_0 := (HB.out.cell (World.block_lt_of_cell? w _ hx128_0)).trans hx128_0
                          replace hx128_1 := (HB.out.cell (World.block_lt_of_cell? w _ hx128_1)).trans hx128_1
                          replace hx128_2 := (HB.out.cell (World.block_lt_of_cell? w _ hx128_2)).trans hx128_2
                          replace p128 := eq_true p128
                          replace q128 := eq_true q128
                          go_wp2_with (first | (go_at_call 15; refine (idCut_at _ _ _ _ _ _ (by assumption) (by assumption)).mono ?_; rintro e w_ ⟨rfl, rfl⟩) | ((with_reducible refine gate_dst (N := 9) rfl ?_); (try (refine gate_guard (by rfl) ?_; dsimp only)); refine box_event ?hg (N := 9) ?hd (cs := #[.int .u8 0, .string (⟨#[]⟩ : ByteArray), .int .u64 0]) (t := 43) ?hr ?_; (case hd => rfl); (case hg => rfl); (case hr => first | (go_simp; done) | (go_simp; rfl)); intro gb129 hg w18 hbox hb; have n0_ := Aside0.mk (below_step (by repeat (first | (with_reducible first | exact HB.out | apply below_alloc | apply pw_below_drewN | apply below_drew1) | exact HB.out)) hb); have n1_ := Aside0.mk (hbox); have n2_ := Aside0.mk ((by rw [hg]; exact (below_size (by repeat (first | (with_reducible first | exact HB.out | apply below_alloc | apply pw_below_drewN | apply below_drew1) | exact HB.out))) : w.heap.size ≤ gb129)); have n3_ := Aside0.mk ((by rw [hg]; exact (below_size (by repeat (first | (with_reducible first | exact HB.out | apply below_alloc | apply pw_below_drewN | apply below_drew1) | exact HB.out))) : w.heap.size ≤ gb129)); clear HB; have HB := n0_; have BK129 := n1_; have GW129 := n2_; have GE129 := n3_; clear n0_ n1_ n2_ n3_; clear hb hbox hg; have hcz19_0 : w18.cell? ⟨gb129, 0, none⟩ = some (.int .u8 0) := (blk_cell BK129.out 0).trans rfl; have hcz19_1 : w18.cell? ⟨gb129, 1, none⟩ = some (.string (⟨#[]⟩ : ByteArray)) := (blk_cell BK129.out 1).trans rfl; have hcz19_2 : w18.cell? ⟨gb129, 2, none⟩ = some (.int .u64 0) := (blk_cell BK129.out 2).trans rfl; have hfz19_0 := blk_frozen BK129.out 0; have hfz19_1 := blk_frozen BK129.out 1; have hfz19_2 := blk_frozen BK129.out 2) | ((with_reducible refine gate_callee (f := 34) rfl ?_); refine goesL_ (some 26) rfl rfl Tryz.func34 (by kernel_rfl) rfl #[.string ((rd_T43 l2 x17_1).f1), .int .u64 ((rd_T43 l2 x17_1).f2)] rfl (by (try simp only [List.map_toArray, List.map_cons, List.map_nil]); first | done | rfl | (simp only [List.length_drop, List.length_take]; rfl)) ?_; (with_reducible refine (spec_idIdentifier.calls k1 ((rd_T43 l2 x17_1).f1) ((rd_T43 l2 x17_1).f2) t130 _ (show DoorIs _ from ?side1) A10.out).mono ?_); (case side1 => exact Stays.below hT_ (by first | (repeat (first | (with_reducible first | exact HB.out | apply below_alloc | apply pw_below_drewN | apply below_drew1 | refine below_set ?_ GE129.out) | exact HB.out)) | (repeat (first | exact Below.refl _ _ | apply below_drew1 | apply pw_below_drewN)))); rintro e w20 ⟨rfl, hb⟩; refine ⟨_, rfl, ?_⟩; have n0_ := Aside0.mk (blk_below (g := gb129) (o := .cells #[.int .u8 ((rd_T43 l2 x17_1).f0), .string ((rd_T43 l2 x17_1).f1), .int .u64 ((rd_T43 l2 x17_1).f2)] 43 (0, 0)) (by (with_reducible repeat (first | refine blk_drewN ?_ _ | refine blk_drew ?_ | refine blk_alloc ?_ _)); refine blk_put (cs := #[.int .u8 ((rd_T43 l2 x17_1).f0), .string ((rd_T43 l2 x17_1).f1), .int .u64 0]) ?_ 2 _ rfl; (with_reducible repeat (first | refine blk_drewN ?_ _ | refine blk_drew ?_ | refine blk_alloc ?_ _)); refine blk_put (cs := #[.int .u8 ((rd_T43 l2 x17_1).f0), .string (⟨#[]⟩ : ByteArray), .int .u64 0]) ?_ 1 _ rfl; (with_reducible repeat (first | refine blk_drewN ?_ _ | refine blk_drew ?_ | refine blk_alloc ?_ _)); refine blk_put (cs := #[.int .u8 0, .string (⟨#[]⟩ : ByteArray), .int .u64 0]) ?_ 0 _ rfl; (with_reducible repeat (first | refine blk_drewN ?_ _ | refine blk_drew ?_ | refine blk_alloc ?_ _)); exact BK129.out) hb); have n1_ := Aside0.mk (below_step (by repeat (first | (with_reducible first | exact HB.out | apply below_alloc | apply pw_below_drewN | apply below_drew1 | refine below_set ?_ GE129.out) | exact HB.out)) hb); clear BK129; clear HB; have BK129 := n0_; have HB := n1_; clear n0_ n1_; (try clear hb); (try clear hb2); (try clear hk); (try clear hi); have hcz21_0 : w20.cell? ⟨gb129, 0, none⟩ = some (.int .u8 ((rd_T43 l2 x17_1).f0)) := (blk_cell BK129.out 0).trans rfl; have hcz21_1 : w20.cell? ⟨gb129, 1, none⟩ = some (.string ((rd_T43 l2 x17_1).f1)) := (blk_cell BK129.out 1).trans rfl; have hcz21_2 : w20.cell? ⟨gb129, 2, none⟩ = some (.int .u64 ((rd_T43 l2 x17_1).f2)) := (blk_cell BK129.out 2).trans rfl; have hfz21_0 := blk_frozen BK129.out 0; have hfz21_1 := blk_frozen BK129.out 1; have hfz21_2 := blk_frozen BK129.out 2) | ((with_reducible refine gate_callee (f := 35) rfl ?_); refine goesL_ (some 39) rfl rfl Tryz.func35 (by kernel_rfl) rfl #[.int .u64 ((rd_T43 l2 x17_1).f2)] rfl (by (try simp only [List.map_toArray, List.map_cons, List.map_nil]); first | done | rfl | (simp only [List.length_drop, List.length_take]; rfl)) ?_; (with_reducible refine (spec_IdDisambiguator.calls k1 ((rd_T43 l2 x17_1).f2) t131 _ A13.out).mono ?_); rintro e w' ⟨rfl, ⟨nd, rfl⟩⟩; refine ⟨_, rfl, ?_⟩))
                          go_roundg k1
                          case measure => have := HK1.out; omega
                          case rel => exact ⟨((((⟨#[78]⟩ : ByteArray) ++ (Utf8.encode (wrap32 ((rd_T43 l2 x17_1).f0)))) ++ x7_1) ++ (t131 ++ (⟨#[48]⟩ : ByteArray))), (wrap64 (x17_1 + 1)), (by first | rfl | (simp; done) | (simp [*]; done)), (by first | rfl | (simp; done) | (simp [*]; done)), H', ⟨by have := HK1.out; omega⟩, ⟨by repeat (first | (with_reducible first | exact HB.out | apply below_alloc | apply pw_below_drewN | apply below_drew1 | refine below_set ?_ GE129.out) | exact HB.out)⟩⟩
                        · rw [if_neg c17] at H
                          exact absurd H (by simp)
                      · rw [if_neg c16] at H
                        exact absurd H (by simp)
                    · rw [if_neg c15] at H
                      exact absurd H (by simp)
                  · rw [if_neg c14] at H
                    exact absurd H (by simp)
                · rw [if_neg c12] at H
                  have c12b0 : (x17_1 == (wrap64 ((l2.length : Int) - 1))) = false := beq_eq_false_iff_ne.mpr c12
                  have c12b1 : (x17_1 != (wrap64 ((l2.length : Int) - 1))) = true := bne_iff_ne.mpr c12
                  by_cases c22 : 1 + (Utf8.encode (wrap32 ((rd_T43 l2 x17_1).f0))).size ≤ 9223372036854775807
                  · rw [if_pos c22] at H
                    have c22b0 := eq_true c22
                    have c22b1 : decide (1 + (Utf8.encode (wrap32 ((rd_T43 l2 x17_1).f0))).size ≤ 9223372036854775807) = true := decide_eq_true c22
                    try have c22b2 : (9223372036854775807 < 1 + (Utf8.encode (wrap32 ((rd_T43 l2 x17_1).f0))).size) = False := eq_false (Nat.not_lt.2 c22)
                    by_cases c23 : ((⟨#[78]⟩ : ByteArray) ++ (Utf8.encode (wrap32 ((rd_T43 l2 x17_1).f0)))).size + x7_1.size ≤ 9223372036854775807
                    · rw [if_pos c23] at H
                      have c23b0 := eq_true c23
                      have c23b1 : decide (((⟨#[78]⟩ : ByteArray) ++ (Utf8.encode (wrap32 ((rd_T43 l2 x17_1).f0)))).size + x7_1.size ≤ 9223372036854775807) = true := decide_eq_true c23
                      try have c23b2 : (9223372036854775807 < ((⟨#[78]⟩ : ByteArray) ++ (Utf8.encode (wrap32 ((rd_T43 l2 x17_1).f0)))).size + x7_1.size) = False := eq_false (Nat.not_lt.2 c23)
                      try have c23b4 : (9223372036854775807 < 1 + (Utf8.encode (wrap32 ((rd_T43 l2 x17_1).f0))).size + x7_1.size) = False := eq_false (by have h_ := c23; (repeat rw [ByteArray.size_append] at h_); exact Nat.not_lt.2 h_)
                      by_cases c24 : (((⟨#[78]⟩ : ByteArray) ++ (Utf8.encode (wrap32 ((rd_T43 l2 x17_1).f0)))) ++ x7_1).size + t130.size ≤ 9223372036854775807
                      · rw [if_pos c24] at H
                        have c24b0 := eq_true c24
                        have c24b1 : decide ((((⟨#[78]⟩ : ByteArray) ++ (Utf8.encode (wrap32 ((rd_T43 l2 x17_1).f0)))) ++ x7_1).size + t130.size ≤ 9223372036854775807) = true := decide_eq_true c24
                        try have c24b2 : (9223372036854775807 < (((⟨#[78]⟩ : ByteArray) ++ (Utf8.encode (wrap32 ((rd_T43 l2 x17_1).f0)))) ++ x7_1).size + t130.size) = False := eq_false (Nat.not_lt.2 c24)
                        try have c24b4 : (9223372036854775807 < 1 + (Utf8.encode (wrap32 ((rd_T43 l2 x17_1).f0))).size + x7_1.size + t130.size) = False := eq_false (by have h_ := c24; (repeat rw [ByteArray.size_append] at h_); exact Nat.not_lt.2 h_)
                        have H' := Aside0.mk H
                        clear H
                        have p128 : 0 ≤ (x17_1 : Int) := of_decide_eq_true (by first | (with_reducible assumption) | assumption)
                        have q128 : x17_1 < (l2.length : Int) := of_decide_eq_true (by first | (with_reducible assumption) | assumption)
                        obtain ⟨ad128, e128, hx128_0, hx128_1, hx128_2⟩ := at_T43 HR2.out x17_1 p128 q128
                        cases e128
                        replace hx128_0 := (HB.out.cell (World.block_lt_of_cell? w _ hx128_0)).trans hx128_0
                        replace hx128_1 := (HB.out.cell (World.block_lt_of_cell? w _ hx128_1)).trans hx128_1
                        replace hx128_2 := (HB.out.cell (World.block_lt_of_cell? w _ hx128_2)).trans hx128_2
                        replace p128 := eq_true p128
                        replace q128 := eq_true q128
                        go_wp2_with (first | (go_at_call 15; refine (idCut_at _ _ _ _ _ _ (by assumption) (by assumption)).mono ?_; rintro e w_ ⟨rfl, rfl⟩) | ((with_reducible refine gate_dst (N := 9) rfl ?_); (try (refine gate_guard (by rfl) ?_; dsimp only)); refine box_event ?hg (N := 9) ?hd (cs := #[.int .u8 0, .string (⟨#[]⟩ : ByteArray), .int .u64 0]) (t := 43) ?hr ?_; (case hd => rfl); (case hg => rfl); (case hr => first | (go_simp; done) | (go_simp; rfl)); intro gb129 hg w25 hbox hb; have n0_ := Aside0.mk (below_step (by repeat (first | (with_reducible first | exact HB.out | apply below_alloc | apply pw_below_drewN | apply below_drew1) | exact HB.out)) hb); have n1_ := Aside0.mk (hbox); have n2_ := Aside0.mk ((by rw [hg]; exact (below_size (by repeat (first | (with_reducible first | exact HB.out | apply below_alloc | apply pw_below_drewN | apply below_drew1) | exact HB.out))) : w.heap.size ≤ gb129)); have n3_ := Aside0.mk ((by rw [hg]; exact (below_size (by repeat (first | (with_reducible first | exact HB.out | apply below_alloc | apply pw_below_drewN | apply below_drew1) | exact HB.out))) : w.heap.size ≤ gb129)); clear HB; have HB := n0_; have BK129 := n1_; have GW129 := n2_; have GE129 := n3_; clear n0_ n1_ n2_ n3_; clear hb hbox hg; have hcz26_0 : w25.cell? ⟨gb129, 0, none⟩ = some (.int .u8 0) := (blk_cell BK129.out 0).trans rfl; have hcz26_1 : w25.cell? ⟨gb129, 1, none⟩ = some (.string (⟨#[]⟩ : ByteArray)) := (blk_cell BK129.out 1).trans rfl; have hcz26_2 : w25.cell? ⟨gb129, 2, none⟩ = some (.int .u64 0) := (blk_cell BK129.out 2).trans rfl; have hfz26_0 := blk_frozen BK129.out 0; have hfz26_1 := blk_frozen BK129.out 1; have hfz26_2 := blk_frozen BK129.out 2) | ((with_reducible refine gate_callee (f := 34) rfl ?_); refine goesL_ (some 26) rfl rfl Tryz.func34 (by kernel_rfl) rfl #[.string ((rd_T43 l2 x17_1).f1), .int .u64 ((rd_T43 l2 x17_1).f2)] rfl (by (try simp only [List.map_toArray, List.map_cons, List.map_nil]); first | done | rfl | (simp only [List.length_drop, List.length_take]; rfl)) ?_; (with_reducible refine (spec_idIdentifier.calls k1 ((rd_T43 l2 x17_1).f1) ((rd_T43 l2 x17_1).f2) t130 _ (show DoorIs _ from ?side1) A10.out).mono ?_); (case side1 => exact Stays.below hT_ (by first | (repeat (first | (with_reducible first | exact HB.out | apply below_alloc | apply pw_below_drewN | apply below_drew1 | refine below_set ?_ GE129.out) | exact HB.out)) | (repeat (first | exact Below.refl _ _ | apply below_drew1 | apply pw_below_drewN)))); rintro e w27 ⟨rfl, hb⟩; refine ⟨_, rfl, ?_⟩; have n0_ := Aside0.mk (blk_below (g := gb129) (o := .cells #[.int .u8 ((rd_T43 l2 x17_1).f0), .string ((rd_T43 l2 x17_1).f1), .int .u64 ((rd_T43 l2 x17_1).f2)] 43 (0, 0)) (by (with_reducible repeat (first | refine blk_drewN ?_ _ | refine blk_drew ?_ | refine blk_alloc ?_ _)); refine blk_put (cs := #[.int .u8 ((rd_T43 l2 x17_1).f0), .string ((rd_T43 l2 x17_1).f1), .int .u64 0]) ?_ 2 _ rfl; (with_reducible repeat (first | refine blk_drewN ?_ _ | refine blk_drew ?_ | refine blk_alloc ?_ _)); refine blk_put (cs := #[.int .u8 ((rd_T43 l2 x17_1).f0), .string (⟨#[]⟩ : ByteArray), .int .u64 0]) ?_ 1 _ rfl; (with_reducible repeat (first | refine blk_drewN ?_ _ | refine blk_drew ?_ | refine blk_alloc ?_ _)); refine blk_put (cs := #[.int .u8 0, .string (⟨#[]⟩ : ByteArray), .int .u64 0]) ?_ 0 _ rfl; (with_reducible repeat (first | refine blk_drewN ?_ _ | refine blk_drew ?_ | refine blk_alloc ?_ _)); exact BK129.out) hb); have n1_ := Aside0.mk (below_step (by repeat (first | (with_reducible first | exact HB.out | apply below_alloc | apply pw_below_drewN | apply below_drew1 | refine below_set ?_ GE129.out) | exact HB.out)) hb); clear BK129; clear HB; have BK129 := n0_; have HB := n1_; clear n0_ n1_; (try clear hb); (try clear hb2); (try clear hk); (try clear hi); have hcz28_0 : w27.cell? ⟨gb129, 0, none⟩ = some (.int .u8 ((rd_T43 l2 x17_1).f0)) := (blk_cell BK129.out 0).trans rfl; have hcz28_1 : w27.cell? ⟨gb129, 1, none⟩ = some (.string ((rd_T43 l2 x17_1).f1)) := (blk_cell BK129.out 1).trans rfl; have hcz28_2 : w27.cell? ⟨gb129, 2, none⟩ = some (.int .u64 ((rd_T43 l2 x17_1).f2)) := (blk_cell BK129.out 2).trans rfl; have hfz28_0 := blk_frozen BK129.out 0; have hfz28_1 := blk_frozen BK129.out 1; have hfz28_2 := blk_frozen BK129.out 2))
                        go_roundg k1
                        case measure => have := HK1.out; omega
                        case rel => exact ⟨((((⟨#[78]⟩ : ByteArray) ++ (Utf8.encode (wrap32 ((rd_T43 l2 x17_1).f0)))) ++ x7_1) ++ t130), (wrap64 (x17_1 + 1)), (by first | rfl | (simp; done) | (simp [*]; done)), (by first | rfl | (simp; done) | (simp [*]; done)), H', ⟨by have := HK1.out; omega⟩, ⟨by repeat (first | (with_reducible first | exact HB.out | apply below_alloc | apply pw_below_drewN | apply below_drew1 | refine below_set ?_ GE129.out) | exact HB.out)⟩⟩
                      · rw [if_neg c24] at H
                        exact absurd H (by simp)
                    · rw [if_neg c23] at H
                      exact absurd H (by simp)
                  · rw [if_neg c22] at H
                    exact absurd H (by simp)
              · rw [if_neg c11] at H
                have c11b0 : (((rd_T43 l2 x17_1).f1).toList == ([] : List UInt8)) = false := beq_eq_false_iff_ne.mpr c11
                have c11b1 : (((rd_T43 l2 x17_1).f1).toList != ([] : List UInt8)) = true := bne_iff_ne.mpr c11
                by_cases c29 : 1 + (Utf8.encode (wrap32 ((rd_T43 l2 x17_1).f0))).size ≤ 9223372036854775807
                · rw [if_pos c29] at H
                  have c29b0 := eq_true c29
                  have c29b1 : decide (1 + (Utf8.encode (wrap32 ((rd_T43 l2 x17_1).f0))).size ≤ 9223372036854775807) = true := decide_eq_true c29
                  try have c29b2 : (9223372036854775807 < 1 + (Utf8.encode (wrap32 ((rd_T43 l2 x17_1).f0))).size) = False := eq_false (Nat.not_lt.2 c29)
                  by_cases c30 : ((⟨#[78]⟩ : ByteArray) ++ (Utf8.encode (wrap32 ((rd_T43 l2 x17_1).f0)))).size + x7_1.size ≤ 9223372036854775807
                  · rw [if_pos c30] at H
                    have c30b0 := eq_true c30
                    have c30b1 : decide (((⟨#[78]⟩ : ByteArray) ++ (Utf8.encode (wrap32 ((rd_T43 l2 x17_1).f0)))).size + x7_1.size ≤ 9223372036854775807) = true := decide_eq_true c30
                    try have c30b2 : (9223372036854775807 < ((⟨#[78]⟩ : ByteArray) ++ (Utf8.encode (wrap32 ((rd_T43 l2 x17_1).f0)))).size + x7_1.size) = False := eq_false (Nat.not_lt.2 c30)
                    try have c30b4 : (9223372036854775807 < 1 + (Utf8.encode (wrap32 ((rd_T43 l2 x17_1).f0))).size + x7_1.size) = False := eq_false (by have h_ := c30; (repeat rw [ByteArray.size_append] at h_); exact Nat.not_lt.2 h_)
                    by_cases c31 : (((⟨#[78]⟩ : ByteArray) ++ (Utf8.encode (wrap32 ((rd_T43 l2 x17_1).f0)))) ++ x7_1).size + t130.size ≤ 9223372036854775807
                    · rw [if_pos c31] at H
                      have c31b0 := eq_true c31
                      have c31b1 : decide ((((⟨#[78]⟩ : ByteArray) ++ (Utf8.encode (wrap32 ((rd_T43 l2 x17_1).f0)))) ++ x7_1).size + t130.size ≤ 9223372036854775807) = true := decide_eq_true c31
                      try have c31b2 : (9223372036854775807 < (((⟨#[78]⟩ : ByteArray) ++ (Utf8.encode (wrap32 ((rd_T43 l2 x17_1).f0)))) ++ x7_1).size + t130.size) = False := eq_false (Nat.not_lt.2 c31)
                      try have c31b4 : (9223372036854775807 < 1 + (Utf8.encode (wrap32 ((rd_T43 l2 x17_1).f0))).size + x7_1.size + t130.size) = False := eq_false (by have h_ := c31; (repeat rw [ByteArray.size_append] at h_); exact Nat.not_lt.2 h_)
                      have H' := Aside0.mk H
                      clear H
                      have p128 : 0 ≤ (x17_1 : Int) := of_decide_eq_true (by first | (with_reducible assumption) | assumption)
                      have q128 : x17_1 < (l2.length : Int) := of_decide_eq_true (by first | (with_reducible assumption) | assumption)
                      obtain ⟨ad128, e128, hx128_0, hx128_1, hx128_2⟩ := at_T43 HR2.out x17_1 p128 q128
                      cases e128
                      replace hx128_0 := (HB.out.cell (World.block_lt_of_cell? w _ hx128_0)).trans hx128_0
                      replace hx128_1 := (HB.out.cell (World.block_lt_of_cell? w _ hx128_1)).trans hx128_1
                      replace hx128_2 := (HB.out.cell (World.block_lt_of_cell? w _ hx128_2)).trans hx128_2
                      replace p128 := eq_true p128
                      replace q128 := eq_true q128
                      go_wp2_with (first | (go_at_call 15; refine (idCut_at _ _ _ _ _ _ (by assumption) (by assumption)).mono ?_; rintro e w_ ⟨rfl, rfl⟩) | ((with_reducible refine gate_dst (N := 9) rfl ?_); (try (refine gate_guard (by rfl) ?_; dsimp only)); refine box_event ?hg (N := 9) ?hd (cs := #[.int .u8 0, .string (⟨#[]⟩ : ByteArray), .int .u64 0]) (t := 43) ?hr ?_; (case hd => rfl); (case hg => rfl); (case hr => first | (go_simp; done) | (go_simp; rfl)); intro gb129 hg w32 hbox hb; have n0_ := Aside0.mk (below_step (by repeat (first | (with_reducible first | exact HB.out | apply below_alloc | apply pw_below_drewN | apply below_drew1) | exact HB.out)) hb); have n1_ := Aside0.mk (hbox); have n2_ := Aside0.mk ((by rw [hg]; exact (below_size (by repeat (first | (with_reducible first | exact HB.out | apply below_alloc | apply pw_below_drewN | apply below_drew1) | exact HB.out))) : w.heap.size ≤ gb129)); have n3_ := Aside0.mk ((by rw [hg]; exact (below_size (by repeat (first | (with_reducible first | exact HB.out | apply below_alloc | apply pw_below_drewN | apply below_drew1) | exact HB.out))) : w.heap.size ≤ gb129)); clear HB; have HB := n0_; have BK129 := n1_; have GW129 := n2_; have GE129 := n3_; clear n0_ n1_ n2_ n3_; clear hb hbox hg; have hcz33_0 : w32.cell? ⟨gb129, 0, none⟩ = some (.int .u8 0) := (blk_cell BK129.out 0).trans rfl; have hcz33_1 : w32.cell? ⟨gb129, 1, none⟩ = some (.string (⟨#[]⟩ : ByteArray)) := (blk_cell BK129.out 1).trans rfl; have hcz33_2 : w32.cell? ⟨gb129, 2, none⟩ = some (.int .u64 0) := (blk_cell BK129.out 2).trans rfl; have hfz33_0 := blk_frozen BK129.out 0; have hfz33_1 := blk_frozen BK129.out 1; have hfz33_2 := blk_frozen BK129.out 2) | ((with_reducible refine gate_callee (f := 34) rfl ?_); refine goesL_ (some 26) rfl rfl Tryz.func34 (by kernel_rfl) rfl #[.string ((rd_T43 l2 x17_1).f1), .int .u64 ((rd_T43 l2 x17_1).f2)] rfl (by (try simp only [List.map_toArray, List.map_cons, List.map_nil]); first | done | rfl | (simp only [List.length_drop, List.length_take]; rfl)) ?_; (with_reducible refine (spec_idIdentifier.calls k1 ((rd_T43 l2 x17_1).f1) ((rd_T43 l2 x17_1).f2) t130 _ (show DoorIs _ from ?side1) A10.out).mono ?_); (case side1 => exact Stays.below hT_ (by first | (repeat (first | (with_reducible first | exact HB.out | apply below_alloc | apply pw_below_drewN | apply below_drew1 | refine below_set ?_ GE129.out) | exact HB.out)) | (repeat (first | exact Below.refl _ _ | apply below_drew1 | apply pw_below_drewN)))); rintro e w34 ⟨rfl, hb⟩; refine ⟨_, rfl, ?_⟩; have n0_ := Aside0.mk (blk_below (g := gb129) (o := .cells #[.int .u8 ((rd_T43 l2 x17_1).f0), .string ((rd_T43 l2 x17_1).f1), .int .u64 ((rd_T43 l2 x17_1).f2)] 43 (0, 0)) (by (with_reducible repeat (first | refine blk_drewN ?_ _ | refine blk_drew ?_ | refine blk_alloc ?_ _)); refine blk_put (cs := #[.int .u8 ((rd_T43 l2 x17_1).f0), .string ((rd_T43 l2 x17_1).f1), .int .u64 0]) ?_ 2 _ rfl; (with_reducible repeat (first | refine blk_drewN ?_ _ | refine blk_drew ?_ | refine blk_alloc ?_ _)); refine blk_put (cs := #[.int .u8 ((rd_T43 l2 x17_1).f0), .string (⟨#[]⟩ : ByteArray), .int .u64 0]) ?_ 1 _ rfl; (with_reducible repeat (first | refine blk_drewN ?_ _ | refine blk_drew ?_ | refine blk_alloc ?_ _)); refine blk_put (cs := #[.int .u8 0, .string (⟨#[]⟩ : ByteArray), .int .u64 0]) ?_ 0 _ rfl; (with_reducible repeat (first | refine blk_drewN ?_ _ | refine blk_drew ?_ | refine blk_alloc ?_ _)); exact BK129.out) hb); have n1_ := Aside0.mk (below_step (by repeat (first | (with_reducible first | exact HB.out | apply below_alloc | apply pw_below_drewN | apply below_drew1 | refine below_set ?_ GE129.out) | exact HB.out)) hb); clear BK129; clear HB; have BK129 := n0_; have HB := n1_; clear n0_ n1_; (try clear hb); (try clear hb2); (try clear hk); (try clear hi); have hcz35_0 : w34.cell? ⟨gb129, 0, none⟩ = some (.int .u8 ((rd_T43 l2 x17_1).f0)) := (blk_cell BK129.out 0).trans rfl; have hcz35_1 : w34.cell? ⟨gb129, 1, none⟩ = some (.string ((rd_T43 l2 x17_1).f1)) := (blk_cell BK129.out 1).trans rfl; have hcz35_2 : w34.cell? ⟨gb129, 2, none⟩ = some (.int .u64 ((rd_T43 l2 x17_1).f2)) := (blk_cell BK129.out 2).trans rfl; have hfz35_0 := blk_frozen BK129.out 0; have hfz35_1 := blk_frozen BK129.out 1; have hfz35_2 := blk_frozen BK129.out 2))
                      go_roundg k1
                      case measure => have := HK1.out; omega
                      case rel => exact ⟨((((⟨#[78]⟩ : ByteArray) ++ (Utf8.encode (wrap32 ((rd_T43 l2 x17_1).f0)))) ++ x7_1) ++ t130), (wrap64 (x17_1 + 1)), (by first | rfl | (simp; done) | (simp [*]; done)), (by first | rfl | (simp; done) | (simp [*]; done)), H', ⟨by have := HK1.out; omega⟩, ⟨by repeat (first | (with_reducible first | exact HB.out | apply below_alloc | apply pw_below_drewN | apply below_drew1 | refine below_set ?_ GE129.out) | exact HB.out)⟩⟩
                    · rw [if_neg c31] at H
                      exact absurd H (by simp)
                  · rw [if_neg c30] at H
                    exact absurd H (by simp)
                · rw [if_neg c29] at H
                  exact absurd H (by simp)
            · rw [if_neg c9] at H
              exact absurd H (by simp)
          · rw [if_neg c8] at H
            exact absurd H (by simp)
        · rw [if_neg c7] at H
          have c7b0 : decide (x17_1 < (l2.length : Int)) = false := decide_eq_false c7
          clear c7
          obtain rfl := Option.some.inj H
          go_wp2
          go_ret
          exact ⟨by first | rfl | (simp [errW_none, errW_some] <;> rfl) | (simp [*, errW_none, errW_some] <;> rfl), by repeat (first | (with_reducible first | exact HB.out | apply below_alloc | apply pw_below_drewN | apply below_drew1) | exact HB.out)⟩
  · rw [if_neg c5] at H
    exact absurd H (by simp)

/-! ### laws_idRefused: function 24 -/
def laws_idRefused.f (a0 : ByteArray) : Option (Bool) := (impl_Told.f a0 false false false false false false false 0).bind fun bt132 => (some (bt132.2 != 0))
set_option maxHeartbeats 8000000 in
set_option maxRecDepth 100000 in
theorem laws_idRefused.calls (a0 : ByteArray) (r : Bool) (w : World) (hT_ : DoorIs w) (h : laws_idRefused.f a0 = some r) :
    Calls Tryz.prog 24 #[.string a0] w fun e w' => e = .returned (.bool r) ∧ Below w.heap.size w w' := by
  have hu34 := Tryz.underlying34
  have HB := Aside0.mk (Below.refl w.heap.size w)
  have H : ((impl_Told.f a0 false false false false false false false 0).bind fun bt132 => (some (bt132.2 != 0))) = some r := h
  clear h
  replace H := Option.bind_eq_some_iff.mp H
  obtain ⟨⟨t132, t133⟩, A20, H⟩ := H
  replace H : (some (t133 != 0)) = some r := H
  have A2 := Aside0.mk A20
  clear A20
  obtain rfl := Option.some.inj H
  go_enter Tryz.func24, Tryz.ntmps24
  go_wp2_with (first | (go_at_call 15; refine (idCut_at _ _ _ _ _ _ (by assumption) (by assumption)).mono ?_; rintro e w_ ⟨rfl, rfl⟩) | ((with_reducible refine gate_callee (f := 17) rfl ?_); refine goesL_ (some 8) rfl rfl Tryz.func17 (by kernel_rfl) rfl #[.string a0, .agg #[.bool false, .bool false, .bool false, .bool false, .bool false, .bool false, .bool false, .int .i64 0]] rfl (by (try simp only [List.map_toArray, List.map_cons, List.map_nil]); first | done | rfl | (simp only [List.length_drop, List.length_take]; rfl)) ?_; (with_reducible refine (impl_Told.calls a0 false false false false false false false 0 t132 t133 _ (show DoorIs _ from ?side1) A2.out).mono ?_); (case side1 => exact Stays.below hT_ (by first | (repeat (first | (with_reducible first | exact HB.out | apply below_alloc | apply pw_below_drewN | apply below_drew1) | exact HB.out)) | (repeat (first | exact Below.refl _ _ | apply below_drew1 | apply pw_below_drewN)))); rintro e w3 ⟨rfl, hb⟩; refine ⟨_, rfl, ?_⟩; have n0_ := Aside0.mk (below_step (by repeat (first | (with_reducible first | exact HB.out | apply below_alloc | apply pw_below_drewN | apply below_drew1) | exact HB.out)) hb); clear HB; have HB := n0_; clear n0_; (try clear hb); (try clear hb2); (try clear hk); (try clear hi)))
  go_ret
  exact ⟨by first | rfl | (simp [errW_none, errW_some] <;> rfl) | (simp [*, errW_none, errW_some] <;> rfl), by repeat (first | (with_reducible first | exact HB.out | apply below_alloc | apply pw_below_drewN | apply below_drew1) | exact HB.out)⟩

/-! ### laws_FnCutRefused: function 7 -/
def laws_FnCutRefused.j0 : Nat → List Int → List (List Int) → List Int → Int → Bool → Option (Bool)
  | 0, _, _, _, _, _ => none
  | k + 1, x0, x1, x2, x3, x22 => if x22 = true then (some true) else (if 0 ≤ (mn (x0.length : Int) 1000) then (if (mn (x0.length : Int) 1000) ≤ (x0.length : Int) then ((spec_AnPlain.f k (x0.take ((mn (x0.length : Int) 1000) : Int).toNat)).bind fun t136 => ((laws_idSmall.f k x1 x2 ([] : List Int)).bind fun t137 => ((spec_IdSymbol.f k t136 0 t137).bind fun t140 => (if 2 + t140.size ≤ 9223372036854775807 then ((laws_idAt.f x3 (((⟨#[95, 82]⟩ : ByteArray) ++ t140).size : Int)).bind fun t141 => (if 0 ≤ t141 then (if t141 ≤ (((⟨#[95, 82]⟩ : ByteArray) ++ t140).size : Int) then ((laws_idRefused.f (((⟨#[95, 82]⟩ : ByteArray) ++ t140).extract 0 (t141 : Int).toNat)).bind fun t142 => (some t142)) else (none)) else (none))) else (none))))) else (none)) else (none))
def laws_FnCutRefused.f (k : Nat) (l0 : List Int) (l1 : List (List Int)) (l2 : List Int) (a3 : Int) : Option (Bool) := if (l0.length : Int) > 2147483647 then (laws_FnCutRefused.j0 k l0 l1 l2 a3 true) else ((laws_zzFits1.f k l1).bind fun t134 => (if t134 = true then (laws_FnCutRefused.j0 k l0 l1 l2 a3 (decide ((l2.length : Int) > 2147483647))) else (laws_FnCutRefused.j0 k l0 l1 l2 a3 true)))
theorem laws_FnCutRefused.mono_l : ∀ k, (∀ y0 y1 y2 y3 y4, LeO (laws_FnCutRefused.j0 k y0 y1 y2 y3 y4) (laws_FnCutRefused.j0 (k + 1) y0 y1 y2 y3 y4))
  | 0 => fun _ _ _ _ _ r h => by simp [laws_FnCutRefused.j0] at h
  | k + 1 => by
    have ih0 := laws_FnCutRefused.mono_l k
    · intro y0 y1 y2 y3 y4
      unfold laws_FnCutRefused.j0
      repeat' first
      | (with_reducible exact ih0 _ _ _ _ _)
      | (with_reducible exact laws_idSmall.mono _ _ _ _)
      | (with_reducible exact laws_zzFits1.mono _ _)
      | (with_reducible exact spec_AnPlain.mono _ _)
      | (with_reducible exact spec_IdSymbol.mono _ _ _ _)
      | (with_reducible exact LeO.refl _)
      | (with_reducible exact LeO.none _)
      | (with_reducible refine LeO.ite ?_ ?_)
      | (with_reducible refine LeO.bind ?_ (fun _ => ?_))
      | exact ih0 _ _ _ _ _
      | exact laws_idSmall.mono _ _ _ _
      | exact laws_zzFits1.mono _ _
      | exact spec_AnPlain.mono _ _
      | exact spec_IdSymbol.mono _ _ _ _
      | exact LeO.none _
      | refine LeO.ite ?_ ?_
      | refine LeO.bind ?_ (fun _ => ?_)
theorem laws_FnCutRefused.mono : ∀ a0 a1 a2 a3 k, LeO (laws_FnCutRefused.f k a0 a1 a2 a3) (laws_FnCutRefused.f (k + 1) a0 a1 a2 a3) := by
  intro a0 a1 a2 a3 k
  have ih0 := laws_FnCutRefused.mono_l k
  unfold laws_FnCutRefused.f
  repeat' first
      | (with_reducible exact ih0 _ _ _ _ _)
      | (with_reducible exact laws_idSmall.mono _ _ _ _)
      | (with_reducible exact laws_zzFits1.mono _ _)
      | (with_reducible exact spec_AnPlain.mono _ _)
      | (with_reducible exact spec_IdSymbol.mono _ _ _ _)
      | (with_reducible exact LeO.refl _)
      | (with_reducible exact LeO.none _)
      | (with_reducible refine LeO.ite ?_ ?_)
      | (with_reducible refine LeO.bind ?_ (fun _ => ?_))
      | exact ih0 _ _ _ _ _
      | exact laws_idSmall.mono _ _ _ _
      | exact laws_zzFits1.mono _ _
      | exact spec_AnPlain.mono _ _
      | exact spec_IdSymbol.mono _ _ _ _
      | exact LeO.none _
      | refine LeO.ite ?_ ?_
      | refine LeO.bind ?_ (fun _ => ?_)
set_option maxHeartbeats 8000000 in
set_option maxRecDepth 100000 in
theorem laws_FnCutRefused.calls (k : Nat) (A0 : Option Addr) (c0 : Nat) (l0 : List Int) (A1 : Option Addr) (c1 : Nat) (l1 : List (List Int)) (A2 : Option Addr) (c2 : Nat) (l2 : List Int) (a3 : Int) (r : Bool) (w : World) (hr0 : Kd.C (Kd.int .u8) w A0 l0.length l0) (hc0 : l0.length ≤ c0) (hr1 : Kd.C (Kd.slice 5 (Kd.int .u8)) w A1 l1.length l1) (hc1 : l1.length ≤ c1) (hr2 : Kd.C (Kd.int .u8) w A2 l2.length l2) (hc2 : l2.length ≤ c2) (hT_ : DoorIs w) (h : laws_FnCutRefused.f k l0 l1 l2 a3 = some r) :
    Calls Tryz.prog 7 #[.slice A0 l0.length c0, .slice A1 l1.length c1, .slice A2 l2.length c2, .int .i64 a3] w fun e w' => e = .returned (.bool r) ∧ Below w.heap.size w w' := by
  have HR0 := Aside0.mk hr0
  have HC0 := Aside0.mk hc0
  clear hr0 hc0
  have HR1 := Aside0.mk hr1
  have HC1 := Aside0.mk hc1
  clear hr1 hc1
  have HR2 := Aside0.mk hr2
  have HC2 := Aside0.mk hc2
  clear hr2 hc2
  have HB := Aside0.mk (Below.refl w.heap.size w)
  have H : (if (l0.length : Int) > 2147483647 then (laws_FnCutRefused.j0 k l0 l1 l2 a3 true) else ((laws_zzFits1.f k l1).bind fun t134 => (if t134 = true then (laws_FnCutRefused.j0 k l0 l1 l2 a3 (decide ((l2.length : Int) > 2147483647))) else (laws_FnCutRefused.j0 k l0 l1 l2 a3 true)))) = some r := h
  clear h
  have HC5 := Aside0.mk H
  clear H
  go_enter Tryz.func7, Tryz.ntmps7
  go_upto_region 1 with (fail)
  go_cut [22] (fun v22 wc => ∃ (kq : Nat) (x22_4 : Bool), v22 = .bool x22_4 ∧ Aside0 (laws_FnCutRefused.j0 kq l0 l1 l2 a3 x22_4 = some r) ∧ Aside0 (kq ≤ k) ∧ Aside0 (Below w.heap.size w wc))
  case first =>
    have H := HC5.out
    clear HC5
    by_cases c6 : (l0.length : Int) > 2147483647
    · rw [if_pos c6] at H
      have c6b0 : decide (2147483647 < (l0.length : Int)) = true := decide_eq_true c6
      have c6b1 : decide (2147483647 < l0.length) = true := decide_eq_true (by omega)
      clear c6
      (first | rw [c6b0] | (simp only [i64_w, i32_w]; rw [c6b0]) | rw [c6b1] | skip)
      have H' := Aside0.mk H
      clear H
      go_wp2
      go_meet
      case rel => exact ⟨_, (true), (by first | rfl | (simp; done) | (simp [*]; done)), H', ⟨by first | omega | exact Nat.le_refl _⟩, ⟨by repeat (first | (with_reducible first | exact HB.out | apply below_alloc | apply pw_below_drewN | apply below_drew1) | exact HB.out)⟩⟩
    · rw [if_neg c6] at H
      have c6b0 : decide (2147483647 < (l0.length : Int)) = false := decide_eq_false c6
      have c6b1 : decide (2147483647 < l0.length) = false := decide_eq_false (by omega)
      clear c6
      (first | rw [c6b0] | (simp only [i64_w, i32_w]; rw [c6b0]) | rw [c6b1] | skip)
      replace H := Option.bind_eq_some_iff.mp H
      obtain ⟨t134, A70, H⟩ := H
      try rw [show (((⟨#[95, 82]⟩ : ByteArray) ++ t140).size : Int) = 2 + (t140.size : Int) from by rw [ByteArray.size_append]; have e_ : (⟨#[95, 82]⟩ : ByteArray).size = 2 := rfl; rw [e_]; omega] at A70
      replace H : (if t134 = true then (laws_FnCutRefused.j0 k l0 l1 l2 a3 (decide ((l2.length : Int) > 2147483647))) else (laws_FnCutRefused.j0 k l0 l1 l2 a3 true)) = some r := H
      have A7 := Aside0.mk A70
      clear A70
      by_cases c8 : t134 = true
      · subst c8
        have H1 : (laws_FnCutRefused.j0 k l0 l1 l2 a3 (decide ((l2.length : Int) > 2147483647))) = some r := by rw [if_pos rfl] at H; exact H
        clear H
        have H := H1
        clear H1
        have H' := Aside0.mk H
        clear H
        go_wp2_with (first | (go_at_call 15; refine (idCut_at _ _ _ _ _ _ (by assumption) (by assumption)).mono ?_; rintro e w_ ⟨rfl, rfl⟩) | (go_at_call 13; (with_reducible refine (laws_zzFits1.calls k _ _ l1 true _ ?side1 ?side2 A7.out).mono ?_); (case side1 => repeat (first | exact (Kd.C_below HR1.out HB.out) | (with_reducible refine Kd.C_alloc ?_ _) | (with_reducible refine Kd.C_drewN ?_ _) | (with_reducible refine Kd.C_drew ?_))); (case side2 => exact HC1.out); rintro e w' ⟨rfl, ⟨nd, rfl⟩⟩))
        go_meet
        case rel => exact ⟨_, (decide ((l2.length : Int) > 2147483647)), (by first | rfl | (simp; done) | (simp [*]; done)), H', ⟨by first | omega | exact Nat.le_refl _⟩, ⟨by repeat (first | (with_reducible first | exact HB.out | apply below_alloc | apply pw_below_drewN | apply below_drew1) | exact HB.out)⟩⟩
      · replace c8 := Bool.eq_false_iff.mpr c8
        subst c8
        have H1 : (laws_FnCutRefused.j0 k l0 l1 l2 a3 true) = some r := by rw [if_neg (show ¬ (false = true) by decide)] at H; exact H
        clear H
        have H := H1
        clear H1
        have H' := Aside0.mk H
        clear H
        go_wp2_with (first | (go_at_call 15; refine (idCut_at _ _ _ _ _ _ (by assumption) (by assumption)).mono ?_; rintro e w_ ⟨rfl, rfl⟩) | (go_at_call 13; (with_reducible refine (laws_zzFits1.calls k _ _ l1 false _ ?side1 ?side2 A7.out).mono ?_); (case side1 => repeat (first | exact (Kd.C_below HR1.out HB.out) | (with_reducible refine Kd.C_alloc ?_ _) | (with_reducible refine Kd.C_drewN ?_ _) | (with_reducible refine Kd.C_drew ?_))); (case side2 => exact HC1.out); rintro e w' ⟨rfl, ⟨nd, rfl⟩⟩))
        go_meet
        case rel => exact ⟨_, (true), (by first | rfl | (simp; done) | (simp [*]; done)), H', ⟨by first | omega | exact Nat.le_refl _⟩, ⟨by repeat (first | (with_reducible first | exact HB.out | apply below_alloc | apply pw_below_drewN | apply below_drew1) | exact HB.out)⟩⟩
  case rest =>
    clear HC5
    try clear c1
    try clear c2
    try clear p2
    try clear c6
    try clear c6b0
    try clear c6b1
    try clear c7
    try clear c8
    obtain ⟨kq, x22_4, rfl, HA, HJ4, HB⟩ := hcut
    cases kq with
    | zero => exact absurd HA.out (by simp [laws_FnCutRefused.j0])
    | succ kj4 =>
      have H := HA.out
      clear HA
      simp only [laws_FnCutRefused.j0] at H
      by_cases c9 : x22_4 = true
      · subst c9
        have H1 : (some true) = some r := by rw [if_pos rfl] at H; exact H
        clear H
        have H := H1
        clear H1
        obtain rfl := Option.some.inj H
        go_wp2
        go_ret
        exact ⟨by first | rfl | (simp [errW_none, errW_some] <;> rfl) | (simp [*, errW_none, errW_some] <;> rfl), by repeat (first | (with_reducible first | exact HB.out | apply below_alloc | apply pw_below_drewN | apply below_drew1) | exact HB.out)⟩
      · replace c9 := Bool.eq_false_iff.mpr c9
        subst c9
        have H1 : (if 0 ≤ (mn (l0.length : Int) 1000) then (if (mn (l0.length : Int) 1000) ≤ (l0.length : Int) then ((spec_AnPlain.f kj4 (l0.take ((mn (l0.length : Int) 1000) : Int).toNat)).bind fun t136 => ((laws_idSmall.f kj4 l1 l2 ([] : List Int)).bind fun t137 => ((spec_IdSymbol.f kj4 t136 0 t137).bind fun t140 => (if 2 + t140.size ≤ 9223372036854775807 then ((laws_idAt.f a3 (((⟨#[95, 82]⟩ : ByteArray) ++ t140).size : Int)).bind fun t141 => (if 0 ≤ t141 then (if t141 ≤ (((⟨#[95, 82]⟩ : ByteArray) ++ t140).size : Int) then ((laws_idRefused.f (((⟨#[95, 82]⟩ : ByteArray) ++ t140).extract 0 (t141 : Int).toNat)).bind fun t142 => (some t142)) else (none)) else (none))) else (none))))) else (none)) else (none)) = some r := by rw [if_neg (show ¬ (false = true) by decide)] at H; exact H
        clear H
        have H := H1
        clear H1
        obtain ⟨ji10, hji10⟩ : ∃ j_ : Int, (mn (l0.length : Int) 1000) = j_ := ⟨_, rfl⟩
        replace H : (if 0 ≤ (ji10) then (if (ji10) ≤ (l0.length : Int) then ((spec_AnPlain.f kj4 (l0.take ((ji10) : Int).toNat)).bind fun t136 => ((laws_idSmall.f kj4 l1 l2 ([] : List Int)).bind fun t137 => ((spec_IdSymbol.f kj4 t136 0 t137).bind fun t140 => (if 2 + t140.size ≤ 9223372036854775807 then ((laws_idAt.f a3 (((⟨#[95, 82]⟩ : ByteArray) ++ t140).size : Int)).bind fun t141 => (if 0 ≤ t141 then (if t141 ≤ (((⟨#[95, 82]⟩ : ByteArray) ++ t140).size : Int) then ((laws_idRefused.f (((⟨#[95, 82]⟩ : ByteArray) ++ t140).extract 0 (t141 : Int).toNat)).bind fun t142 => (some t142)) else (none)) else (none))) else (none))))) else (none)) else (none)) = some r := by first | (rw [hji10] at H; exact H) | (simp only [hji10] at H ⊢; exact H)
        (try (have hji10h : ji10 ≤ 1000 := by (rw [← hji10]; unfold mn; (repeat' split) <;> omega)))
        (try (have hji10g : ji10 ≤ 64 := by omega))
        (try (have hji10l : 0 ≤ ji10 := by (rw [← hji10]; unfold mn; (repeat' split) <;> omega)))
        (try (have hji10m : 0 ≤ ji10 := by omega))
        have hji10_ : (if 1000 < (l0.length : Int) then 1000 else (l0.length : Int)) = ji10 := hji10
        by_cases c11 : 0 ≤ (ji10)
        · rw [if_pos c11] at H
          have c11b0 := eq_true c11
          have c11b1 : decide (0 ≤ (ji10)) = true := decide_eq_true c11
          clear c11
          by_cases c12 : (ji10) ≤ (l0.length : Int)
          · rw [if_pos c12] at H
            have c12b0 := eq_true c12
            have c12b1 : decide ((ji10) ≤ (l0.length : Int)) = true := decide_eq_true c12
            clear c12
            replace H := Option.bind_eq_some_iff.mp H
            obtain ⟨t136, A130, H⟩ := H
            try rw [show (((⟨#[95, 82]⟩ : ByteArray) ++ t140).size : Int) = 2 + (t140.size : Int) from by rw [ByteArray.size_append]; have e_ : (⟨#[95, 82]⟩ : ByteArray).size = 2 := rfl; rw [e_]; omega] at A130
            replace H : ((laws_idSmall.f kj4 l1 l2 ([] : List Int)).bind fun t137 => ((spec_IdSymbol.f kj4 t136 0 t137).bind fun t140 => (if 2 + t140.size ≤ 9223372036854775807 then ((laws_idAt.f a3 (((⟨#[95, 82]⟩ : ByteArray) ++ t140).size : Int)).bind fun t141 => (if 0 ≤ t141 then (if t141 ≤ (((⟨#[95, 82]⟩ : ByteArray) ++ t140).size : Int) then ((laws_idRefused.f (((⟨#[95, 82]⟩ : ByteArray) ++ t140).extract 0 (t141 : Int).toNat)).bind fun t142 => (some t142)) else (none)) else (none))) else (none)))) = some r := H
            have A13 := Aside0.mk A130
            clear A130
            replace H := Option.bind_eq_some_iff.mp H
            obtain ⟨t137, A140, H⟩ := H
            try rw [show (((⟨#[95, 82]⟩ : ByteArray) ++ t140).size : Int) = 2 + (t140.size : Int) from by rw [ByteArray.size_append]; have e_ : (⟨#[95, 82]⟩ : ByteArray).size = 2 := rfl; rw [e_]; omega] at A140
            replace H : ((spec_IdSymbol.f kj4 t136 0 t137).bind fun t140 => (if 2 + t140.size ≤ 9223372036854775807 then ((laws_idAt.f a3 (((⟨#[95, 82]⟩ : ByteArray) ++ t140).size : Int)).bind fun t141 => (if 0 ≤ t141 then (if t141 ≤ (((⟨#[95, 82]⟩ : ByteArray) ++ t140).size : Int) then ((laws_idRefused.f (((⟨#[95, 82]⟩ : ByteArray) ++ t140).extract 0 (t141 : Int).toNat)).bind fun t142 => (some t142)) else (none)) else (none))) else (none))) = some r := H
            have A14 := Aside0.mk A140
            clear A140
            replace H := Option.bind_eq_some_iff.mp H
            obtain ⟨t140, A150, H⟩ := H
            try rw [show (((⟨#[95, 82]⟩ : ByteArray) ++ t140).size : Int) = 2 + (t140.size : Int) from by rw [ByteArray.size_append]; have e_ : (⟨#[95, 82]⟩ : ByteArray).size = 2 := rfl; rw [e_]; omega] at A150
            replace H : (if 2 + t140.size ≤ 9223372036854775807 then ((laws_idAt.f a3 (((⟨#[95, 82]⟩ : ByteArray) ++ t140).size : Int)).bind fun t141 => (if 0 ≤ t141 then (if t141 ≤ (((⟨#[95, 82]⟩ : ByteArray) ++ t140).size : Int) then ((laws_idRefused.f (((⟨#[95, 82]⟩ : ByteArray) ++ t140).extract 0 (t141 : Int).toNat)).bind fun t142 => (some t142)) else (none)) else (none))) else (none)) = some r := H
            have A15 := Aside0.mk A150
            clear A150
            by_cases c16 : 2 + t140.size ≤ 9223372036854775807
            · rw [if_pos c16] at H
              have c16b0 := eq_true c16
              have c16b1 : decide (2 + t140.size ≤ 9223372036854775807) = true := decide_eq_true c16
              try have c16b2 : (9223372036854775807 < 2 + t140.size) = False := eq_false (Nat.not_lt.2 c16)
              replace H := Option.bind_eq_some_iff.mp H
              obtain ⟨t141, A170, H⟩ := H
              try rw [show (((⟨#[95, 82]⟩ : ByteArray) ++ t140).size : Int) = 2 + (t140.size : Int) from by rw [ByteArray.size_append]; have e_ : (⟨#[95, 82]⟩ : ByteArray).size = 2 := rfl; rw [e_]; omega] at A170
              replace H : (if 0 ≤ t141 then (if t141 ≤ (((⟨#[95, 82]⟩ : ByteArray) ++ t140).size : Int) then ((laws_idRefused.f (((⟨#[95, 82]⟩ : ByteArray) ++ t140).extract 0 (t141 : Int).toNat)).bind fun t142 => (some t142)) else (none)) else (none)) = some r := H
              have A17 := Aside0.mk A170
              clear A170
              by_cases c18 : 0 ≤ t141
              · rw [if_pos c18] at H
                have c18b0 := eq_true c18
                have c18b1 : decide (0 ≤ t141) = true := decide_eq_true c18
                clear c18
                by_cases c19 : t141 ≤ (((⟨#[95, 82]⟩ : ByteArray) ++ t140).size : Int)
                · rw [if_pos c19] at H
                  have c19b0 := eq_true c19
                  have c19b1 : decide (t141 ≤ (((⟨#[95, 82]⟩ : ByteArray) ++ t140).size : Int)) = true := decide_eq_true c19
                  try have c19b5 : t141 ≤ 2 + (t140.size : Int) := by have h_ := of_eq_true c19b0; rw [ByteArray.size_append] at h_; have e_ : (⟨#[95, 82]⟩ : ByteArray).size = 2 := rfl; rw [e_] at h_; omega
                  replace H := Option.bind_eq_some_iff.mp H
                  obtain ⟨t142, A200, H⟩ := H
                  try rw [show (((⟨#[95, 82]⟩ : ByteArray) ++ t140).size : Int) = 2 + (t140.size : Int) from by rw [ByteArray.size_append]; have e_ : (⟨#[95, 82]⟩ : ByteArray).size = 2 := rfl; rw [e_]; omega] at A200
                  replace H : (some t142) = some r := H
                  have A20 := Aside0.mk A200
                  clear A200
                  obtain rfl := Option.some.inj H
                  obtain ⟨i021, hi021, _, hsz21, _⟩ := info_parts info5
                  obtain ⟨hcut21, hA21, hC21⟩ := print_take_of (P := Tryz.prog) (Value.int .u8) 0 22 5 .i64 Tryz.underlying22 hi021 hsz21 A0 c0 l0 (ji10) (of_decide_eq_true (by first | (with_reducible assumption) | assumption)) (of_decide_eq_true (by first | (with_reducible assumption) | assumption)) HC0.out
                  have HR135 := Aside0.mk (Kd.C_of_reads (h1 := fun _ => rfl) (hA21 _ (Kd.reads_of_C HR0.out)))
                  have HC135 := Aside0.mk hC21
                  clear hA21 hC21 hi021 hsz21
                  go_wp2_with (first | (go_at_call 15; refine (idCut_at _ _ _ _ _ _ (by assumption) (by assumption)).mono ?_; rintro e w_ ⟨rfl, rfl⟩) | ((with_reducible refine gate_callee (f := 14) rfl ?_); refine goesL_ (some 25) rfl rfl Tryz.func14 (by kernel_rfl) rfl #[.slice A0 (l0.take ((ji10) : Int).toNat).length c0] rfl (by (try simp only [List.map_toArray, List.map_cons, List.map_nil]); first | done | (rw [show (l0.take ((ji10) : Int).toNat).length = (ji10).toNat from (by rw [List.length_take]; have h_ : ((ji10) : Int) ≤ (l0.length : Int) := of_decide_eq_true (by first | (with_reducible assumption) | assumption); omega)] <;> rfl) | (simp only [hji10]; rfl) | rfl | (simp only [List.length_drop, List.length_take]; rfl)) ?_; (with_reducible refine (spec_AnPlain.calls kj4 _ _ (l0.take ((ji10) : Int).toNat) t136 _ ?side1 ?side2 A13.out).mono ?_); (case side1 => repeat (first | exact (Kd.C_below HR135.out HB.out) | (with_reducible refine Kd.C_alloc ?_ _) | (with_reducible refine Kd.C_drewN ?_ _) | (with_reducible refine Kd.C_drew ?_))); (case side2 => exact HC135.out); rintro e w22 ⟨rfl, hb⟩; refine ⟨_, rfl, ?_⟩; have n0_ := Aside0.mk (below_step (by repeat (first | (with_reducible first | exact HB.out | apply below_alloc | apply pw_below_drewN | apply below_drew1) | exact HB.out)) hb); clear HB; have HB := n0_; clear n0_; (try clear hb); (try clear hb2); (try clear hk); (try clear hi)) | ((with_reducible refine gate_callee (f := 16) rfl ?_); refine goesL_ (some 28) rfl rfl Tryz.func16 (by kernel_rfl) rfl #[.slice A1 l1.length c1, .slice A2 l2.length c2, .slice none 0 0] rfl (by (try simp only [List.map_toArray, List.map_cons, List.map_nil]); first | done | rfl | (simp only [List.length_drop, List.length_take]; rfl)) ?_; (refine (laws_idSmall.calls kj4 _ _ l1 _ _ l2 _ _ ([] : List Int) t137 _ ?side1 ?side2 ?side3 ?side4 ?side5 ?side6 A14.out).mono ?_); (case side1 => repeat (first | exact (Kd.C_below HR1.out HB.out) | (with_reducible refine Kd.C_alloc ?_ _) | (with_reducible refine Kd.C_drewN ?_ _) | (with_reducible refine Kd.C_drew ?_))); (case side2 => exact HC1.out); (case side3 => repeat (first | exact (Kd.C_below HR2.out HB.out) | (with_reducible refine Kd.C_alloc ?_ _) | (with_reducible refine Kd.C_drewN ?_ _) | (with_reducible refine Kd.C_drew ?_))); (case side4 => exact HC2.out); (case side5 => exact Kd.C_nil _ _); (case side6 => exact Nat.le_refl _); rintro e w23 ⟨v138, rfl, ho0, hb⟩; refine ⟨_, rfl, ?_⟩; have n0_ := Aside0.mk (Kd.R_lower ho0 (below_size (by repeat (first | (with_reducible first | exact HB.out | apply below_alloc | apply pw_below_drewN | apply below_drew1) | exact HB.out)))); have n1_ := Aside0.mk (below_step (by repeat (first | (with_reducible first | exact HB.out | apply below_alloc | apply pw_below_drewN | apply below_drew1) | exact HB.out)) hb); clear HB; have HO139 := n0_; have HB := n1_; clear n0_ n1_; (try clear hb); (try clear hb2); (try clear hk); (try clear hi); (try clear ho0); obtain ⟨Ao24, co24, eo24⟩ := Kd.R_slice HO139.out; subst eo24) | ((with_reducible refine gate_callee (f := 18) rfl ?_); refine goesL_ (some 29) rfl rfl Tryz.func18 (by kernel_rfl) rfl #[.string t136, .int .u64 0, .slice Ao24 t137.length co24] rfl (by (try simp only [List.map_toArray, List.map_cons, List.map_nil]); first | done | rfl | (simp only [List.length_drop, List.length_take]; rfl)) ?_; (with_reducible refine (spec_IdSymbol.calls kj4 t136 0 _ _ t137 t140 _ ?side1 ?side2 (show DoorIs _ from ?side3) A15.out).mono ?_); (case side1 => repeat (first | exact (Kd.R_reads' HO139.out).2.2 | (with_reducible refine Kd.C_alloc ?_ _) | (with_reducible refine Kd.C_drewN ?_ _) | (with_reducible refine Kd.C_drew ?_))); (case side2 => exact (Kd.R_reads' HO139.out).2.1); (case side3 => exact Stays.below hT_ (by first | (repeat (first | (with_reducible first | exact HB.out | apply below_alloc | apply pw_below_drewN | apply below_drew1) | exact HB.out)) | (repeat (first | exact Below.refl _ _ | apply below_drew1 | apply pw_below_drewN)))); rintro e w25 ⟨rfl, hb⟩; refine ⟨_, rfl, ?_⟩; have n0_ := Aside0.mk (Kd.R_below (by (with_reducible repeat (first | apply Kd.R_alloc | apply Kd.R_drewN | apply Kd.R_drew)); exact HO139.out) hb); have n1_ := Aside0.mk (below_step (by repeat (first | (with_reducible first | exact HB.out | apply below_alloc | apply pw_below_drewN | apply below_drew1) | exact HB.out)) hb); clear HO139; clear HB; have HO139 := n0_; have HB := n1_; clear n0_ n1_; (try clear hb); (try clear hb2); (try clear hk); (try clear hi)) | ((with_reducible refine gate_callee (f := 26) rfl ?_); refine goesL_ (some 35) rfl rfl Tryz.func26 (by kernel_rfl) rfl #[.int .i64 a3, .int .i64 (2 + (t140.size : Int))] rfl (by (try simp only [List.map_toArray, List.map_cons, List.map_nil]); first | done | rfl | (simp only [List.length_drop, List.length_take]; rfl)) ?_; (with_reducible refine (laws_idAt.calls a3 (2 + (t140.size : Int)) t141 _ A17.out).mono ?_); rintro e w' ⟨rfl, ⟨nd, rfl⟩⟩; refine ⟨_, rfl, ?_⟩) | ((with_reducible refine gate_callee (f := 24) rfl ?_); refine goesL_ (some 37) rfl rfl Tryz.func24 (by kernel_rfl) rfl #[.string (((⟨#[95, 82]⟩ : ByteArray) ++ t140).extract 0 (t141 : Int).toNat)] rfl (by (try simp only [List.map_toArray, List.map_cons, List.map_nil]); first | done | rfl | (simp only [List.length_drop, List.length_take]; rfl)) ?_; (with_reducible refine (laws_idRefused.calls (((⟨#[95, 82]⟩ : ByteArray) ++ t140).extract 0 (t141 : Int).toNat) t142 _ (show DoorIs _ from ?side1) A20.out).mono ?_); (case side1 => exact Stays.below hT_ (by first | (repeat (first | (with_reducible first | exact HB.out | apply below_alloc | apply pw_below_drewN | apply below_drew1) | exact HB.out)) | (repeat (first | exact Below.refl _ _ | apply below_drew1 | apply pw_below_drewN)))); rintro e w26 ⟨rfl, hb⟩; refine ⟨_, rfl, ?_⟩; have n0_ := Aside0.mk (Kd.R_below (by (with_reducible repeat (first | apply Kd.R_alloc | apply Kd.R_drewN | apply Kd.R_drew)); exact HO139.out) hb); have n1_ := Aside0.mk (below_step (by repeat (first | (with_reducible first | exact HB.out | apply below_alloc | apply pw_below_drewN | apply below_drew1) | exact HB.out)) hb); clear HO139; clear HB; have HO139 := n0_; have HB := n1_; clear n0_ n1_; (try clear hb); (try clear hb2); (try clear hk); (try clear hi)))
                  go_ret
                  exact ⟨by first | rfl | (simp [errW_none, errW_some] <;> rfl) | (simp only [← hji10]; first | rfl | (simp [errW_none, errW_some] <;> rfl)) | (simp [*, errW_none, errW_some] <;> rfl), by repeat (first | (with_reducible first | exact HB.out | apply below_alloc | apply pw_below_drewN | apply below_drew1) | exact HB.out)⟩
                · rw [if_neg c19] at H
                  exact absurd H (by simp)
              · rw [if_neg c18] at H
                exact absurd H (by simp)
            · rw [if_neg c16] at H
              exact absurd H (by simp)
          · rw [if_neg c12] at H
            exact absurd H (by simp)
        · rw [if_neg c11] at H
          exact absurd H (by simp)

/-- THE ONE PURE STATEMENT of laws_FnCutRefused: yours. -/
def laws_FnCutRefused.Pure : Prop := ∀ (l0 : List Int) (l1 : List (List Int)) (l2 : List Int) (a3 : Int), l0.length ≤ maxLen → l0.length * 1 ≤ 140737488351232 → (∀ x ∈ l0, (Lit.int .u8 x).wf = true) → l1.length ≤ maxLen → (∀ r ∈ l1, r.length ≤ maxLen ∧ ∀ x ∈ r, (Lit.int .u8 x).wf = true) → l2.length ≤ maxLen → l2.length * 1 ≤ 140737488351232 → (∀ x ∈ l2, (Lit.int .u8 x).wf = true) → (Lit.int .i64 a3).wf = true → ∃ k, laws_FnCutRefused.f k l0 l1 l2 a3 = some true
theorem laws_FnCutRefused.walk (P : laws_FnCutRefused.Pure) (a0 : Option Addr) (len0 cap0 : Nat) (z0 : List Int) (a1 : Option Addr) (cap1 : Nat) (l1 : List (List Int)) (a2 : Option Addr) (len2 cap2 : Nat) (z2 : List Int) (a3 : Int) (w : World) (hT_ : DoorIs w) (w0 : (a0 = none ∧ len0 = 0 ∧ cap0 = 0 ∧ z0 = []) ∨ ∃ x, a0 = some x ∧ len0 ≤ cap0 ∧ cap0 ≤ maxLen ∧ z0.length = cap0 ∧ (∀ i, i < z0.length → w.cell? (x.add i) = some (.int .u8 (z0.getD i 0))) ∧ ∀ n ∈ z0, (Lit.int .u8 n).wf = true) (y0 : len0 * 1 ≤ 140737488351232) (w1 : (Kd.slice 5 (Kd.int .u8)).C w a1 l1.length l1) (x1 : l1.length ≤ maxLen) (y1 : ∀ r ∈ l1, r.length ≤ maxLen ∧ ∀ x ∈ r, (Lit.int .u8 x).wf = true) (c1 : l1.length ≤ cap1) (w2 : (a2 = none ∧ len2 = 0 ∧ cap2 = 0 ∧ z2 = []) ∨ ∃ x, a2 = some x ∧ len2 ≤ cap2 ∧ cap2 ≤ maxLen ∧ z2.length = cap2 ∧ (∀ i, i < z2.length → w.cell? (x.add i) = some (.int .u8 (z2.getD i 0))) ∧ ∀ n ∈ z2, (Lit.int .u8 n).wf = true) (y2 : len2 * 1 ≤ 140737488351232) (w3 : (Lit.int .i64 a3).wf = true) :
    Calls Tryz.prog 7 #[.slice a0 len0 cap0, .slice a1 l1.length cap1, .slice a2 len2 cap2, .int .i64 a3] w fun e w' => e = .returned (.bool true) ∧ Below w.heap.size w w' := by
  obtain ⟨l0, rfl, hr0, hm0, hw0, hc0⟩ := ReadsInt.ofRowC w0
  obtain ⟨l2, rfl, hr2, hm2, hw2, hc2⟩ := ReadsInt.ofRowC w2
  obtain ⟨k, h⟩ := P l0 l1 l2 a3 hm0 y0 hw0 x1 y1 hm2 y2 hw2 w3
  refine (laws_FnCutRefused.calls k _ _ l0 _ _ l1 _ _ l2 a3 true w (Kd.C_of_reads (d := (0 : Int)) (h1 := fun _ => rfl) hr0) hc0 w1 c1 (Kd.C_of_reads (d := (0 : Int)) (h1 := fun _ => rfl) hr2) hc2 hT_ h).mono ?_
  rintro e w' ⟨rfl, hd⟩
  exact ⟨rfl, hd⟩

end Go.Proofs.YtdmkdclockmjbaaGreatDoor.PFnCutRefused
