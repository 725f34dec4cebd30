/- Written by a program of this session (wip/tools/myprint.py) with the kit's print: contracts of the functions that one statement reaches; functions that are proved by hand are taken as printed. Conditions: none. -/
import Derived.Test.YtdmkdclockmjbaaGreatDoorPFnBehindRefusedx0
import Derived.Test.YtdmkdclockmjbaaGreatDoorPFnBehindRefusedx1
namespace Go.Proofs.YtdmkdclockmjbaaGreatDoor.PFnBehindRefused
open Go.RowKit Go.Proofs.YtdmkdclockmjbaaGreatDoorW.PrintWords Go.Proofs.YtdmkdclockmjbaaGreatDoorW.PrintLast Go.Proofs.YtdmkdclockmjbaaGreatDoorW.PrintMore
attribute [local go_sem] max2_int min2_int max_two min_two max_three min_three max_four min_four   -- for this text's walks alone
set_option linter.unusedVariables false
set_option linter.unusedSimpArgs false

/-! ### spec_idIdentifier: function 34 -/
def spec_idIdentifier.f (k : Nat) (a0 : ByteArray) (a1 : Int) : Option (ByteArray) := (spec_IdDisambiguator.f k a1).bind fun t125 => ((spec_IdWritten.f a0).bind fun t126 => (if t125.size + t126.size ≤ 9223372036854775807 then (some (t125 ++ t126)) else (none)))
theorem spec_idIdentifier.mono : ∀ a0 a1 k, LeO (spec_idIdentifier.f k a0 a1) (spec_idIdentifier.f (k + 1) a0 a1) := by
  intro a0 a1 k
  unfold spec_idIdentifier.f
  repeat' first
      | (with_reducible exact spec_IdDisambiguator.mono _ _)
      | (with_reducible exact LeO.refl _)
      | (with_reducible exact LeO.none _)
      | (with_reducible refine LeO.ite ?_ ?_)
      | (with_reducible refine LeO.bind ?_ (fun _ => ?_))
      | exact spec_IdDisambiguator.mono _ _
      | exact LeO.none _
      | refine LeO.ite ?_ ?_
      | refine LeO.bind ?_ (fun _ => ?_)
set_option maxHeartbeats 8000000 in
set_option maxRecDepth 100000 in
theorem spec_idIdentifier.calls (k : Nat) (a0 : ByteArray) (a1 : Int) (r : ByteArray) (w : World) (hT_ : DoorIs w) (h : spec_idIdentifier.f k a0 a1 = some r) :
    Calls Tryz.prog 34 #[.string a0, .int .u64 a1] w fun e w' => e = .returned (.string r) ∧ Below w.heap.size w w' := by
  have HB := Aside0.mk (Below.refl w.heap.size w)
  have H : ((spec_IdDisambiguator.f k a1).bind fun t125 => ((spec_IdWritten.f a0).bind fun t126 => (if t125.size + t126.size ≤ 9223372036854775807 then (some (t125 ++ t126)) else (none)))) = some r := h
  clear h
  replace H := Option.bind_eq_some_iff.mp H
  obtain ⟨t125, A30, H⟩ := H
  replace H : ((spec_IdWritten.f a0).bind fun t126 => (if t125.size + t126.size ≤ 9223372036854775807 then (some (t125 ++ t126)) else (none))) = some r := H
  have A3 := Aside0.mk A30
  clear A30
  replace H := Option.bind_eq_some_iff.mp H
  obtain ⟨t126, A40, H⟩ := H
  replace H : (if t125.size + t126.size ≤ 9223372036854775807 then (some (t125 ++ t126)) else (none)) = some r := H
  have A4 := Aside0.mk A40
  clear A40
  by_cases c5 : t125.size + t126.size ≤ 9223372036854775807
  · rw [if_pos c5] at H
    have c5b0 := eq_true c5
    have c5b1 : decide (t125.size + t126.size ≤ 9223372036854775807) = true := decide_eq_true c5
    try have c5b2 : (9223372036854775807 < t125.size + t126.size) = False := eq_false (Nat.not_lt.2 c5)
    obtain rfl := Option.some.inj H
    go_enter Tryz.func34, Tryz.ntmps34
    go_wp2_with (first | (go_at_call 15; refine (idCut_at _ _ _ _ _ _ (by assumption) (by assumption)).mono ?_; rintro e w_ ⟨rfl, rfl⟩) | ((with_reducible refine gate_callee (f := 35) rfl ?_); refine goesL_ (some 6) rfl rfl Tryz.func35 (by kernel_rfl) rfl #[.int .u64 a1] rfl (by (try simp only [List.map_toArray, List.map_cons, List.map_nil]); first | done | rfl | (simp only [List.length_drop, List.length_take]; rfl)) ?_; (with_reducible refine (spec_IdDisambiguator.calls k a1 t125 _ A3.out).mono ?_); rintro e w' ⟨rfl, ⟨nd, rfl⟩⟩; refine ⟨_, rfl, ?_⟩) | ((with_reducible refine gate_callee (f := 40) rfl ?_); refine goesL_ (some 8) rfl rfl Tryz.func40 (by kernel_rfl) rfl #[.string a0] rfl (by (try simp only [List.map_toArray, List.map_cons, List.map_nil]); first | done | rfl | (simp only [List.length_drop, List.length_take]; rfl)) ?_; (with_reducible refine (spec_IdWritten.calls a0 t126 _ (show DoorIs _ from ?side1) A4.out).mono ?_); (case side1 => exact Stays.below hT_ (by first | (repeat (first | (with_reducible first | exact HB.out | apply below_alloc | apply pw_below_drewN | apply below_drew1) | exact HB.out)) | (repeat (first | exact Below.refl _ _ | apply below_drew1 | apply pw_below_drewN)))); rintro e w6 ⟨rfl, hb⟩; refine ⟨_, rfl, ?_⟩; have n0_ := Aside0.mk (below_step (by repeat (first | (with_reducible first | exact HB.out | apply below_alloc | apply pw_below_drewN | apply below_drew1) | exact HB.out)) hb); clear HB; have HB := n0_; clear n0_; (try clear hb); (try clear hb2); (try clear hk); (try clear hi)))
    go_ret
    exact ⟨by first | rfl | (simp [errW_none, errW_some] <;> rfl) | (simp [*, errW_none, errW_some] <;> rfl), by repeat (first | (with_reducible first | exact HB.out | apply below_alloc | apply pw_below_drewN | apply below_drew1) | exact HB.out)⟩
  · rw [if_neg c5] at H
    exact absurd H (by simp)

/-! ### spec_IdSymbol: function 18 -/
def spec_IdSymbol.l0 : Nat → List (S43) → ByteArray → List (S43) → Int → Int → Option (ByteArray)
  | 0, _, _, _, _, _ => none
  | k + 1, x2, x7, x15, x16, x17 => if x17 < x16 then (if 0 ≤ x17 then (if x17 < (x15.length : Int) then ((spec_idIdentifier.f k ((rd_T43 x15 x17).f1) ((rd_T43 x15 x17).f2)).bind fun t130 => (if ((rd_T43 x15 x17).f1).toList = ([] : List UInt8) then (if x17 = (wrap64 ((x2.length : Int) - 1)) then ((spec_IdDisambiguator.f k ((rd_T43 x15 x17).f2)).bind fun t131 => (if t131.size + 1 ≤ 9223372036854775807 then (if 1 + (Utf8.encode (wrap32 ((rd_T43 x15 x17).f0))).size ≤ 9223372036854775807 then (if ((⟨#[78]⟩ : ByteArray) ++ (Utf8.encode (wrap32 ((rd_T43 x15 x17).f0)))).size + x7.size ≤ 9223372036854775807 then (if (((⟨#[78]⟩ : ByteArray) ++ (Utf8.encode (wrap32 ((rd_T43 x15 x17).f0)))) ++ x7).size + (t131 ++ (⟨#[48]⟩ : ByteArray)).size ≤ 9223372036854775807 then (spec_IdSymbol.l0 k x2 ((((⟨#[78]⟩ : ByteArray) ++ (Utf8.encode (wrap32 ((rd_T43 x15 x17).f0)))) ++ x7) ++ (t131 ++ (⟨#[48]⟩ : ByteArray))) x15 x16 (wrap64 (x17 + 1))) else (none)) else (none)) else (none)) else (none))) else (if 1 + (Utf8.encode (wrap32 ((rd_T43 x15 x17).f0))).size ≤ 9223372036854775807 then (if ((⟨#[78]⟩ : ByteArray) ++ (Utf8.encode (wrap32 ((rd_T43 x15 x17).f0)))).size + x7.size ≤ 9223372036854775807 then (if (((⟨#[78]⟩ : ByteArray) ++ (Utf8.encode (wrap32 ((rd_T43 x15 x17).f0)))) ++ x7).size + t130.size ≤ 9223372036854775807 then (spec_IdSymbol.l0 k x2 ((((⟨#[78]⟩ : ByteArray) ++ (Utf8.encode (wrap32 ((rd_T43 x15 x17).f0)))) ++ x7) ++ t130) x15 x16 (wrap64 (x17 + 1))) else (none)) else (none)) else (none))) else (if 1 + (Utf8.encode (wrap32 ((rd_T43 x15 x17).f0))).size ≤ 9223372036854775807 then (if ((⟨#[78]⟩ : ByteArray) ++ (Utf8.encode (wrap32 ((rd_T43 x15 x17).f0)))).size + x7.size ≤ 9223372036854775807 then (if (((⟨#[78]⟩ : ByteArray) ++ (Utf8.encode (wrap32 ((rd_T43 x15 x17).f0)))) ++ x7).size + t130.size ≤ 9223372036854775807 then (spec_IdSymbol.l0 k x2 ((((⟨#[78]⟩ : ByteArray) ++ (Utf8.encode (wrap32 ((rd_T43 x15 x17).f0)))) ++ x7) ++ t130) x15 x16 (wrap64 (x17 + 1))) else (none)) else (none)) else (none)))) else (none)) else (none)) else (some x7)
def spec_IdSymbol.f (k : Nat) (a0 : ByteArray) (a1 : Int) (l2 : List (S43)) : Option (ByteArray) := (spec_idIdentifier.f k a0 a1).bind fun t127 => (if 1 + t127.size ≤ 9223372036854775807 then (spec_IdSymbol.l0 k l2 ((⟨#[67]⟩ : ByteArray) ++ t127) l2 (l2.length : Int) 0) else (none))
theorem spec_IdSymbol.mono_l : ∀ k, (∀ y0 y1 y2 y3 y4, LeO (spec_IdSymbol.l0 k y0 y1 y2 y3 y4) (spec_IdSymbol.l0 (k + 1) y0 y1 y2 y3 y4))
  | 0 => fun _ _ _ _ _ r h => by simp [spec_IdSymbol.l0] at h
  | k + 1 => by
    have ih0 := spec_IdSymbol.mono_l k
    · intro y0 y1 y2 y3 y4
      unfold spec_IdSymbol.l0
      repeat' first
      | (with_reducible exact ih0 _ _ _ _ _)
      | (with_reducible exact spec_IdDisambiguator.mono _ _)
      | (with_reducible exact spec_idIdentifier.mono _ _ _)
      | (with_reducible exact LeO.refl _)
      | (with_reducible exact LeO.none _)
      | (with_reducible refine LeO.ite ?_ ?_)
      | (with_reducible refine LeO.bind ?_ (fun _ => ?_))
      | exact ih0 _ _ _ _ _
      | exact spec_IdDisambiguator.mono _ _
      | exact spec_idIdentifier.mono _ _ _
      | exact LeO.none _
      | refine LeO.ite ?_ ?_
      | refine LeO.bind ?_ (fun _ => ?_)
theorem spec_IdSymbol.mono : ∀ a0 a1 a2 k, LeO (spec_IdSymbol.f k a0 a1 a2) (spec_IdSymbol.f (k + 1) a0 a1 a2) := by
  intro a0 a1 a2 k
  have ih0 := spec_IdSymbol.mono_l k
  unfold spec_IdSymbol.f
  repeat' first
      | (with_reducible exact ih0 _ _ _ _ _)
      | (with_reducible exact spec_IdDisambiguator.mono _ _)
      | (with_reducible exact spec_idIdentifier.mono _ _ _)
      | (with_reducible exact LeO.refl _)
      | (with_reducible exact LeO.none _)
      | (with_reducible refine LeO.ite ?_ ?_)
      | (with_reducible refine LeO.bind ?_ (fun _ => ?_))
      | exact ih0 _ _ _ _ _
      | exact spec_IdDisambiguator.mono _ _
      | exact spec_idIdentifier.mono _ _ _
      | exact LeO.none _
      | refine LeO.ite ?_ ?_
      | refine LeO.bind ?_ (fun _ => ?_)
set_option maxHeartbeats 8000000 in
set_option maxRecDepth 100000 in
theorem spec_IdSymbol.calls (k : Nat) (a0 : ByteArray) (a1 : Int) (A2 : Option Addr) (c2 : Nat) (l2 : List (S43)) (r : ByteArray) (w : World) (hr2 : Kd.C k43 w A2 l2.length l2) (hc2 : l2.length ≤ c2) (hT_ : DoorIs w) (h : spec_IdSymbol.f k a0 a1 l2 = some r) :
    Calls Tryz.prog 18 #[.string a0, .int .u64 a1, .slice A2 l2.length c2] w fun e w' => e = .returned (.string r) ∧ Below w.heap.size w w' := by
  have hu43 := Tryz.underlying43
  have HR2 := Aside0.mk hr2
  have HC2 := Aside0.mk hc2
  clear hr2 hc2
  have HB := Aside0.mk (Below.refl w.heap.size w)
  have H : ((spec_idIdentifier.f k a0 a1).bind fun t127 => (if 1 + t127.size ≤ 9223372036854775807 then (spec_IdSymbol.l0 k l2 ((⟨#[67]⟩ : ByteArray) ++ t127) l2 (l2.length : Int) 0) else (none))) = some r := h
  clear h
  replace H := Option.bind_eq_some_iff.mp H
  obtain ⟨t127, A40, H⟩ := H
  replace H : (if 1 + t127.size ≤ 9223372036854775807 then (spec_IdSymbol.l0 k l2 ((⟨#[67]⟩ : ByteArray) ++ t127) l2 (l2.length : Int) 0) else (none)) = some r := H
  have A4 := Aside0.mk A40
  clear A40
  by_cases c5 : 1 + t127.size ≤ 9223372036854775807
  · rw [if_pos c5] at H
    have c5b0 := eq_true c5
    have c5b1 : decide (1 + t127.size ≤ 9223372036854775807) = true := decide_eq_true c5
    try have c5b2 : (9223372036854775807 < 1 + t127.size) = False := eq_false (Nat.not_lt.2 c5)
    have H' := Aside0.mk H
    clear H
    go_enter Tryz.func18, Tryz.ntmps18
    go_wp2_with (first | (go_at_call 15; refine (idCut_at _ _ _ _ _ _ (by assumption) (by assumption)).mono ?_; rintro e w_ ⟨rfl, rfl⟩) | ((with_reducible refine gate_callee (f := 34) rfl ?_); refine goesL_ (some 13) rfl rfl Tryz.func34 (by kernel_rfl) rfl #[.string a0, .int .u64 a1] rfl (by (try simp only [List.map_toArray, List.map_cons, List.map_nil]); first | done | rfl | (simp only [List.length_drop, List.length_take]; rfl)) ?_; (with_reducible refine (spec_idIdentifier.calls k a0 a1 t127 _ (show DoorIs _ from ?side1) A4.out).mono ?_); (case side1 => exact Stays.below hT_ (by first | (repeat (first | (with_reducible first | exact HB.out | apply below_alloc | apply pw_below_drewN | apply below_drew1) | exact HB.out)) | (repeat (first | exact Below.refl _ _ | apply below_drew1 | apply pw_below_drewN)))); rintro e w6 ⟨rfl, hb⟩; refine ⟨_, rfl, ?_⟩; have n0_ := Aside0.mk (below_step (by repeat (first | (with_reducible first | exact HB.out | apply below_alloc | apply pw_below_drewN | apply below_drew1) | exact HB.out)) hb); clear HB; have HB := n0_; clear n0_; (try clear hb); (try clear hb2); (try clear hk); (try clear hi)))
    go_loopg [7, 17] k (fun kq v7 v17 w' => ∃ (x7_1 : ByteArray) (x17_1 : Int), v7 = .string x7_1 ∧ v17 = .int .i64 x17_1 ∧ Aside0 (spec_IdSymbol.l0 kq l2 x7_1 l2 (l2.length : Int) x17_1 = some r) ∧ Aside0 (kq ≤ k) ∧ Aside0 (Below w.heap.size w w'))
    case atStart => exact ⟨((⟨#[67]⟩ : ByteArray) ++ t127), (0), (by first | rfl | (simp; done) | (simp [*]; done)), (by first | rfl | (simp; done) | (simp [*]; done)), H', ⟨Nat.le_refl _⟩, ⟨by repeat (first | (with_reducible first | exact HB.out | apply below_alloc | apply pw_below_drewN | apply below_drew1) | exact HB.out)⟩⟩
    case round =>
      clear H'
      try clear c1
      try clear c2
      try clear p2
      try clear c3
      try clear c5
      try clear c5b0
      try clear c5b1
      try clear c5b2
      obtain ⟨x7_1, x17_1, rfl, rfl, HA, HK1, HB⟩ := hrel
      cases gk with
      | zero => exact absurd HA.out (by simp [spec_IdSymbol.l0])
      | succ k1 =>
        have H := HA.out
        clear HA
        simp only [spec_IdSymbol.l0] at H
        by_cases c7 : x17_1 < (l2.length : Int)
        · rw [if_pos c7] at H
          have c7b0 : decide (x17_1 < (l2.length : Int)) = true := decide_eq_true c7
          clear c7
          by_cases c8 : 0 ≤ x17_1
          · rw [if_pos c8] at H
            have c8b0 : decide (0 ≤ x17_1) = true := decide_eq_true c8
            clear c8
            by_cases c9 : x17_1 < (l2.length : Int)
            · rw [if_pos c9] at H
              have c9b0 : decide (x17_1 < (l2.length : Int)) = true := decide_eq_true c9
              clear c9
              replace H := Option.bind_eq_some_iff.mp H
              obtain ⟨t130, A100, H⟩ := H
              replace H : (if ((rd_T43 l2 x17_1).f1).toList = ([] : List UInt8) then (if x17_1 = (wrap64 ((l2.length : Int) - 1)) then ((spec_IdDisambiguator.f k1 ((rd_T43 l2 x17_1).f2)).bind fun t131 => (if t131.size + 1 ≤ 9223372036854775807 then (if 1 + (Utf8.encode (wrap32 ((rd_T43 l2 x17_1).f0))).size ≤ 9223372036854775807 then (if ((⟨#[78]⟩ : ByteArray) ++ (Utf8.encode (wrap32 ((rd_T43 l2 x17_1).f0)))).size + x7_1.size ≤ 9223372036854775807 then (if (((⟨#[78]⟩ : ByteArray) ++ (Utf8.encode (wrap32 ((rd_T43 l2 x17_1).f0)))) ++ x7_1).size + (t131 ++ (⟨#[48]⟩ : ByteArray)).size ≤ 9223372036854775807 then (spec_IdSymbol.l0 k1 l2 ((((⟨#[78]⟩ : ByteArray) ++ (Utf8.encode (wrap32 ((rd_T43 l2 x17_1).f0)))) ++ x7_1) ++ (t131 ++ (⟨#[48]⟩ : ByteArray))) l2 (l2.length : Int) (wrap64 (x17_1 + 1))) else (none)) else (none)) else (none)) else (none))) else (if 1 + (Utf8.encode (wrap32 ((rd_T43 l2 x17_1).f0))).size ≤ 9223372036854775807 then (if ((⟨#[78]⟩ : ByteArray) ++ (Utf8.encode (wrap32 ((rd_T43 l2 x17_1).f0)))).size + x7_1.size ≤ 9223372036854775807 then (if (((⟨#[78]⟩ : ByteArray) ++ (Utf8.encode (wrap32 ((rd_T43 l2 x17_1).f0)))) ++ x7_1).size + t130.size ≤ 9223372036854775807 then (spec_IdSymbol.l0 k1 l2 ((((⟨#[78]⟩ : ByteArray) ++ (Utf8.encode (wrap32 ((rd_T43 l2 x17_1).f0)))) ++ x7_1) ++ t130) l2 (l2.length : Int) (wrap64 (x17_1 + 1))) else (none)) else (none)) else (none))) else (if 1 + (Utf8.encode (wrap32 ((rd_T43 l2 x17_1).f0))).size ≤ 9223372036854775807 then (if ((⟨#[78]⟩ : ByteArray) ++ (Utf8.encode (wrap32 ((rd_T43 l2 x17_1).f0)))).size + x7_1.size ≤ 9223372036854775807 then (if (((⟨#[78]⟩ : ByteArray) ++ (Utf8.encode (wrap32 ((rd_T43 l2 x17_1).f0)))) ++ x7_1).size + t130.size ≤ 9223372036854775807 then (spec_IdSymbol.l0 k1 l2 ((((⟨#[78]⟩ : ByteArray) ++ (Utf8.encode (wrap32 ((rd_T43 l2 x17_1).f0)))) ++ x7_1) ++ t130) l2 (l2.length : Int) (wrap64 (x17_1 + 1))) else (none)) else (none)) else (none))) = some r := H
              have A10 := Aside0.mk A100
              clear A100
              by_cases c11 : ((rd_T43 l2 x17_1).f1).toList = ([] : List UInt8)
              · rw [if_pos c11] at H
                have c11b0 : (((rd_T43 l2 x17_1).f1).toList == ([] : List UInt8)) = true := beq_iff_eq.mpr c11
                have c11b1 : (((rd_T43 l2 x17_1).f1).toList != ([] : List UInt8)) = false := bne_eq_false_iff_eq.mpr c11
                clear c11
                by_cases c12 : x17_1 = (wrap64 ((l2.length : Int) - 1))
                · rw [if_pos c12] at H
                  have c12b0 : (x17_1 == (wrap64 ((l2.length : Int) - 1))) = true := beq_iff_eq.mpr c12
                  have c12b1 : (x17_1 != (wrap64 ((l2.length : Int) - 1))) = false := bne_eq_false_iff_eq.mpr c12
                  clear c12
                  replace H := Option.bind_eq_some_iff.mp H
                  obtain ⟨t131, A130, H⟩ := H
                  replace H : (if t131.size + 1 ≤ 9223372036854775807 then (if 1 + (Utf8.encode (wrap32 ((rd_T43 l2 x17_1).f0))).size ≤ 9223372036854775807 then (if ((⟨#[78]⟩ : ByteArray) ++ (Utf8.encode (wrap32 ((rd_T43 l2 x17_1).f0)))).size + x7_1.size ≤ 9223372036854775807 then (if (((⟨#[78]⟩ : ByteArray) ++ (Utf8.encode (wrap32 ((rd_T43 l2 x17_1).f0)))) ++ x7_1).size + (t131 ++ (⟨#[48]⟩ : ByteArray)).size ≤ 9223372036854775807 then (spec_IdSymbol.l0 k1 l2 ((((⟨#[78]⟩ : ByteArray) ++ (Utf8.encode (wrap32 ((rd_T43 l2 x17_1).f0)))) ++ x7_1) ++ (t131 ++ (⟨#[48]⟩ : ByteArray))) l2 (l2.length : Int) (wrap64 (x17_1 + 1))) else (none)) else (none)) else (none)) else (none)) = some r := H
                  have A13 := Aside0.mk A130
                  clear A130
                  by_cases c14 : t131.size + 1 ≤ 9223372036854775807
                  · rw [if_pos c14] at H
                    have c14b0 := eq_true c14
                    have c14b1 : decide (t131.size + 1 ≤ 9223372036854775807) = true := decide_eq_true c14
                    try have c14b2 : (9223372036854775807 < t131.size + 1) = False := eq_false (Nat.not_lt.2 c14)
                    by_cases c15 : 1 + (Utf8.encode (wrap32 ((rd_T43 l2 x17_1).f0))).size ≤ 9223372036854775807
                    · rw [if_pos c15] at H
                      have c15b0 := eq_true c15
                      have c15b1 : decide (1 + (Utf8.encode (wrap32 ((rd_T43 l2 x17_1).f0))).size ≤ 9223372036854775807) = true := decide_eq_true c15
                      try have c15b2 : (9223372036854775807 < 1 + (Utf8.encode (wrap32 ((rd_T43 l2 x17_1).f0))).size) = False := eq_false (Nat.not_lt.2 c15)
                      by_cases c16 : ((⟨#[78]⟩ : ByteArray) ++ (Utf8.encode (wrap32 ((rd_T43 l2 x17_1).f0)))).size + x7_1.size ≤ 9223372036854775807
                      · rw [if_pos c16] at H
                        have c16b0 := eq_true c16
                        have c16b1 : decide (((⟨#[78]⟩ : ByteArray) ++ (Utf8.encode (wrap32 ((rd_T43 l2 x17_1).f0)))).size + x7_1.size ≤ 9223372036854775807) = true := decide_eq_true c16
                        try have c16b2 : (9223372036854775807 < ((⟨#[78]⟩ : ByteArray) ++ (Utf8.encode (wrap32 ((rd_T43 l2 x17_1).f0)))).size + x7_1.size) = False := eq_false (Nat.not_lt.2 c16)
                        try have c16b4 : (9223372036854775807 < 1 + (Utf8.encode (wrap32 ((rd_T43 l2 x17_1).f0))).size + x7_1.size) = False := eq_false (by have h_ := c16; (repeat rw [ByteArray.size_append] at h_); exact Nat.not_lt.2 h_)
                        by_cases c17 : (((⟨#[78]⟩ : ByteArray) ++ (Utf8.encode (wrap32 ((rd_T43 l2 x17_1).f0)))) ++ x7_1).size + (t131 ++ (⟨#[48]⟩ : ByteArray)).size ≤ 9223372036854775807
                        · rw [if_pos c17] at H
                          have c17b0 := eq_true c17
                          have c17b1 : decide ((((⟨#[78]⟩ : ByteArray) ++ (Utf8.encode (wrap32 ((rd_T43 l2 x17_1).f0)))) ++ x7_1).size + (t131 ++ (⟨#[48]⟩ : ByteArray)).size ≤ 9223372036854775807) = true := decide_eq_true c17
                          try have c17b2 : (9223372036854775807 < (((⟨#[78]⟩ : ByteArray) ++ (Utf8.encode (wrap32 ((rd_T43 l2 x17_1).f0)))) ++ x7_1).size + (t131 ++ (⟨#[48]⟩ : ByteArray)).size) = False := eq_false (Nat.not_lt.2 c17)
                          try have c17b4 : (9223372036854775807 < 1 + (Utf8.encode (wrap32 ((rd_T43 l2 x17_1).f0))).size + x7_1.size + (t131.size + 1)) = False := eq_false (by have h_ := c17; (repeat rw [ByteArray.size_append] at h_); exact Nat.not_lt.2 h_)
                          have H' := Aside0.mk H
                          clear H
                          have p128 : 0 ≤ (x17_1 : Int) := of_decide_eq_true (by first | (with_reducible assumption) | assumption)
                          have q128 : x17_1 < (l2.length : Int) := of_decide_eq_true (by first | (with_reducible assumption) | assumption)
                          obtain ⟨ad128, e128, hx128_0, hx128_1, hx128_2⟩ := at_T43 HR2.out x17_1 p128 q128
                          cases e128
                          replace hx128_0 := (HB.out.cell (World.block_lt_of_cell? w _ hx128_0)).trans hx128_0
                          replace hx128_1 := (HB.out.cell (World.block_lt_of_cell? w _ hx128_1)).trans hx128_1
                          replace hx128_2 := (HB.out.cell (World.block_lt_of_cell? w _ hx128_2)).trans hx128_2
                          replace p128 := eq_true p128
                          replace q128 := eq_true q128
                          go_wp2_with (first | (go_at_call 15; refine (idCut_at _ _ _ _ _ _ (by assumption) (by assumption)).mono ?_; rintro e w_ ⟨rfl, rfl⟩) | ((with_reducible refine gate_dst (N := 9) rfl ?_); (try (refine gate_guard (by rfl) ?_; dsimp only)); refine box_event ?hg (N := 9) ?hd (cs := #[.int .u8 0, .string (⟨#[]⟩ : ByteArray), .int .u64 0]) (t := 43) ?hr ?_; (case hd => rfl); (case hg => rfl); (case hr => first | (go_simp; done) | (go_simp; rfl)); intro gb129 hg w18 hbox hb; have n0_ := Aside0.mk (below_step (by repeat (first | (with_reducible first | exact HB.out | apply below_alloc | apply pw_below_drewN | apply below_drew1) | exact HB.out)) hb); have n1_ := Aside0.mk (hbox); have n2_ := Aside0.mk ((by rw [hg]; exact (below_size (by repeat (first | (with_reducible first | exact HB.out | apply below_alloc | apply pw_below_drewN | apply below_drew1) | exact HB.out))) : w.heap.size ≤ gb129)); have n3_ := Aside0.mk ((by rw [hg]; exact (below_size (by repeat (first | (with_reducible first | exact HB.out | apply below_alloc | apply pw_below_drewN | apply below_drew1) | exact HB.out))) : w.heap.size ≤ gb129)); clear HB; have HB := n0_; have BK129 := n1_; have GW129 := n2_; have GE129 := n3_; clear n0_ n1_ n2_ n3_; clear hb hbox hg; have hcz19_0 : w18.cell? ⟨gb129, 0, none⟩ = some (.int .u8 0) := (blk_cell BK129.out 0).trans rfl; have hcz19_1 : w18.cell? ⟨gb129, 1, none⟩ = some (.string (⟨#[]⟩ : ByteArray)) := (blk_cell BK129.out 1).trans rfl; have hcz19_2 : w18.cell? ⟨gb129, 2, none⟩ = some (.int .u64 0) := (blk_cell BK129.out 2).trans rfl; have hfz19_0 := blk_frozen BK129.out 0; have hfz19_1 := blk_frozen BK129.out 1; have hfz19_2 := blk_frozen BK129.out 2) | ((with_reducible refine gate_callee (f := 34) rfl ?_); refine goesL_ (some 26) rfl rfl Tryz.func34 (by kernel_rfl) rfl #[.string ((rd_T43 l2 x17_1).f1), .int .u64 ((rd_T43 l2 x17_1).f2)] rfl (by (try simp only [List.map_toArray, List.map_cons, List.map_nil]); first | done | rfl | (simp only [List.length_drop, List.length_take]; rfl)) ?_; (with_reducible refine (spec_idIdentifier.calls k1 ((rd_T43 l2 x17_1).f1) ((rd_T43 l2 x17_1).f2) t130 _ (show DoorIs _ from ?side1) A10.out).mono ?_); (case side1 => exact Stays.below hT_ (by first | (repeat (first | (with_reducible first | exact HB.out | apply below_alloc | apply pw_below_drewN | apply below_drew1 | refine below_set ?_ GE129.out) | exact HB.out)) | (repeat (first | exact Below.refl _ _ | apply below_drew1 | apply pw_below_drewN)))); rintro e w20 ⟨rfl, hb⟩; refine ⟨_, rfl, ?_⟩; have n0_ := Aside0.mk (blk_below (g := gb129) (o := .cells #[.int .u8 ((rd_T43 l2 x17_1).f0), .string ((rd_T43 l2 x17_1).f1), .int .u64 ((rd_T43 l2 x17_1).f2)] 43 (0, 0)) (by (with_reducible repeat (first | refine blk_drewN ?_ _ | refine blk_drew ?_ | refine blk_alloc ?_ _)); refine blk_put (cs := #[.int .u8 ((rd_T43 l2 x17_1).f0), .string ((rd_T43 l2 x17_1).f1), .int .u64 0]) ?_ 2 _ rfl; (with_reducible repeat (first | refine blk_drewN ?_ _ | refine blk_drew ?_ | refine blk_alloc ?_ _)); refine blk_put (cs := #[.int .u8 ((rd_T43 l2 x17_1).f0), .string (⟨#[]⟩ : ByteArray), .int .u64 0]) ?_ 1 _ rfl; (with_reducible repeat (first | refine blk_drewN ?_ _ | refine blk_drew ?_ | refine blk_alloc ?_ _)); refine blk_put (cs := #[.int .u8 0, .string (⟨#[]⟩ : ByteArray), .int .u64 0]) ?_ 0 _ rfl; (with_reducible repeat (first | refine blk_drewN ?_ _ | refine blk_drew ?_ | refine blk_alloc ?_ _)); exact BK129.out) hb); have n1_ := Aside0.mk (below_step (by repeat (first | (with_reducible first | exact HB.out | apply below_alloc | apply pw_below_drewN | apply below_drew1 | refine below_set ?_ GE129.out) | exact HB.out)) hb); clear BK129; clear HB; have BK129 := n0_; have HB := n1_; clear n0_ n1_; (try clear hb); (try clear hb2); (try clear hk); (try clear hi); have hcz21_0 : w20.cell? ⟨gb129, 0, none⟩ = some (.int .u8 ((rd_T43 l2 x17_1).f0)) := (blk_cell BK129.out 0).trans rfl; have hcz21_1 : w20.cell? ⟨gb129, 1, none⟩ = some (.string ((rd_T43 l2 x17_1).f1)) := (blk_cell BK129.out 1).trans rfl; have hcz21_2 : w20.cell? ⟨gb129, 2, none⟩ = some (.int .u64 ((rd_T43 l2 x17_1).f2)) := (blk_cell BK129.out 2).trans rfl; have hfz21_0 := blk_frozen BK129.out 0; have hfz21_1 := blk_frozen BK129.out 1; have hfz21_2 := blk_frozen BK129.out 2) | ((with_reducible refine gate_callee (f := 35) rfl ?_); refine goesL_ (some 39) rfl rfl Tryz.func35 (by kernel_rfl) rfl #[.int .u64 ((rd_T43 l2 x17_1).f2)] rfl (by (try simp only [List.map_toArray, List.map_cons, List.map_nil]); first | done | rfl | (simp only [List.length_drop, List.length_take]; rfl)) ?_; (with_reducible refine (spec_IdDisambiguator.calls k1 ((rd_T43 l2 x17_1).f2) t131 _ A13.out).mono ?_); rintro e w' ⟨rfl, ⟨nd, rfl⟩⟩; refine ⟨_, rfl, ?_⟩))
                          go_roundg k1
                          case measure => have := HK1.out; omega
                          case rel => exact ⟨((((⟨#[78]⟩ : ByteArray) ++ (Utf8.encode (wrap32 ((rd_T43 l2 x17_1).f0)))) ++ x7_1) ++ (t131 ++ (⟨#[48]⟩ : ByteArray))), (wrap64 (x17_1 + 1)), (by first | rfl | (simp; done) | (simp [*]; done)), (by first | rfl | (simp; done) | (simp [*]; done)), H', ⟨by have := HK1.out; omega⟩, ⟨by repeat (first | (with_reducible first | exact HB.out | apply below_alloc | apply pw_below_drewN | apply below_drew1 | refine below_set ?_ GE129.out) | exact HB.out)⟩⟩
                        · rw [if_neg c17] at H
                          exact absurd H (by simp)
                      · rw [if_neg c16] at H
                        exact absurd H (by simp)
                    · rw [if_neg c15] at H
                      exact absurd H (by simp)
                  · rw [if_neg c14] at H
                    exact absurd H (by simp)
                · rw [if_neg c12] at H
                  have c12b0 : (x17_1 == (wrap64 ((l2.length : Int) - 1))) = false := beq_eq_false_iff_ne.mpr c12
                  have c12b1 : (x17_1 != (wrap64 ((l2.length : Int) - 1))) = true := bne_iff_ne.mpr c12
                  by_cases c22 : 1 + (Utf8.encode (wrap32 ((rd_T43 l2 x17_1).f0))).size ≤ 9223372036854775807
                  · rw [if_pos c22] at H
                    have c22b0 := eq_true c22
                    have c22b1 : decide (1 + (Utf8.encode (wrap32 ((rd_T43 l2 x17_1).f0))).size ≤ 9223372036854775807) = true := decide_eq_true c22
                    try have c22b2 : (9223372036854775807 < 1 + (Utf8.encode (wrap32 ((rd_T43 l2 x17_1).f0))).size) = False := eq_false (Nat.not_lt.2 c22)
                    by_cases c23 : ((⟨#[78]⟩ : ByteArray) ++ (Utf8.encode (wrap32 ((rd_T43 l2 x17_1).f0)))).size + x7_1.size ≤ 9223372036854775807
                    · rw [if_pos c23] at H
                      have c23b0 := eq_true c23
                      have c23b1 : decide (((⟨#[78]⟩ : ByteArray) ++ (Utf8.encode (wrap32 ((rd_T43 l2 x17_1).f0)))).size + x7_1.size ≤ 9223372036854775807) = true := decide_eq_true c23
                      try have c23b2 : (9223372036854775807 < ((⟨#[78]⟩ : ByteArray) ++ (Utf8.encode (wrap32 ((rd_T43 l2 x17_1).f0)))).size + x7_1.size) = False := eq_false (Nat.not_lt.2 c23)
                      try have c23b4 : (9223372036854775807 < 1 + (Utf8.encode (wrap32 ((rd_T43 l2 x17_1).f0))).size + x7_1.size) = False := eq_false (by have h_ := c23; (repeat rw [ByteArray.size_append] at h_); exact Nat.not_lt.2 h_)
                      by_cases c24 : (((⟨#[78]⟩ : ByteArray) ++ (Utf8.encode (wrap32 ((rd_T43 l2 x17_1).f0)))) ++ x7_1).size + t130.size ≤ 9223372036854775807
                      · rw [if_pos c24] at H
                        have c24b0 := eq_true c24
                        have c24b1 : decide ((((⟨#[78]⟩ : ByteArray) ++ (Utf8.encode (wrap32 ((rd_T43 l2 x17_1).f0)))) ++ x7_1).size + t130.size ≤ 9223372036854775807) = true := decide_eq_true c24
                        try have c24b2 : (9223372036854775807 < (((⟨#[78]⟩ : ByteArray) ++ (Utf8.encode (wrap32 ((rd_T43 l2 x17_1).f0)))) ++ x7_1).size + t130.size) = False := eq_false (Nat.not_lt.2 c24)
                        try have c24b4 : (9223372036854775807 < 1 + (Utf8.encode (wrap32 ((rd_T43 l2 x17_1).f0))).size + x7_1.size + t130.size) = False := eq_false (by have h_ := c24; (repeat rw [ByteArray.size_append] at h_); exact Nat.not_lt.2 h_)
                        have H' := Aside0.mk H
                        clear H
                        have p128 : 0 ≤ (x17_1 : Int) := of_decide_eq_true (by first | (with_reducible assumption) | assumption)
                        have q128 : x17_1 < (l2.length : Int) := of_decide_eq_true (by first | (with_reducible assumption) | assumption)
                        obtain ⟨ad128, e128, hx128_0, hx128_1, hx128_2⟩ := at_T43 HR2.out x17_1 p128 q128
                        cases e128
                        replace hx128_0 := (HB.out.cell (World.block_lt_of_cell? w _ hx128_0)).trans hx128_0
                        replace hx128_1 := (HB.out.cell (World.block_lt_of_cell? w _ hx128_1)).trans hx128_1
                        replace hx128_2 := (HB.out.cell (World.block_lt_of_cell? w _ hx128_2)).trans hx128_2
                        replace p128 := eq_true p128
                        replace q128 := eq_true q128
                        go_wp2_with (first | (go_at_call 15; refine (idCut_at _ _ _ _ _ _ (by assumption) (by assumption)).mono ?_; rintro e w_ ⟨rfl, rfl⟩) | ((with_reducible refine gate_dst (N := 9) rfl ?_); (try (refine gate_guard (by rfl) ?_; dsimp only)); refine box_event ?hg (N := 9) ?hd (cs := #[.int .u8 0, .string (⟨#[]⟩ : ByteArray), .int .u64 0]) (t := 43) ?hr ?_; (case hd => rfl); (case hg => rfl); (case hr => first | (go_simp; done) | (go_simp; rfl)); intro gb129 hg w25 hbox hb; have n0_ := Aside0.mk (below_step (by repeat (first | (with_reducible first | exact HB.out | apply below_alloc | apply pw_below_drewN | apply below_drew1) | exact HB.out)) hb); have n1_ := Aside0.mk (hbox); have n2_ := Aside0.mk ((by rw [hg]; exact (below_size (by repeat (first | (with_reducible first | exact HB.out | apply below_alloc | apply pw_below_drewN | apply below_drew1) | exact HB.out))) : w.heap.size ≤ gb129)); have n3_ := Aside0.mk ((by rw [hg]; exact (below_size (by repeat (first | (with_reducible first | exact HB.out | apply below_alloc | apply pw_below_drewN | apply below_drew1) | exact HB.out))) : w.heap.size ≤ gb129)); clear HB; have HB := n0_; have BK129 := n1_; have GW129 := n2_; have GE129 := n3_; clear n0_ n1_ n2_ n3_; clear hb hbox hg; have hcz26_0 : w25.cell? ⟨gb129, 0, none⟩ = some (.int .u8 0) := (blk_cell BK129.out 0).trans rfl; have hcz26_1 : w25.cell? ⟨gb129, 1, none⟩ = some (.string (⟨#[]⟩ : ByteArray)) := (blk_cell BK129.out 1).trans rfl; have hcz26_2 : w25.cell? ⟨gb129, 2, none⟩ = some (.int .u64 0) := (blk_cell BK129.out 2).trans rfl; have hfz26_0 := blk_frozen BK129.out 0; have hfz26_1 := blk_frozen BK129.out 1; have hfz26_2 := blk_frozen BK129.out 2) | ((with_reducible refine gate_callee (f := 34) rfl ?_); refine goesL_ (some 26) rfl rfl Tryz.func34 (by kernel_rfl) rfl #[.string ((rd_T43 l2 x17_1).f1), .int .u64 ((rd_T43 l2 x17_1).f2)] rfl (by (try simp only [List.map_toArray, List.map_cons, List.map_nil]); first | done | rfl | (simp only [List.length_drop, List.length_take]; rfl)) ?_; (with_reducible refine (spec_idIdentifier.calls k1 ((rd_T43 l2 x17_1).f1) ((rd_T43 l2 x17_1).f2) t130 _ (show DoorIs _ from ?side1) A10.out).mono ?_); (case side1 => exact Stays.below hT_ (by first | (repeat (first | (with_reducible first | exact HB.out | apply below_alloc | apply pw_below_drewN | apply below_drew1 | refine below_set ?_ GE129.out) | exact HB.out)) | (repeat (first | exact Below.refl _ _ | apply below_drew1 | apply pw_below_drewN)))); rintro e w27 ⟨rfl, hb⟩; refine ⟨_, rfl, ?_⟩; have n0_ := Aside0.mk (blk_below (g := gb129) (o := .cells #[.int .u8 ((rd_T43 l2 x17_1).f0), .string ((rd_T43 l2 x17_1).f1), .int .u64 ((rd_T43 l2 x17_1).f2)] 43 (0, 0)) (by (with_reducible repeat (first | refine blk_drewN ?_ _ | refine blk_drew ?_ | refine blk_alloc ?_ _)); refine blk_put (cs := #[.int .u8 ((rd_T43 l2 x17_1).f0), .string ((rd_T43 l2 x17_1).f1), .int .u64 0]) ?_ 2 _ rfl; (with_reducible repeat (first | refine blk_drewN ?_ _ | refine blk_drew ?_ | refine blk_alloc ?_ _)); refine blk_put (cs := #[.int .u8 ((rd_T43 l2 x17_1).f0), .string (⟨#[]⟩ : ByteArray), .int .u64 0]) ?_ 1 _ rfl; (with_reducible repeat (first | refine blk_drewN ?_ _ | refine blk_drew ?_ | refine blk_alloc ?_ _)); refine blk_put (cs := #[.int .u8 0, .string (⟨#[]⟩ : ByteArray), .int .u64 0]) ?_ 0 _ rfl; (with_reducible repeat (first | refine blk_drewN ?_ _ | refine blk_drew ?_ | refine blk_alloc ?_ _)); exact BK129.out) hb); have n1_ := Aside0.mk (below_step (by repeat (first | (with_reducible first | exact HB.out | apply below_alloc | apply pw_below_drewN | apply below_drew1 | refine below_set ?_ GE129.out) | exact HB.out)) hb); clear BK129; clear HB; have BK129 := n0_; have HB := n1_; clear n0_ n1_; (try clear hb); (try clear hb2); (try clear hk); (try clear hi); have hcz28_0 : w27.cell? ⟨gb129, 0, none⟩ = some (.int .u8 ((rd_T43 l2 x17_1).f0)) := (blk_cell BK129.out 0).trans rfl; have hcz28_1 : w27.cell? ⟨gb129, 1, none⟩ = some (.string ((rd_T43 l2 x17_1).f1)) := (blk_cell BK129.out 1).trans rfl; have hcz28_2 : w27.cell? ⟨gb129, 2, none⟩ = some (.int .u64 ((rd_T43 l2 x17_1).f2)) := (blk_cell BK129.out 2).trans rfl; have hfz28_0 := blk_frozen BK129.out 0; have hfz28_1 := blk_frozen BK129.out 1; have hfz28_2 := blk_frozen BK129.out 2))
                        go_roundg k1
                        case measure => have := HK1.out; omega
                        case rel => exact ⟨((((⟨#[78]⟩ : ByteArray) ++ (Utf8.encode (wrap32 ((rd_T43 l2 x17_1).f0)))) ++ x7_1) ++ t130), (wrap64 (x17_1 + 1)), (by first | rfl | (simp; done) | (simp [*]; done)), (by first | rfl | (simp; done) | (simp [*]; done)), H', ⟨by have := HK1.out; omega⟩, ⟨by repeat (first | (with_reducible first | exact HB.out | apply below_alloc | apply pw_below_drewN | apply below_drew1 | refine below_set ?_ GE129.out) | exact HB.out)⟩⟩
                      · rw [if_neg c24] at H
                        exact absurd H (by simp)
                    · rw [if_neg c23] at H
                      exact absurd H (by simp)
                  · rw [if_neg c22] at H
                    exact absurd H (by simp)
              · rw [if_neg c11] at H
                have c11b0 : (((rd_T43 l2 x17_1).f1).toList == ([] : List UInt8)) = false := beq_eq_false_iff_ne.mpr c11
                have c11b1 : (((rd_T43 l2 x17_1).f1).toList != ([] : List UInt8)) = true := bne_iff_ne.mpr c11
                by_cases c29 : 1 + (Utf8.encode (wrap32 ((rd_T43 l2 x17_1).f0))).size ≤ 9223372036854775807
                · rw [if_pos c29] at H
                  have c29b0 := eq_true c29
                  have c29b1 : decide (1 + (Utf8.encode (wrap32 ((rd_T43 l2 x17_1).f0))).size ≤ 9223372036854775807) = true := decide_eq_true c29
                  try have c29b2 : (9223372036854775807 < 1 + (Utf8.encode (wrap32 ((rd_T43 l2 x17_1).f0))).size) = False := eq_false (Nat.not_lt.2 c29)
                  by_cases c30 : ((⟨#[78]⟩ : ByteArray) ++ (Utf8.encode (wrap32 ((rd_T43 l2 x17_1).f0)))).size + x7_1.size ≤ 9223372036854775807
                  · rw [if_pos c30] at H
                    have c30b0 := eq_true c30
                    have c30b1 : decide (((⟨#[78]⟩ : ByteArray) ++ (Utf8.encode (wrap32 ((rd_T43 l2 x17_1).f0)))).size + x7_1.size ≤ 9223372036854775807) = true := decide_eq_true c30
                    try have c30b2 : (9223372036854775807 < ((⟨#[78]⟩ : ByteArray) ++ (Utf8.encode (wrap32 ((rd_T43 l2 x17_1).f0)))).size + x7_1.size) = False := eq_false (Nat.not_lt.2 c30)
                    try have c30b4 : (9223372036854775807 < 1 + (Utf8.encode (wrap32 ((rd_T43 l2 x17_1).f0))).size + x7_1.size) = False := eq_false (by have h_ := c30; (repeat rw [ByteArray.size_append] at h_); exact Nat.not_lt.2 h_)
                    by_cases c31 : (((⟨#[78]⟩ : ByteArray) ++ (Utf8.encode (wrap32 ((rd_T43 l2 x17_1).f0)))) ++ x7_1).size + t130.size ≤ 9223372036854775807
                    · rw [if_pos c31] at H
                      have c31b0 := eq_true c31
                      have c31b1 : decide ((((⟨#[78]⟩ : ByteArray) ++ (Utf8.encode (wrap32 ((rd_T43 l2 x17_1).f0)))) ++ x7_1).size + t130.size ≤ 9223372036854775807) = true := decide_eq_true c31
                      try have c31b2 : (9223372036854775807 < (((⟨#[78]⟩ : ByteArray) ++ (Utf8.encode (wrap32 ((rd_T43 l2 x17_1).f0)))) ++ x7_1).size + t130.size) = False := eq_false (Nat.not_lt.2 c31)
                      try have c31b4 : (9223372036854775807 < 1 + (Utf8.encode (wrap32 ((rd_T43 l2 x17_1).f0))).size + x7_1.size + t130.size) = False := eq_false (by have h_ := c31; (repeat rw [ByteArray.size_append] at h_); exact Nat.not_lt.2 h_)
                      have H' := Aside0.mk H
                      clear H
                      have p128 : 0 ≤ (x17_1 : Int) := of_decide_eq_true (by first | (with_reducible assumption) | assumption)
                      have q128 : x17_1 < (l2.length : Int) := of_decide_eq_true (by first | (with_reducible assumption) | assumption)
                      obtain ⟨ad128, e128, hx128_0, hx128_1, hx128_2⟩ := at_T43 HR2.out x17_1 p128 q128
                      cases e128
                      replace hx128_0 := (HB.out.cell (World.block_lt_of_cell? w _ hx128_0)).trans hx128_0
                      replace hx128_1 := (HB.out.cell (World.block_lt_of_cell? w _ hx128_1)).trans hx128_1
                      replace hx128_2 := (HB.out.cell (World.block_lt_of_cell? w _ hx128_2)).trans hx128_2
                      replace p128 := eq_true p128
                      replace q128 := eq_true q128
                      go_wp2_with (first | (go_at_call 15; refine (idCut_at _ _ _ _ _ _ (by assumption) (by assumption)).mono ?_; rintro e w_ ⟨rfl, rfl⟩) | ((with_reducible refine gate_dst (N := 9) rfl ?_); (try (refine gate_guard (by rfl) ?_; dsimp only)); refine box_event ?hg (N := 9) ?hd (cs := #[.int .u8 0, .string (⟨#[]⟩ : ByteArray), .int .u64 0]) (t := 43) ?hr ?_; (case hd => rfl); (case hg => rfl); (case hr => first | (go_simp; done) | (go_simp; rfl)); intro gb129 hg w32 hbox hb; have n0_ := Aside0.mk (below_step (by repeat (first | (with_reducible first | exact HB.out | apply below_alloc | apply pw_below_drewN | apply below_drew1) | exact HB.out)) hb); have n1_ := Aside0.mk (hbox); have n2_ := Aside0.mk ((by rw [hg]; exact (below_size (by repeat (first | (with_reducible first | exact HB.out | apply below_alloc | apply pw_below_drewN | apply below_drew1) | exact HB.out))) : w.heap.size ≤ gb129)); have n3_ := Aside0.mk ((by rw [hg]; exact (below_size (by repeat (first | (with_reducible first | exact HB.out | apply below_alloc | apply pw_below_drewN | apply below_drew1) | exact HB.out))) : w.heap.size ≤ gb129)); clear HB; have HB := n0_; have BK129 := n1_; have GW129 := n2_; have GE129 := n3_; clear n0_ n1_ n2_ n3_; clear hb hbox hg; have hcz33_0 : w32.cell? ⟨gb129, 0, none⟩ = some (.int .u8 0) := (blk_cell BK129.out 0).trans rfl; have hcz33_1 : w32.cell? ⟨gb129, 1, none⟩ = some (.string (⟨#[]⟩ : ByteArray)) := (blk_cell BK129.out 1).trans rfl; have hcz33_2 : w32.cell? ⟨gb129, 2, none⟩ = some (.int .u64 0) := (blk_cell BK129.out 2).trans rfl; have hfz33_0 := blk_frozen BK129.out 0; have hfz33_1 := blk_frozen BK129.out 1; have hfz33_2 := blk_frozen BK129.out 2) | ((with_reducible refine gate_callee (f := 34) rfl ?_); refine goesL_ (some 26) rfl rfl Tryz.func34 (by kernel_rfl) rfl #[.string ((rd_T43 l2 x17_1).f1), .int .u64 ((rd_T43 l2 x17_1).f2)] rfl (by (try simp only [List.map_toArray, List.map_cons, List.map_nil]); first | done | rfl | (simp only [List.length_drop, List.length_take]; rfl)) ?_; (with_reducible refine (spec_idIdentifier.calls k1 ((rd_T43 l2 x17_1).f1) ((rd_T43 l2 x17_1).f2) t130 _ (show DoorIs _ from ?side1) A10.out).mono ?_); (case side1 => exact Stays.below hT_ (by first | (repeat (first | (with_reducible first | exact HB.out | apply below_alloc | apply pw_below_drewN | apply below_drew1 | refine below_set ?_ GE129.out) | exact HB.out)) | (repeat (first | exact Below.refl _ _ | apply below_drew1 | apply pw_below_drewN)))); rintro e w34 ⟨rfl, hb⟩; refine ⟨_, rfl, ?_⟩; have n0_ := Aside0.mk (blk_below (g := gb129) (o := .cells #[.int .u8 ((rd_T43 l2 x17_1).f0), .string ((rd_T43 l2 x17_1).f1), .int .u64 ((rd_T43 l2 x17_1).f2)] 43 (0, 0)) (by (with_reducible repeat (first | refine blk_drewN ?_ _ | refine blk_drew ?_ | refine blk_alloc ?_ _)); refine blk_put (cs := #[.int .u8 ((rd_T43 l2 x17_1).f0), .string ((rd_T43 l2 x17_1).f1), .int .u64 0]) ?_ 2 _ rfl; (with_reducible repeat (first | refine blk_drewN ?_ _ | refine blk_drew ?_ | refine blk_alloc ?_ _)); refine blk_put (cs := #[.int .u8 ((rd_T43 l2 x17_1).f0), .string (⟨#[]⟩ : ByteArray), .int .u64 0]) ?_ 1 _ rfl; (with_reducible repeat (first | refine blk_drewN ?_ _ | refine blk_drew ?_ | refine blk_alloc ?_ _)); refine blk_put (cs := #[.int .u8 0, .string (⟨#[]⟩ : ByteArray), .int .u64 0]) ?_ 0 _ rfl; (with_reducible repeat (first | refine blk_drewN ?_ _ | refine blk_drew ?_ | refine blk_alloc ?_ _)); exact BK129.out) hb); have n1_ := Aside0.mk (below_step (by repeat (first | (with_reducible first | exact HB.out | apply below_alloc | apply pw_below_drewN | apply below_drew1 | refine below_set ?_ GE129.out) | exact HB.out)) hb); clear BK129; clear HB; have BK129 := n0_; have HB := n1_; clear n0_ n1_; (try clear hb); (try clear hb2); (try clear hk); (try clear hi); have hcz35_0 : w34.cell? ⟨gb129, 0, none⟩ = some (.int .u8 ((rd_T43 l2 x17_1).f0)) := (blk_cell BK129.out 0).trans rfl; have hcz35_1 : w34.cell? ⟨gb129, 1, none⟩ = some (.string ((rd_T43 l2 x17_1).f1)) := (blk_cell BK129.out 1).trans rfl; have hcz35_2 : w34.cell? ⟨gb129, 2, none⟩ = some (.int .u64 ((rd_T43 l2 x17_1).f2)) := (blk_cell BK129.out 2).trans rfl; have hfz35_0 := blk_frozen BK129.out 0; have hfz35_1 := blk_frozen BK129.out 1; have hfz35_2 := blk_frozen BK129.out 2))
                      go_roundg k1
                      case measure => have := HK1.out; omega
                      case rel => exact ⟨((((⟨#[78]⟩ : ByteArray) ++ (Utf8.encode (wrap32 ((rd_T43 l2 x17_1).f0)))) ++ x7_1) ++ t130), (wrap64 (x17_1 + 1)), (by first | rfl | (simp; done) | (simp [*]; done)), (by first | rfl | (simp; done) | (simp [*]; done)), H', ⟨by have := HK1.out; omega⟩, ⟨by repeat (first | (with_reducible first | exact HB.out | apply below_alloc | apply pw_below_drewN | apply below_drew1 | refine below_set ?_ GE129.out) | exact HB.out)⟩⟩
                    · rw [if_neg c31] at H
                      exact absurd H (by simp)
                  · rw [if_neg c30] at H
                    exact absurd H (by simp)
                · rw [if_neg c29] at H
                  exact absurd H (by simp)
            · rw [if_neg c9] at H
              exact absurd H (by simp)
          · rw [if_neg c8] at H
            exact absurd H (by simp)
        · rw [if_neg c7] at H
          have c7b0 : decide (x17_1 < (l2.length : Int)) = false := decide_eq_false c7
          clear c7
          obtain rfl := Option.some.inj H
          go_wp2
          go_ret
          exact ⟨by first | rfl | (simp [errW_none, errW_some] <;> rfl) | (simp [*, errW_none, errW_some] <;> rfl), by repeat (first | (with_reducible first | exact HB.out | apply below_alloc | apply pw_below_drewN | apply below_drew1) | exact HB.out)⟩
  · rw [if_neg c5] at H
    exact absurd H (by simp)

/-! ### laws_idRefused: function 24 -/
def laws_idRefused.f (a0 : ByteArray) : Option (Bool) := (impl_Told.f a0 false false false false false false false 0).bind fun bt132 => (some (bt132.2 != 0))
set_option maxHeartbeats 8000000 in
set_option maxRecDepth 100000 in
theorem laws_idRefused.calls (a0 : ByteArray) (r : Bool) (w : World) (hT_ : DoorIs w) (h : laws_idRefused.f a0 = some r) :
    Calls Tryz.prog 24 #[.string a0] w fun e w' => e = .returned (.bool r) ∧ Below w.heap.size w w' := by
  have hu34 := Tryz.underlying34
  have HB := Aside0.mk (Below.refl w.heap.size w)
  have H : ((impl_Told.f a0 false false false false false false false 0).bind fun bt132 => (some (bt132.2 != 0))) = some r := h
  clear h
  replace H := Option.bind_eq_some_iff.mp H
  obtain ⟨⟨t132, t133⟩, A20, H⟩ := H
  replace H : (some (t133 != 0)) = some r := H
  have A2 := Aside0.mk A20
  clear A20
  obtain rfl := Option.some.inj H
  go_enter Tryz.func24, Tryz.ntmps24
  go_wp2_with (first | (go_at_call 15; refine (idCut_at _ _ _ _ _ _ (by assumption) (by assumption)).mono ?_; rintro e w_ ⟨rfl, rfl⟩) | ((with_reducible refine gate_callee (f := 17) rfl ?_); refine goesL_ (some 8) rfl rfl Tryz.func17 (by kernel_rfl) rfl #[.string a0, .agg #[.bool false, .bool false, .bool false, .bool false, .bool false, .bool false, .bool false, .int .i64 0]] rfl (by (try simp only [List.map_toArray, List.map_cons, List.map_nil]); first | done | rfl | (simp only [List.length_drop, List.length_take]; rfl)) ?_; (with_reducible refine (impl_Told.calls a0 false false false false false false false 0 t132 t133 _ (show DoorIs _ from ?side1) A2.out).mono ?_); (case side1 => exact Stays.below hT_ (by first | (repeat (first | (with_reducible first | exact HB.out | apply below_alloc | apply pw_below_drewN | apply below_drew1) | exact HB.out)) | (repeat (first | exact Below.refl _ _ | apply below_drew1 | apply pw_below_drewN)))); rintro e w3 ⟨rfl, hb⟩; refine ⟨_, rfl, ?_⟩; have n0_ := Aside0.mk (below_step (by repeat (first | (with_reducible first | exact HB.out | apply below_alloc | apply pw_below_drewN | apply below_drew1) | exact HB.out)) hb); clear HB; have HB := n0_; clear n0_; (try clear hb); (try clear hb2); (try clear hk); (try clear hi)))
  go_ret
  exact ⟨by first | rfl | (simp [errW_none, errW_some] <;> rfl) | (simp [*, errW_none, errW_some] <;> rfl), by repeat (first | (with_reducible first | exact HB.out | apply below_alloc | apply pw_below_drewN | apply below_drew1) | exact HB.out)⟩

/-! ### laws_FnBehindRefused: function 5 -/
def laws_FnBehindRefused.j0 : Nat → List Int → List (List Int) → List Int → Int → List Int → Bool → Option (Bool)
  | 0, _, _, _, _, _, _ => none
  | k + 1, x0, x1, x2, x3, x4, x30 => if x30 = true then (some true) else (if 0 ≤ (mn (x0.length : Int) 1000) then (if (mn (x0.length : Int) 1000) ≤ (x0.length : Int) then ((spec_AnPlain.f k (x0.take ((mn (x0.length : Int) 1000) : Int).toNat)).bind fun t136 => ((laws_idSmall.f k x1 x2 ([] : List Int)).bind fun t137 => ((spec_IdSymbol.f k t136 0 t137).bind fun t140 => (if 2 + t140.size ≤ 9223372036854775807 then (if 0 ≤ (Int.tmod x3 36) then (if (Int.tmod x3 36) ≤ (((Int.tmod x3 36) + 1) % 256) then (if (((Int.tmod x3 36) + 1) % 256) ≤ 36 then (if ((⟨#[95, 82]⟩ : ByteArray) ++ t140).size + ((⟨#[97, 98, 99, 100, 101, 102, 103, 104, 105, 106, 107, 108, 109, 110, 111, 112, 113, 114, 115, 116, 117, 118, 119, 120, 121, 122, 48, 49, 50, 51, 52, 53, 54, 55, 56, 57]⟩ : ByteArray).extract ((Int.tmod x3 36) : Int).toNat ((((Int.tmod x3 36) + 1) % 256) : Int).toNat).size ≤ 9223372036854775807 then (if 0 ≤ (mn (x4.length : Int) 1000) then (if (mn (x4.length : Int) 1000) ≤ (x4.length : Int) then ((spec_AnPlain.f k (x4.take ((mn (x4.length : Int) 1000) : Int).toNat)).bind fun t142 => (if (((⟨#[95, 82]⟩ : ByteArray) ++ t140) ++ ((⟨#[97, 98, 99, 100, 101, 102, 103, 104, 105, 106, 107, 108, 109, 110, 111, 112, 113, 114, 115, 116, 117, 118, 119, 120, 121, 122, 48, 49, 50, 51, 52, 53, 54, 55, 56, 57]⟩ : ByteArray).extract ((Int.tmod x3 36) : Int).toNat ((((Int.tmod x3 36) + 1) % 256) : Int).toNat)).size + t142.size ≤ 9223372036854775807 then ((laws_idRefused.f ((((⟨#[95, 82]⟩ : ByteArray) ++ t140) ++ ((⟨#[97, 98, 99, 100, 101, 102, 103, 104, 105, 106, 107, 108, 109, 110, 111, 112, 113, 114, 115, 116, 117, 118, 119, 120, 121, 122, 48, 49, 50, 51, 52, 53, 54, 55, 56, 57]⟩ : ByteArray).extract ((Int.tmod x3 36) : Int).toNat ((((Int.tmod x3 36) + 1) % 256) : Int).toNat)) ++ t142)).bind fun t143 => (some t143)) else (none))) else (none)) else (none)) else (none)) else (none)) else (none)) else (none)) else (none))))) else (none)) else (none))
def laws_FnBehindRefused.f (k : Nat) (l0 : List Int) (l1 : List (List Int)) (l2 : List Int) (a3 : Int) (l4 : List Int) : Option (Bool) := if (l0.length : Int) > 2147483647 then (laws_FnBehindRefused.j0 k l0 l1 l2 a3 l4 true) else ((laws_zzFits1.f k l1).bind fun t134 => (if t134 = true then (if (l2.length : Int) > 2147483647 then (laws_FnBehindRefused.j0 k l0 l1 l2 a3 l4 true) else (laws_FnBehindRefused.j0 k l0 l1 l2 a3 l4 (decide ((l4.length : Int) > 2147483647)))) else (laws_FnBehindRefused.j0 k l0 l1 l2 a3 l4 true)))
theorem laws_FnBehindRefused.mono_l : ∀ k, (∀ y0 y1 y2 y3 y4 y5, LeO (laws_FnBehindRefused.j0 k y0 y1 y2 y3 y4 y5) (laws_FnBehindRefused.j0 (k + 1) y0 y1 y2 y3 y4 y5))
  | 0 => fun _ _ _ _ _ _ r h => by simp [laws_FnBehindRefused.j0] at h
  | k + 1 => by
    have ih0 := laws_FnBehindRefused.mono_l k
    · intro y0 y1 y2 y3 y4 y5
      unfold laws_FnBehindRefused.j0
      repeat' first
      | (with_reducible exact ih0 _ _ _ _ _ _)
      | (with_reducible exact laws_idSmall.mono _ _ _ _)
      | (with_reducible exact laws_zzFits1.mono _ _)
      | (with_reducible exact spec_AnPlain.mono _ _)
      | (with_reducible exact spec_IdSymbol.mono _ _ _ _)
      | (with_reducible exact LeO.refl _)
      | (with_reducible exact LeO.none _)
      | (with_reducible refine LeO.ite ?_ ?_)
      | (with_reducible refine LeO.bind ?_ (fun _ => ?_))
      | exact ih0 _ _ _ _ _ _
      | exact laws_idSmall.mono _ _ _ _
      | exact laws_zzFits1.mono _ _
      | exact spec_AnPlain.mono _ _
      | exact spec_IdSymbol.mono _ _ _ _
      | exact LeO.none _
      | refine LeO.ite ?_ ?_
      | refine LeO.bind ?_ (fun _ => ?_)
theorem laws_FnBehindRefused.mono : ∀ a0 a1 a2 a3 a4 k, LeO (laws_FnBehindRefused.f k a0 a1 a2 a3 a4) (laws_FnBehindRefused.f (k + 1) a0 a1 a2 a3 a4) := by
  intro a0 a1 a2 a3 a4 k
  have ih0 := laws_FnBehindRefused.mono_l k
  unfold laws_FnBehindRefused.f
  repeat' first
      | (with_reducible exact ih0 _ _ _ _ _ _)
      | (with_reducible exact laws_idSmall.mono _ _ _ _)
      | (with_reducible exact laws_zzFits1.mono _ _)
      | (with_reducible exact spec_AnPlain.mono _ _)
      | (with_reducible exact spec_IdSymbol.mono _ _ _ _)
      | (with_reducible exact LeO.refl _)
      | (with_reducible exact LeO.none _)
      | (with_reducible refine LeO.ite ?_ ?_)
      | (with_reducible refine LeO.bind ?_ (fun _ => ?_))
      | exact ih0 _ _ _ _ _ _
      | exact laws_idSmall.mono _ _ _ _
      | exact laws_zzFits1.mono _ _
      | exact spec_AnPlain.mono _ _
      | exact spec_IdSymbol.mono _ _ _ _
      | exact LeO.none _
      | refine LeO.ite ?_ ?_
      | refine LeO.bind ?_ (fun _ => ?_)
set_option maxHeartbeats 8000000 in
set_option maxRecDepth 100000 in
theorem laws_FnBehindRefused.calls (k : Nat) (A0 : Option Addr) (c0 : Nat) (l0 : List Int) (A1 : Option Addr) (c1 : Nat) (l1 : List (List Int)) (A2 : Option Addr) (c2 : Nat) (l2 : List Int) (a3 : Int) (A4 : Option Addr) (c4 : Nat) (l4 : List Int) (r : Bool) (w : World) (hr0 : Kd.C (Kd.int .u8) w A0 l0.length l0) (hc0 : l0.length ≤ c0) (hr1 : Kd.C (Kd.slice 5 (Kd.int .u8)) w A1 l1.length l1) (hc1 : l1.length ≤ c1) (hr2 : Kd.C (Kd.int .u8) w A2 l2.length l2) (hc2 : l2.length ≤ c2) (hr4 : Kd.C (Kd.int .u8) w A4 l4.length l4) (hc4 : l4.length ≤ c4) (hT_ : DoorIs w) (h : laws_FnBehindRefused.f k l0 l1 l2 a3 l4 = some r) :
    Calls Tryz.prog 5 #[.slice A0 l0.length c0, .slice A1 l1.length c1, .slice A2 l2.length c2, .int .u8 a3, .slice A4 l4.length c4] w fun e w' => e = .returned (.bool r) ∧ Below w.heap.size w w' := by
  have HR0 := Aside0.mk hr0
  have HC0 := Aside0.mk hc0
  clear hr0 hc0
  have HR1 := Aside0.mk hr1
  have HC1 := Aside0.mk hc1
  clear hr1 hc1
  have HR2 := Aside0.mk hr2
  have HC2 := Aside0.mk hc2
  clear hr2 hc2
  have HR4 := Aside0.mk hr4
  have HC4 := Aside0.mk hc4
  clear hr4 hc4
  have HB := Aside0.mk (Below.refl w.heap.size w)
  have H : (if (l0.length : Int) > 2147483647 then (laws_FnBehindRefused.j0 k l0 l1 l2 a3 l4 true) else ((laws_zzFits1.f k l1).bind fun t134 => (if t134 = true then (if (l2.length : Int) > 2147483647 then (laws_FnBehindRefused.j0 k l0 l1 l2 a3 l4 true) else (laws_FnBehindRefused.j0 k l0 l1 l2 a3 l4 (decide ((l4.length : Int) > 2147483647)))) else (laws_FnBehindRefused.j0 k l0 l1 l2 a3 l4 true)))) = some r := h
  clear h
  have HC6 := Aside0.mk H
  clear H
  go_enter Tryz.func5, Tryz.ntmps5
  go_upto_region 1 with (fail)
  go_cut [30] (fun v30 wc => ∃ (kq : Nat) (x30_5 : Bool), v30 = .bool x30_5 ∧ Aside0 (laws_FnBehindRefused.j0 kq l0 l1 l2 a3 l4 x30_5 = some r) ∧ Aside0 (kq ≤ k) ∧ Aside0 (Below w.heap.size w wc))
  case first =>
    have H := HC6.out
    clear HC6
    by_cases c7 : (l0.length : Int) > 2147483647
    · rw [if_pos c7] at H
      have c7b0 : decide (2147483647 < (l0.length : Int)) = true := decide_eq_true c7
      have c7b1 : decide (2147483647 < l0.length) = true := decide_eq_true (by omega)
      clear c7
      (first | rw [c7b0] | (simp only [i64_w, i32_w]; rw [c7b0]) | rw [c7b1] | skip)
      have H' := Aside0.mk H
      clear H
      go_wp2
      go_meet
      case rel => exact ⟨_, (true), (by first | rfl | (simp; done) | (simp [*]; done)), H', ⟨by first | omega | exact Nat.le_refl _⟩, ⟨by repeat (first | (with_reducible first | exact HB.out | apply below_alloc | apply pw_below_drewN | apply below_drew1) | exact HB.out)⟩⟩
    · rw [if_neg c7] at H
      have c7b0 : decide (2147483647 < (l0.length : Int)) = false := decide_eq_false c7
      have c7b1 : decide (2147483647 < l0.length) = false := decide_eq_false (by omega)
      clear c7
      (first | rw [c7b0] | (simp only [i64_w, i32_w]; rw [c7b0]) | rw [c7b1] | skip)
      replace H := Option.bind_eq_some_iff.mp H
      obtain ⟨t134, A80, H⟩ := H
      replace H : (if t134 = true then (if (l2.length : Int) > 2147483647 then (laws_FnBehindRefused.j0 k l0 l1 l2 a3 l4 true) else (laws_FnBehindRefused.j0 k l0 l1 l2 a3 l4 (decide ((l4.length : Int) > 2147483647)))) else (laws_FnBehindRefused.j0 k l0 l1 l2 a3 l4 true)) = some r := H
      have A8 := Aside0.mk A80
      clear A80
      by_cases c9 : t134 = true
      · subst c9
        have H1 : (if (l2.length : Int) > 2147483647 then (laws_FnBehindRefused.j0 k l0 l1 l2 a3 l4 true) else (laws_FnBehindRefused.j0 k l0 l1 l2 a3 l4 (decide ((l4.length : Int) > 2147483647)))) = some r := by rw [if_pos rfl] at H; exact H
        clear H
        have H := H1
        clear H1
        by_cases c10 : (l2.length : Int) > 2147483647
        · rw [if_pos c10] at H
          have c10b0 : decide (2147483647 < (l2.length : Int)) = true := decide_eq_true c10
          have c10b1 : decide (2147483647 < l2.length) = true := decide_eq_true (by omega)
          clear c10
          have H' := Aside0.mk H
          clear H
          go_wp2_with (first | (go_at_call 15; refine (idCut_at _ _ _ _ _ _ (by assumption) (by assumption)).mono ?_; rintro e w_ ⟨rfl, rfl⟩) | (go_at_call 13; (with_reducible refine (laws_zzFits1.calls k _ _ l1 true _ ?side1 ?side2 A8.out).mono ?_); (case side1 => repeat (first | exact (Kd.C_below HR1.out HB.out) | (with_reducible refine Kd.C_alloc ?_ _) | (with_reducible refine Kd.C_drewN ?_ _) | (with_reducible refine Kd.C_drew ?_))); (case side2 => exact HC1.out); rintro e w' ⟨rfl, ⟨nd, rfl⟩⟩))
          go_meet
          case rel => exact ⟨_, (true), (by first | rfl | (simp; done) | (simp [*]; done)), H', ⟨by first | omega | exact Nat.le_refl _⟩, ⟨by repeat (first | (with_reducible first | exact HB.out | apply below_alloc | apply pw_below_drewN | apply below_drew1) | exact HB.out)⟩⟩
        · rw [if_neg c10] at H
          have c10b0 : decide (2147483647 < (l2.length : Int)) = false := decide_eq_false c10
          have c10b1 : decide (2147483647 < l2.length) = false := decide_eq_false (by omega)
          clear c10
          have H' := Aside0.mk H
          clear H
          go_wp2_with (first | (go_at_call 15; refine (idCut_at _ _ _ _ _ _ (by assumption) (by assumption)).mono ?_; rintro e w_ ⟨rfl, rfl⟩) | (go_at_call 13; (with_reducible refine (laws_zzFits1.calls k _ _ l1 true _ ?side1 ?side2 A8.out).mono ?_); (case side1 => repeat (first | exact (Kd.C_below HR1.out HB.out) | (with_reducible refine Kd.C_alloc ?_ _) | (with_reducible refine Kd.C_drewN ?_ _) | (with_reducible refine Kd.C_drew ?_))); (case side2 => exact HC1.out); rintro e w' ⟨rfl, ⟨nd, rfl⟩⟩))
          go_meet
          case rel => exact ⟨_, (decide ((l4.length : Int) > 2147483647)), (by first | rfl | (simp; done) | (simp [*]; done)), H', ⟨by first | omega | exact Nat.le_refl _⟩, ⟨by repeat (first | (with_reducible first | exact HB.out | apply below_alloc | apply pw_below_drewN | apply below_drew1) | exact HB.out)⟩⟩
      · replace c9 := Bool.eq_false_iff.mpr c9
        subst c9
        have H1 : (laws_FnBehindRefused.j0 k l0 l1 l2 a3 l4 true) = some r := by rw [if_neg (show ¬ (false = true) by decide)] at H; exact H
        clear H
        have H := H1
        clear H1
        have H' := Aside0.mk H
        clear H
        go_wp2_with (first | (go_at_call 15; refine (idCut_at _ _ _ _ _ _ (by assumption) (by assumption)).mono ?_; rintro e w_ ⟨rfl, rfl⟩) | (go_at_call 13; (with_reducible refine (laws_zzFits1.calls k _ _ l1 false _ ?side1 ?side2 A8.out).mono ?_); (case side1 => repeat (first | exact (Kd.C_below HR1.out HB.out) | (with_reducible refine Kd.C_alloc ?_ _) | (with_reducible refine Kd.C_drewN ?_ _) | (with_reducible refine Kd.C_drew ?_))); (case side2 => exact HC1.out); rintro e w' ⟨rfl, ⟨nd, rfl⟩⟩))
        go_meet
        case rel => exact ⟨_, (true), (by first | rfl | (simp; done) | (simp [*]; done)), H', ⟨by first | omega | exact Nat.le_refl _⟩, ⟨by repeat (first | (with_reducible first | exact HB.out | apply below_alloc | apply pw_below_drewN | apply below_drew1) | exact HB.out)⟩⟩
  case rest =>
    clear HC6
    try clear c1
    try clear c2
    try clear p2
    try clear c4
    try clear c5
    try clear c7
    try clear c7b0
    try clear c7b1
    try clear c9
    try clear c10
    try clear c10b0
    try clear c10b1
    obtain ⟨kq, x30_5, rfl, HA, HJ5, HB⟩ := hcut
    cases kq with
    | zero => exact absurd HA.out (by simp [laws_FnBehindRefused.j0])
    | succ kj5 =>
      have H := HA.out
      clear HA
      simp only [laws_FnBehindRefused.j0] at H
      by_cases c11 : x30_5 = true
      · subst c11
        have H1 : (some true) = some r := by rw [if_pos rfl] at H; exact H
        clear H
        have H := H1
        clear H1
        obtain rfl := Option.some.inj H
        go_wp2
        go_ret
        exact ⟨by first | rfl | (simp [errW_none, errW_some] <;> rfl) | (simp [*, errW_none, errW_some] <;> rfl), by repeat (first | (with_reducible first | exact HB.out | apply below_alloc | apply pw_below_drewN | apply below_drew1) | exact HB.out)⟩
      · replace c11 := Bool.eq_false_iff.mpr c11
        subst c11
        have H1 : (if 0 ≤ (mn (l0.length : Int) 1000) then (if (mn (l0.length : Int) 1000) ≤ (l0.length : Int) then ((spec_AnPlain.f kj5 (l0.take ((mn (l0.length : Int) 1000) : Int).toNat)).bind fun t136 => ((laws_idSmall.f kj5 l1 l2 ([] : List Int)).bind fun t137 => ((spec_IdSymbol.f kj5 t136 0 t137).bind fun t140 => (if 2 + t140.size ≤ 9223372036854775807 then (if 0 ≤ (Int.tmod a3 36) then (if (Int.tmod a3 36) ≤ (((Int.tmod a3 36) + 1) % 256) then (if (((Int.tmod a3 36) + 1) % 256) ≤ 36 then (if ((⟨#[95, 82]⟩ : ByteArray) ++ t140).size + ((⟨#[97, 98, 99, 100, 101, 102, 103, 104, 105, 106, 107, 108, 109, 110, 111, 112, 113, 114, 115, 116, 117, 118, 119, 120, 121, 122, 48, 49, 50, 51, 52, 53, 54, 55, 56, 57]⟩ : ByteArray).extract ((Int.tmod a3 36) : Int).toNat ((((Int.tmod a3 36) + 1) % 256) : Int).toNat).size ≤ 9223372036854775807 then (if 0 ≤ (mn (l4.length : Int) 1000) then (if (mn (l4.length : Int) 1000) ≤ (l4.length : Int) then ((spec_AnPlain.f kj5 (l4.take ((mn (l4.length : Int) 1000) : Int).toNat)).bind fun t142 => (if (((⟨#[95, 82]⟩ : ByteArray) ++ t140) ++ ((⟨#[97, 98, 99, 100, 101, 102, 103, 104, 105, 106, 107, 108, 109, 110, 111, 112, 113, 114, 115, 116, 117, 118, 119, 120, 121, 122, 48, 49, 50, 51, 52, 53, 54, 55, 56, 57]⟩ : ByteArray).extract ((Int.tmod a3 36) : Int).toNat ((((Int.tmod a3 36) + 1) % 256) : Int).toNat)).size + t142.size ≤ 9223372036854775807 then ((laws_idRefused.f ((((⟨#[95, 82]⟩ : ByteArray) ++ t140) ++ ((⟨#[97, 98, 99, 100, 101, 102, 103, 104, 105, 106, 107, 108, 109, 110, 111, 112, 113, 114, 115, 116, 117, 118, 119, 120, 121, 122, 48, 49, 50, 51, 52, 53, 54, 55, 56, 57]⟩ : ByteArray).extract ((Int.tmod a3 36) : Int).toNat ((((Int.tmod a3 36) + 1) % 256) : Int).toNat)) ++ t142)).bind fun t143 => (some t143)) else (none))) else (none)) else (none)) else (none)) else (none)) else (none)) else (none)) else (none))))) else (none)) else (none)) = some r := by rw [if_neg (show ¬ (false = true) by decide)] at H; exact H
        clear H
        have H := H1
        clear H1
        obtain ⟨ji12, hji12⟩ : ∃ j_ : Int, (mn (l0.length : Int) 1000) = j_ := ⟨_, rfl⟩
        replace H : (if 0 ≤ (ji12) then (if (ji12) ≤ (l0.length : Int) then ((spec_AnPlain.f kj5 (l0.take ((ji12) : Int).toNat)).bind fun t136 => ((laws_idSmall.f kj5 l1 l2 ([] : List Int)).bind fun t137 => ((spec_IdSymbol.f kj5 t136 0 t137).bind fun t140 => (if 2 + t140.size ≤ 9223372036854775807 then (if 0 ≤ (Int.tmod a3 36) then (if (Int.tmod a3 36) ≤ (((Int.tmod a3 36) + 1) % 256) then (if (((Int.tmod a3 36) + 1) % 256) ≤ 36 then (if ((⟨#[95, 82]⟩ : ByteArray) ++ t140).size + ((⟨#[97, 98, 99, 100, 101, 102, 103, 104, 105, 106, 107, 108, 109, 110, 111, 112, 113, 114, 115, 116, 117, 118, 119, 120, 121, 122, 48, 49, 50, 51, 52, 53, 54, 55, 56, 57]⟩ : ByteArray).extract ((Int.tmod a3 36) : Int).toNat ((((Int.tmod a3 36) + 1) % 256) : Int).toNat).size ≤ 9223372036854775807 then (if 0 ≤ (mn (l4.length : Int) 1000) then (if (mn (l4.length : Int) 1000) ≤ (l4.length : Int) then ((spec_AnPlain.f kj5 (l4.take ((mn (l4.length : Int) 1000) : Int).toNat)).bind fun t142 => (if (((⟨#[95, 82]⟩ : ByteArray) ++ t140) ++ ((⟨#[97, 98, 99, 100, 101, 102, 103, 104, 105, 106, 107, 108, 109, 110, 111, 112, 113, 114, 115, 116, 117, 118, 119, 120, 121, 122, 48, 49, 50, 51, 52, 53, 54, 55, 56, 57]⟩ : ByteArray).extract ((Int.tmod a3 36) : Int).toNat ((((Int.tmod a3 36) + 1) % 256) : Int).toNat)).size + t142.size ≤ 9223372036854775807 then ((laws_idRefused.f ((((⟨#[95, 82]⟩ : ByteArray) ++ t140) ++ ((⟨#[97, 98, 99, 100, 101, 102, 103, 104, 105, 106, 107, 108, 109, 110, 111, 112, 113, 114, 115, 116, 117, 118, 119, 120, 121, 122, 48, 49, 50, 51, 52, 53, 54, 55, 56, 57]⟩ : ByteArray).extract ((Int.tmod a3 36) : Int).toNat ((((Int.tmod a3 36) + 1) % 256) : Int).toNat)) ++ t142)).bind fun t143 => (some t143)) else (none))) else (none)) else (none)) else (none)) else (none)) else (none)) else (none)) else (none))))) else (none)) else (none)) = some r := by first | (rw [hji12] at H; exact H) | (simp only [hji12] at H ⊢; exact H)
        (try (have hji12h : ji12 ≤ 1000 := by (rw [← hji12]; unfold mn; (repeat' split) <;> omega)))
        (try (have hji12g : ji12 ≤ 64 := by omega))
        (try (have hji12l : 0 ≤ ji12 := by (rw [← hji12]; unfold mn; (repeat' split) <;> omega)))
        (try (have hji12m : 0 ≤ ji12 := by omega))
        have hji12_ : (if 1000 < (l0.length : Int) then 1000 else (l0.length : Int)) = ji12 := hji12
        by_cases c13 : 0 ≤ (ji12)
        · rw [if_pos c13] at H
          have c13b0 := eq_true c13
          have c13b1 : decide (0 ≤ (ji12)) = true := decide_eq_true c13
          clear c13
          by_cases c14 : (ji12) ≤ (l0.length : Int)
          · rw [if_pos c14] at H
            have c14b0 := eq_true c14
            have c14b1 : decide ((ji12) ≤ (l0.length : Int)) = true := decide_eq_true c14
            clear c14
            replace H := Option.bind_eq_some_iff.mp H
            obtain ⟨t136, A150, H⟩ := H
            replace H : ((laws_idSmall.f kj5 l1 l2 ([] : List Int)).bind fun t137 => ((spec_IdSymbol.f kj5 t136 0 t137).bind fun t140 => (if 2 + t140.size ≤ 9223372036854775807 then (if 0 ≤ (Int.tmod a3 36) then (if (Int.tmod a3 36) ≤ (((Int.tmod a3 36) + 1) % 256) then (if (((Int.tmod a3 36) + 1) % 256) ≤ 36 then (if ((⟨#[95, 82]⟩ : ByteArray) ++ t140).size + ((⟨#[97, 98, 99, 100, 101, 102, 103, 104, 105, 106, 107, 108, 109, 110, 111, 112, 113, 114, 115, 116, 117, 118, 119, 120, 121, 122, 48, 49, 50, 51, 52, 53, 54, 55, 56, 57]⟩ : ByteArray).extract ((Int.tmod a3 36) : Int).toNat ((((Int.tmod a3 36) + 1) % 256) : Int).toNat).size ≤ 9223372036854775807 then (if 0 ≤ (mn (l4.length : Int) 1000) then (if (mn (l4.length : Int) 1000) ≤ (l4.length : Int) then ((spec_AnPlain.f kj5 (l4.take ((mn (l4.length : Int) 1000) : Int).toNat)).bind fun t142 => (if (((⟨#[95, 82]⟩ : ByteArray) ++ t140) ++ ((⟨#[97, 98, 99, 100, 101, 102, 103, 104, 105, 106, 107, 108, 109, 110, 111, 112, 113, 114, 115, 116, 117, 118, 119, 120, 121, 122, 48, 49, 50, 51, 52, 53, 54, 55, 56, 57]⟩ : ByteArray).extract ((Int.tmod a3 36) : Int).toNat ((((Int.tmod a3 36) + 1) % 256) : Int).toNat)).size + t142.size ≤ 9223372036854775807 then ((laws_idRefused.f ((((⟨#[95, 82]⟩ : ByteArray) ++ t140) ++ ((⟨#[97, 98, 99, 100, 101, 102, 103, 104, 105, 106, 107, 108, 109, 110, 111, 112, 113, 114, 115, 116, 117, 118, 119, 120, 121, 122, 48, 49, 50, 51, 52, 53, 54, 55, 56, 57]⟩ : ByteArray).extract ((Int.tmod a3 36) : Int).toNat ((((Int.tmod a3 36) + 1) % 256) : Int).toNat)) ++ t142)).bind fun t143 => (some t143)) else (none))) else (none)) else (none)) else (none)) else (none)) else (none)) else (none)) else (none)))) = some r := H
            have A15 := Aside0.mk A150
            clear A150
            replace H := Option.bind_eq_some_iff.mp H
            obtain ⟨t137, A160, H⟩ := H
            replace H : ((spec_IdSymbol.f kj5 t136 0 t137).bind fun t140 => (if 2 + t140.size ≤ 9223372036854775807 then (if 0 ≤ (Int.tmod a3 36) then (if (Int.tmod a3 36) ≤ (((Int.tmod a3 36) + 1) % 256) then (if (((Int.tmod a3 36) + 1) % 256) ≤ 36 then (if ((⟨#[95, 82]⟩ : ByteArray) ++ t140).size + ((⟨#[97, 98, 99, 100, 101, 102, 103, 104, 105, 106, 107, 108, 109, 110, 111, 112, 113, 114, 115, 116, 117, 118, 119, 120, 121, 122, 48, 49, 50, 51, 52, 53, 54, 55, 56, 57]⟩ : ByteArray).extract ((Int.tmod a3 36) : Int).toNat ((((Int.tmod a3 36) + 1) % 256) : Int).toNat).size ≤ 9223372036854775807 then (if 0 ≤ (mn (l4.length : Int) 1000) then (if (mn (l4.length : Int) 1000) ≤ (l4.length : Int) then ((spec_AnPlain.f kj5 (l4.take ((mn (l4.length : Int) 1000) : Int).toNat)).bind fun t142 => (if (((⟨#[95, 82]⟩ : ByteArray) ++ t140) ++ ((⟨#[97, 98, 99, 100, 101, 102, 103, 104, 105, 106, 107, 108, 109, 110, 111, 112, 113, 114, 115, 116, 117, 118, 119, 120, 121, 122, 48, 49, 50, 51, 52, 53, 54, 55, 56, 57]⟩ : ByteArray).extract ((Int.tmod a3 36) : Int).toNat ((((Int.tmod a3 36) + 1) % 256) : Int).toNat)).size + t142.size ≤ 9223372036854775807 then ((laws_idRefused.f ((((⟨#[95, 82]⟩ : ByteArray) ++ t140) ++ ((⟨#[97, 98, 99, 100, 101, 102, 103, 104, 105, 106, 107, 108, 109, 110, 111, 112, 113, 114, 115, 116, 117, 118, 119, 120, 121, 122, 48, 49, 50, 51, 52, 53, 54, 55, 56, 57]⟩ : ByteArray).extract ((Int.tmod a3 36) : Int).toNat ((((Int.tmod a3 36) + 1) % 256) : Int).toNat)) ++ t142)).bind fun t143 => (some t143)) else (none))) else (none)) else (none)) else (none)) else (none)) else (none)) else (none)) else (none))) = some r := H
            have A16 := Aside0.mk A160
            clear A160
            replace H := Option.bind_eq_some_iff.mp H
            obtain ⟨t140, A170, H⟩ := H
            replace H : (if 2 + t140.size ≤ 9223372036854775807 then (if 0 ≤ (Int.tmod a3 36) then (if (Int.tmod a3 36) ≤ (((Int.tmod a3 36) + 1) % 256) then (if (((Int.tmod a3 36) + 1) % 256) ≤ 36 then (if ((⟨#[95, 82]⟩ : ByteArray) ++ t140).size + ((⟨#[97, 98, 99, 100, 101, 102, 103, 104, 105, 106, 107, 108, 109, 110, 111, 112, 113, 114, 115, 116, 117, 118, 119, 120, 121, 122, 48, 49, 50, 51, 52, 53, 54, 55, 56, 57]⟩ : ByteArray).extract ((Int.tmod a3 36) : Int).toNat ((((Int.tmod a3 36) + 1) % 256) : Int).toNat).size ≤ 9223372036854775807 then (if 0 ≤ (mn (l4.length : Int) 1000) then (if (mn (l4.length : Int) 1000) ≤ (l4.length : Int) then ((spec_AnPlain.f kj5 (l4.take ((mn (l4.length : Int) 1000) : Int).toNat)).bind fun t142 => (if (((⟨#[95, 82]⟩ : ByteArray) ++ t140) ++ ((⟨#[97, 98, 99, 100, 101, 102, 103, 104, 105, 106, 107, 108, 109, 110, 111, 112, 113, 114, 115, 116, 117, 118, 119, 120, 121, 122, 48, 49, 50, 51, 52, 53, 54, 55, 56, 57]⟩ : ByteArray).extract ((Int.tmod a3 36) : Int).toNat ((((Int.tmod a3 36) + 1) % 256) : Int).toNat)).size + t142.size ≤ 9223372036854775807 then ((laws_idRefused.f ((((⟨#[95, 82]⟩ : ByteArray) ++ t140) ++ ((⟨#[97, 98, 99, 100, 101, 102, 103, 104, 105, 106, 107, 108, 109, 110, 111, 112, 113, 114, 115, 116, 117, 118, 119, 120, 121, 122, 48, 49, 50, 51, 52, 53, 54, 55, 56, 57]⟩ : ByteArray).extract ((Int.tmod a3 36) : Int).toNat ((((Int.tmod a3 36) + 1) % 256) : Int).toNat)) ++ t142)).bind fun t143 => (some t143)) else (none))) else (none)) else (none)) else (none)) else (none)) else (none)) else (none)) else (none)) = some r := H
            have A17 := Aside0.mk A170
            clear A170
            by_cases c18 : 2 + t140.size ≤ 9223372036854775807
            · rw [if_pos c18] at H
              have c18b0 := eq_true c18
              have c18b1 : decide (2 + t140.size ≤ 9223372036854775807) = true := decide_eq_true c18
              try have c18b2 : (9223372036854775807 < 2 + t140.size) = False := eq_false (Nat.not_lt.2 c18)
              obtain ⟨ji19, hji19⟩ : ∃ j_ : Int, (Int.tmod a3 36) = j_ := ⟨_, rfl⟩
              replace H : (if 0 ≤ (ji19) then (if (ji19) ≤ (((ji19) + 1) % 256) then (if (((ji19) + 1) % 256) ≤ 36 then (if ((⟨#[95, 82]⟩ : ByteArray) ++ t140).size + ((⟨#[97, 98, 99, 100, 101, 102, 103, 104, 105, 106, 107, 108, 109, 110, 111, 112, 113, 114, 115, 116, 117, 118, 119, 120, 121, 122, 48, 49, 50, 51, 52, 53, 54, 55, 56, 57]⟩ : ByteArray).extract ((ji19) : Int).toNat ((((ji19) + 1) % 256) : Int).toNat).size ≤ 9223372036854775807 then (if 0 ≤ (mn (l4.length : Int) 1000) then (if (mn (l4.length : Int) 1000) ≤ (l4.length : Int) then ((spec_AnPlain.f kj5 (l4.take ((mn (l4.length : Int) 1000) : Int).toNat)).bind fun t142 => (if (((⟨#[95, 82]⟩ : ByteArray) ++ t140) ++ ((⟨#[97, 98, 99, 100, 101, 102, 103, 104, 105, 106, 107, 108, 109, 110, 111, 112, 113, 114, 115, 116, 117, 118, 119, 120, 121, 122, 48, 49, 50, 51, 52, 53, 54, 55, 56, 57]⟩ : ByteArray).extract ((ji19) : Int).toNat ((((ji19) + 1) % 256) : Int).toNat)).size + t142.size ≤ 9223372036854775807 then ((laws_idRefused.f ((((⟨#[95, 82]⟩ : ByteArray) ++ t140) ++ ((⟨#[97, 98, 99, 100, 101, 102, 103, 104, 105, 106, 107, 108, 109, 110, 111, 112, 113, 114, 115, 116, 117, 118, 119, 120, 121, 122, 48, 49, 50, 51, 52, 53, 54, 55, 56, 57]⟩ : ByteArray).extract ((ji19) : Int).toNat ((((ji19) + 1) % 256) : Int).toNat)) ++ t142)).bind fun t143 => (some t143)) else (none))) else (none)) else (none)) else (none)) else (none)) else (none)) else (none)) = some r := by first | (rw [hji19] at H; exact H) | (simp only [hji19] at H ⊢; exact H)
              (try rw [hji19] at A15)
              (try rw [hji19] at A16)
              (try rw [hji19] at A17)
              by_cases c20 : 0 ≤ (ji19)
              · rw [if_pos c20] at H
                have c20b0 := eq_true c20
                have c20b1 : decide (0 ≤ (ji19)) = true := decide_eq_true c20
                clear c20
                by_cases c21 : (ji19) ≤ (((ji19) + 1) % 256)
                · rw [if_pos c21] at H
                  have c21b0 := eq_true c21
                  have c21b1 : decide ((ji19) ≤ (((ji19) + 1) % 256)) = true := decide_eq_true c21
                  by_cases c22 : (((ji19) + 1) % 256) ≤ 36
                  · rw [if_pos c22] at H
                    have c22b0 := eq_true c22
                    have c22b1 : decide ((((ji19) + 1) % 256) ≤ 36) = true := decide_eq_true c22
                    by_cases c23 : ((⟨#[95, 82]⟩ : ByteArray) ++ t140).size + ((⟨#[97, 98, 99, 100, 101, 102, 103, 104, 105, 106, 107, 108, 109, 110, 111, 112, 113, 114, 115, 116, 117, 118, 119, 120, 121, 122, 48, 49, 50, 51, 52, 53, 54, 55, 56, 57]⟩ : ByteArray).extract ((ji19) : Int).toNat ((((ji19) + 1) % 256) : Int).toNat).size ≤ 9223372036854775807
                    · rw [if_pos c23] at H
                      have c23b0 := eq_true c23
                      have c23b1 : decide (((⟨#[95, 82]⟩ : ByteArray) ++ t140).size + ((⟨#[97, 98, 99, 100, 101, 102, 103, 104, 105, 106, 107, 108, 109, 110, 111, 112, 113, 114, 115, 116, 117, 118, 119, 120, 121, 122, 48, 49, 50, 51, 52, 53, 54, 55, 56, 57]⟩ : ByteArray).extract ((ji19) : Int).toNat ((((ji19) + 1) % 256) : Int).toNat).size ≤ 9223372036854775807) = true := decide_eq_true c23
                      try have c23b2 : (9223372036854775807 < ((⟨#[95, 82]⟩ : ByteArray) ++ t140).size + ((⟨#[97, 98, 99, 100, 101, 102, 103, 104, 105, 106, 107, 108, 109, 110, 111, 112, 113, 114, 115, 116, 117, 118, 119, 120, 121, 122, 48, 49, 50, 51, 52, 53, 54, 55, 56, 57]⟩ : ByteArray).extract ((ji19) : Int).toNat ((((ji19) + 1) % 256) : Int).toNat).size) = False := eq_false (Nat.not_lt.2 c23)
                      try have c23b4 : (9223372036854775807 < 2 + t140.size + (((⟨#[97, 98, 99, 100, 101, 102, 103, 104, 105, 106, 107, 108, 109, 110, 111, 112, 113, 114, 115, 116, 117, 118, 119, 120, 121, 122, 48, 49, 50, 51, 52, 53, 54, 55, 56, 57]⟩ : ByteArray).extract ((ji19) : Int).toNat ((((ji19) + 1) % 256) : Int).toNat).size)) = False := eq_false (by have h_ := c23; (repeat rw [ByteArray.size_append] at h_); exact Nat.not_lt.2 h_)
                      try have c23b6 : (9223372036854775807 < 2 + t140.size + (((((ji19) + 1) % 256) : Int).toNat - ((ji19) : Int).toNat)) = False := eq_false (by have h_ := c23; (repeat rw [ByteArray.size_append] at h_); rw [ByteArray.size_extract, Nat.min_eq_left (by show _ ≤ Array.size _; simp only [List.size_toArray, List.length_cons, List.length_nil]; omega)] at h_; exact Nat.not_lt.2 h_)
                      try (have c23q := c23; rw [ByteArray.size_extract, Nat.min_eq_left (by show _ ≤ Array.size _; simp only [List.size_toArray, List.length_cons, List.length_nil]; omega)] at c23q; have c23b3 := eq_false (Nat.not_lt.2 c23q); clear c23q)
                      obtain ⟨ji24, hji24⟩ : ∃ j_ : Int, (mn (l4.length : Int) 1000) = j_ := ⟨_, rfl⟩
                      replace H : (if 0 ≤ (ji24) then (if (ji24) ≤ (l4.length : Int) then ((spec_AnPlain.f kj5 (l4.take ((ji24) : Int).toNat)).bind fun t142 => (if (((⟨#[95, 82]⟩ : ByteArray) ++ t140) ++ ((⟨#[97, 98, 99, 100, 101, 102, 103, 104, 105, 106, 107, 108, 109, 110, 111, 112, 113, 114, 115, 116, 117, 118, 119, 120, 121, 122, 48, 49, 50, 51, 52, 53, 54, 55, 56, 57]⟩ : ByteArray).extract ((ji19) : Int).toNat ((((ji19) + 1) % 256) : Int).toNat)).size + t142.size ≤ 9223372036854775807 then ((laws_idRefused.f ((((⟨#[95, 82]⟩ : ByteArray) ++ t140) ++ ((⟨#[97, 98, 99, 100, 101, 102, 103, 104, 105, 106, 107, 108, 109, 110, 111, 112, 113, 114, 115, 116, 117, 118, 119, 120, 121, 122, 48, 49, 50, 51, 52, 53, 54, 55, 56, 57]⟩ : ByteArray).extract ((ji19) : Int).toNat ((((ji19) + 1) % 256) : Int).toNat)) ++ t142)).bind fun t143 => (some t143)) else (none))) else (none)) else (none)) = some r := by first | (rw [hji24] at H; exact H) | (simp only [hji24] at H ⊢; exact H)
                      (try rw [hji24] at A15)
                      (try rw [hji24] at A16)
                      (try rw [hji24] at A17)
                      have hji24_ : (if 1000 < (l4.length : Int) then 1000 else (l4.length : Int)) = ji24 := hji24
                      by_cases c25 : 0 ≤ (ji24)
                      · rw [if_pos c25] at H
                        have c25b0 := eq_true c25
                        have c25b1 : decide (0 ≤ (ji24)) = true := decide_eq_true c25
                        clear c25
                        by_cases c26 : (ji24) ≤ (l4.length : Int)
                        · rw [if_pos c26] at H
                          have c26b0 := eq_true c26
                          have c26b1 : decide ((ji24) ≤ (l4.length : Int)) = true := decide_eq_true c26
                          clear c26
                          replace H := Option.bind_eq_some_iff.mp H
                          obtain ⟨t142, A270, H⟩ := H
                          replace H : (if (((⟨#[95, 82]⟩ : ByteArray) ++ t140) ++ ((⟨#[97, 98, 99, 100, 101, 102, 103, 104, 105, 106, 107, 108, 109, 110, 111, 112, 113, 114, 115, 116, 117, 118, 119, 120, 121, 122, 48, 49, 50, 51, 52, 53, 54, 55, 56, 57]⟩ : ByteArray).extract ((ji19) : Int).toNat ((((ji19) + 1) % 256) : Int).toNat)).size + t142.size ≤ 9223372036854775807 then ((laws_idRefused.f ((((⟨#[95, 82]⟩ : ByteArray) ++ t140) ++ ((⟨#[97, 98, 99, 100, 101, 102, 103, 104, 105, 106, 107, 108, 109, 110, 111, 112, 113, 114, 115, 116, 117, 118, 119, 120, 121, 122, 48, 49, 50, 51, 52, 53, 54, 55, 56, 57]⟩ : ByteArray).extract ((ji19) : Int).toNat ((((ji19) + 1) % 256) : Int).toNat)) ++ t142)).bind fun t143 => (some t143)) else (none)) = some r := H
                          have A27 := Aside0.mk A270
                          clear A270
                          by_cases c28 : (((⟨#[95, 82]⟩ : ByteArray) ++ t140) ++ ((⟨#[97, 98, 99, 100, 101, 102, 103, 104, 105, 106, 107, 108, 109, 110, 111, 112, 113, 114, 115, 116, 117, 118, 119, 120, 121, 122, 48, 49, 50, 51, 52, 53, 54, 55, 56, 57]⟩ : ByteArray).extract ((ji19) : Int).toNat ((((ji19) + 1) % 256) : Int).toNat)).size + t142.size ≤ 9223372036854775807
                          · rw [if_pos c28] at H
                            have c28b0 := eq_true c28
                            have c28b1 : decide ((((⟨#[95, 82]⟩ : ByteArray) ++ t140) ++ ((⟨#[97, 98, 99, 100, 101, 102, 103, 104, 105, 106, 107, 108, 109, 110, 111, 112, 113, 114, 115, 116, 117, 118, 119, 120, 121, 122, 48, 49, 50, 51, 52, 53, 54, 55, 56, 57]⟩ : ByteArray).extract ((ji19) : Int).toNat ((((ji19) + 1) % 256) : Int).toNat)).size + t142.size ≤ 9223372036854775807) = true := decide_eq_true c28
                            try have c28b2 : (9223372036854775807 < (((⟨#[95, 82]⟩ : ByteArray) ++ t140) ++ ((⟨#[97, 98, 99, 100, 101, 102, 103, 104, 105, 106, 107, 108, 109, 110, 111, 112, 113, 114, 115, 116, 117, 118, 119, 120, 121, 122, 48, 49, 50, 51, 52, 53, 54, 55, 56, 57]⟩ : ByteArray).extract ((ji19) : Int).toNat ((((ji19) + 1) % 256) : Int).toNat)).size + t142.size) = False := eq_false (Nat.not_lt.2 c28)
                            try have c28b4 : (9223372036854775807 < 2 + t140.size + (((⟨#[97, 98, 99, 100, 101, 102, 103, 104, 105, 106, 107, 108, 109, 110, 111, 112, 113, 114, 115, 116, 117, 118, 119, 120, 121, 122, 48, 49, 50, 51, 52, 53, 54, 55, 56, 57]⟩ : ByteArray).extract ((ji19) : Int).toNat ((((ji19) + 1) % 256) : Int).toNat).size) + t142.size) = False := eq_false (by have h_ := c28; (repeat rw [ByteArray.size_append] at h_); exact Nat.not_lt.2 h_)
                            try have c28b6 : (9223372036854775807 < 2 + t140.size + (((((ji19) + 1) % 256) : Int).toNat - ((ji19) : Int).toNat) + t142.size) = False := eq_false (by have h_ := c28; (repeat rw [ByteArray.size_append] at h_); rw [ByteArray.size_extract, Nat.min_eq_left (by show _ ≤ Array.size _; simp only [List.size_toArray, List.length_cons, List.length_nil]; omega)] at h_; exact Nat.not_lt.2 h_)
                            try (have c28q := c28; rw [ByteArray.size_extract, Nat.min_eq_left (by show _ ≤ Array.size _; simp only [List.size_toArray, List.length_cons, List.length_nil]; omega)] at c28q; have c28b3 := eq_false (Nat.not_lt.2 c28q); clear c28q)
                            replace H := Option.bind_eq_some_iff.mp H
                            obtain ⟨t143, A290, H⟩ := H
                            replace H : (some t143) = some r := H
                            have A29 := Aside0.mk A290
                            clear A290
                            obtain rfl := Option.some.inj H
                            obtain ⟨i030, hi030, _, hsz30, _⟩ := info_parts info5
                            obtain ⟨hcut30, hA30, hC30⟩ := print_take_of (P := Tryz.prog) (Value.int .u8) 0 22 5 .i64 Tryz.underlying22 hi030 hsz30 A0 c0 l0 (ji12) (of_decide_eq_true (by first | (with_reducible assumption) | assumption)) (of_decide_eq_true (by first | (with_reducible assumption) | assumption)) HC0.out
                            have HR135 := Aside0.mk (Kd.C_of_reads (h1 := fun _ => rfl) (hA30 _ (Kd.reads_of_C HR0.out)))
                            have HC135 := Aside0.mk hC30
                            clear hA30 hC30 hi030 hsz30
                            go_wp2_with (first | (go_at_call 15; refine (idCut_at _ _ _ _ _ _ (by assumption) (by assumption)).mono ?_; rintro e w_ ⟨rfl, rfl⟩) | ((with_reducible refine gate_callee (f := 14) rfl ?_); refine goesL_ (some 33) rfl rfl Tryz.func14 (by kernel_rfl) rfl #[.slice A0 (l0.take ((ji12) : Int).toNat).length c0] rfl (by (try simp only [List.map_toArray, List.map_cons, List.map_nil]); first | done | (rw [show (l0.take ((ji12) : Int).toNat).length = (ji12).toNat from (by rw [List.length_take]; have h_ : ((ji12) : Int) ≤ (l0.length : Int) := of_decide_eq_true (by first | (with_reducible assumption) | assumption); omega)] <;> rfl) | (simp only [hji12]; rfl) | rfl | (simp only [List.length_drop, List.length_take]; rfl)) ?_; (with_reducible refine (spec_AnPlain.calls kj5 _ _ (l0.take ((ji12) : Int).toNat) t136 _ ?side1 ?side2 A15.out).mono ?_); (case side1 => repeat (first | exact (Kd.C_below HR135.out HB.out) | (with_reducible refine Kd.C_alloc ?_ _) | (with_reducible refine Kd.C_drewN ?_ _) | (with_reducible refine Kd.C_drew ?_))); (case side2 => exact HC135.out); rintro e w31 ⟨rfl, hb⟩; refine ⟨_, rfl, ?_⟩; have n0_ := Aside0.mk (below_step (by repeat (first | (with_reducible first | exact HB.out | apply below_alloc | apply pw_below_drewN | apply below_drew1) | exact HB.out)) hb); clear HB; have HB := n0_; clear n0_; (try clear hb); (try clear hb2); (try clear hk); (try clear hi)) | ((with_reducible refine gate_callee (f := 16) rfl ?_); refine goesL_ (some 36) rfl rfl Tryz.func16 (by kernel_rfl) rfl #[.slice A1 l1.length c1, .slice A2 l2.length c2, .slice none 0 0] rfl (by (try simp only [List.map_toArray, List.map_cons, List.map_nil]); first | done | rfl | (simp only [List.length_drop, List.length_take]; rfl)) ?_; (refine (laws_idSmall.calls kj5 _ _ l1 _ _ l2 _ _ ([] : List Int) t137 _ ?side1 ?side2 ?side3 ?side4 ?side5 ?side6 A16.out).mono ?_); (case side1 => repeat (first | exact (Kd.C_below HR1.out HB.out) | (with_reducible refine Kd.C_alloc ?_ _) | (with_reducible refine Kd.C_drewN ?_ _) | (with_reducible refine Kd.C_drew ?_))); (case side2 => exact HC1.out); (case side3 => repeat (first | exact (Kd.C_below HR2.out HB.out) | (with_reducible refine Kd.C_alloc ?_ _) | (with_reducible refine Kd.C_drewN ?_ _) | (with_reducible refine Kd.C_drew ?_))); (case side4 => exact HC2.out); (case side5 => exact Kd.C_nil _ _); (case side6 => exact Nat.le_refl _); rintro e w32 ⟨v138, rfl, ho0, hb⟩; refine ⟨_, rfl, ?_⟩; have n0_ := Aside0.mk (Kd.R_lower ho0 (below_size (by repeat (first | (with_reducible first | exact HB.out | apply below_alloc | apply pw_below_drewN | apply below_drew1) | exact HB.out)))); have n1_ := Aside0.mk (below_step (by repeat (first | (with_reducible first | exact HB.out | apply below_alloc | apply pw_below_drewN | apply below_drew1) | exact HB.out)) hb); clear HB; have HO139 := n0_; have HB := n1_; clear n0_ n1_; (try clear hb); (try clear hb2); (try clear hk); (try clear hi); (try clear ho0); obtain ⟨Ao33, co33, eo33⟩ := Kd.R_slice HO139.out; subst eo33) | ((with_reducible refine gate_callee (f := 18) rfl ?_); refine goesL_ (some 37) rfl rfl Tryz.func18 (by kernel_rfl) rfl #[.string t136, .int .u64 0, .slice Ao33 t137.length co33] rfl (by (try simp only [List.map_toArray, List.map_cons, List.map_nil]); first | done | rfl | (simp only [List.length_drop, List.length_take]; rfl)) ?_; (with_reducible refine (spec_IdSymbol.calls kj5 t136 0 _ _ t137 t140 _ ?side1 ?side2 (show DoorIs _ from ?side3) A17.out).mono ?_); (case side1 => repeat (first | exact (Kd.R_reads' HO139.out).2.2 | (with_reducible refine Kd.C_alloc ?_ _) | (with_reducible refine Kd.C_drewN ?_ _) | (with_reducible refine Kd.C_drew ?_))); (case side2 => exact (Kd.R_reads' HO139.out).2.1); (case side3 => exact Stays.below hT_ (by first | (repeat (first | (with_reducible first | exact HB.out | apply below_alloc | apply pw_below_drewN | apply below_drew1) | exact HB.out)) | (repeat (first | exact Below.refl _ _ | apply below_drew1 | apply pw_below_drewN)))); rintro e w34 ⟨rfl, hb⟩; refine ⟨_, rfl, ?_⟩; have n0_ := Aside0.mk (Kd.R_below (by (with_reducible repeat (first | apply Kd.R_alloc | apply Kd.R_drewN | apply Kd.R_drew)); exact HO139.out) hb); have n1_ := Aside0.mk (below_step (by repeat (first | (with_reducible first | exact HB.out | apply below_alloc | apply pw_below_drewN | apply below_drew1) | exact HB.out)) hb); clear HO139; clear HB; have HO139 := n0_; have HB := n1_; clear n0_ n1_; (try clear hb); (try clear hb2); (try clear hk); (try clear hi); obtain ⟨i035, hi035, _, hsz35, _⟩ := info_parts info5; obtain ⟨hcut35, hA35, hC35⟩ := print_take_of (P := Tryz.prog) (Value.int .u8) 0 22 5 .i64 Tryz.underlying22 hi035 hsz35 A4 c4 l4 (ji24) (of_decide_eq_true (by first | (with_reducible assumption) | assumption)) (of_decide_eq_true (by first | (with_reducible assumption) | assumption)) HC4.out; have HR141 := Aside0.mk (Kd.C_of_reads (h1 := fun _ => rfl) (hA35 _ (Kd.reads_of_C HR4.out))); have HC141 := Aside0.mk hC35; clear hA35 hC35 hi035 hsz35) | ((with_reducible refine gate_callee (f := 14) rfl ?_); refine goesL_ (some 50) rfl rfl Tryz.func14 (by kernel_rfl) rfl #[.slice A4 (l4.take ((ji24) : Int).toNat).length c4] rfl (by (try simp only [List.map_toArray, List.map_cons, List.map_nil]); first | done | (rw [show (l4.take ((ji24) : Int).toNat).length = (ji24).toNat from (by rw [List.length_take]; have h_ : ((ji24) : Int) ≤ (l4.length : Int) := of_decide_eq_true (by first | (with_reducible assumption) | assumption); omega)] <;> rfl) | (simp only [hji24]; rfl) | rfl | (simp only [List.length_drop, List.length_take]; rfl)) ?_; (with_reducible refine (spec_AnPlain.calls kj5 _ _ (l4.take ((ji24) : Int).toNat) t142 _ ?side1 ?side2 A27.out).mono ?_); (case side1 => repeat (first | exact (Kd.C_below HR141.out HB.out) | (with_reducible refine Kd.C_alloc ?_ _) | (with_reducible refine Kd.C_drewN ?_ _) | (with_reducible refine Kd.C_drew ?_))); (case side2 => exact HC141.out); rintro e w36 ⟨rfl, hb⟩; refine ⟨_, rfl, ?_⟩; have n0_ := Aside0.mk (Kd.R_below (by (with_reducible repeat (first | apply Kd.R_alloc | apply Kd.R_drewN | apply Kd.R_drew)); exact HO139.out) hb); have n1_ := Aside0.mk (below_step (by repeat (first | (with_reducible first | exact HB.out | apply below_alloc | apply pw_below_drewN | apply below_drew1) | exact HB.out)) hb); clear HO139; clear HB; have HO139 := n0_; have HB := n1_; clear n0_ n1_; (try clear hb); (try clear hb2); (try clear hk); (try clear hi)) | ((with_reducible refine gate_callee (f := 24) rfl ?_); refine goesL_ (some 52) rfl rfl Tryz.func24 (by kernel_rfl) rfl #[.string ((((⟨#[95, 82]⟩ : ByteArray) ++ t140) ++ ((⟨#[97, 98, 99, 100, 101, 102, 103, 104, 105, 106, 107, 108, 109, 110, 111, 112, 113, 114, 115, 116, 117, 118, 119, 120, 121, 122, 48, 49, 50, 51, 52, 53, 54, 55, 56, 57]⟩ : ByteArray).extract ((ji19) : Int).toNat ((((ji19) + 1) % 256) : Int).toNat)) ++ t142)] rfl (by (try simp only [List.map_toArray, List.map_cons, List.map_nil]); first | done | (simp only [hji19]; rfl) | rfl | (simp only [List.length_drop, List.length_take]; rfl)) ?_; (with_reducible refine (laws_idRefused.calls ((((⟨#[95, 82]⟩ : ByteArray) ++ t140) ++ ((⟨#[97, 98, 99, 100, 101, 102, 103, 104, 105, 106, 107, 108, 109, 110, 111, 112, 113, 114, 115, 116, 117, 118, 119, 120, 121, 122, 48, 49, 50, 51, 52, 53, 54, 55, 56, 57]⟩ : ByteArray).extract ((ji19) : Int).toNat ((((ji19) + 1) % 256) : Int).toNat)) ++ t142) t143 _ (show DoorIs _ from ?side1) A29.out).mono ?_); (case side1 => exact Stays.below hT_ (by first | (repeat (first | (with_reducible first | exact HB.out | apply below_alloc | apply pw_below_drewN | apply below_drew1) | exact HB.out)) | (repeat (first | exact Below.refl _ _ | apply below_drew1 | apply pw_below_drewN)))); rintro e w37 ⟨rfl, hb⟩; refine ⟨_, rfl, ?_⟩; have n0_ := Aside0.mk (Kd.R_below (by (with_reducible repeat (first | apply Kd.R_alloc | apply Kd.R_drewN | apply Kd.R_drew)); exact HO139.out) hb); have n1_ := Aside0.mk (below_step (by repeat (first | (with_reducible first | exact HB.out | apply below_alloc | apply pw_below_drewN | apply below_drew1) | exact HB.out)) hb); clear HO139; clear HB; have HO139 := n0_; have HB := n1_; clear n0_ n1_; (try clear hb); (try clear hb2); (try clear hk); (try clear hi)))
                            go_ret
                            exact ⟨by first | rfl | (simp [errW_none, errW_some] <;> rfl) | (simp only [← hji12, ← hji19, ← hji24]; first | rfl | (simp [errW_none, errW_some] <;> rfl)) | (simp [*, errW_none, errW_some] <;> rfl), by repeat (first | (with_reducible first | exact HB.out | apply below_alloc | apply pw_below_drewN | apply below_drew1) | exact HB.out)⟩
                          · rw [if_neg c28] at H
                            exact absurd H (by simp)
                        · rw [if_neg c26] at H
                          exact absurd H (by simp)
                      · rw [if_neg c25] at H
                        exact absurd H (by simp)
                    · rw [if_neg c23] at H
                      exact absurd H (by simp)
                  · rw [if_neg c22] at H
                    exact absurd H (by simp)
                · rw [if_neg c21] at H
                  exact absurd H (by simp)
              · rw [if_neg c20] at H
                exact absurd H (by simp)
            · rw [if_neg c18] at H
              exact absurd H (by simp)
          · rw [if_neg c14] at H
            exact absurd H (by simp)
        · rw [if_neg c13] at H
          exact absurd H (by simp)

/-- THE ONE PURE STATEMENT of laws_FnBehindRefused: yours. -/
def laws_FnBehindRefused.Pure : Prop := ∀ (l0 : List Int) (l1 : List (List Int)) (l2 : List Int) (a3 : Int) (l4 : List Int), l0.length ≤ maxLen → l0.length * 1 ≤ 140737488351232 → (∀ x ∈ l0, (Lit.int .u8 x).wf = true) → l1.length ≤ maxLen → (∀ r ∈ l1, r.length ≤ maxLen ∧ ∀ x ∈ r, (Lit.int .u8 x).wf = true) → l2.length ≤ maxLen → l2.length * 1 ≤ 140737488351232 → (∀ x ∈ l2, (Lit.int .u8 x).wf = true) → (Lit.int .u8 a3).wf = true → l4.length ≤ maxLen → l4.length * 1 ≤ 140737488351232 → (∀ x ∈ l4, (Lit.int .u8 x).wf = true) → ∃ k, laws_FnBehindRefused.f k l0 l1 l2 a3 l4 = some true
theorem laws_FnBehindRefused.walk (P : laws_FnBehindRefused.Pure) (a0 : Option Addr) (len0 cap0 : Nat) (z0 : List Int) (a1 : Option Addr) (cap1 : Nat) (l1 : List (List Int)) (a2 : Option Addr) (len2 cap2 : Nat) (z2 : List Int) (a3 : Int) (a4 : Option Addr) (len4 cap4 : Nat) (z4 : List Int) (w : World) (hT_ : DoorIs w) (w0 : (a0 = none ∧ len0 = 0 ∧ cap0 = 0 ∧ z0 = []) ∨ ∃ x, a0 = some x ∧ len0 ≤ cap0 ∧ cap0 ≤ maxLen ∧ z0.length = cap0 ∧ (∀ i, i < z0.length → w.cell? (x.add i) = some (.int .u8 (z0.getD i 0))) ∧ ∀ n ∈ z0, (Lit.int .u8 n).wf = true) (y0 : len0 * 1 ≤ 140737488351232) (w1 : (Kd.slice 5 (Kd.int .u8)).C w a1 l1.length l1) (x1 : l1.length ≤ maxLen) (y1 : ∀ r ∈ l1, r.length ≤ maxLen ∧ ∀ x ∈ r, (Lit.int .u8 x).wf = true) (c1 : l1.length ≤ cap1) (w2 : (a2 = none ∧ len2 = 0 ∧ cap2 = 0 ∧ z2 = []) ∨ ∃ x, a2 = some x ∧ len2 ≤ cap2 ∧ cap2 ≤ maxLen ∧ z2.length = cap2 ∧ (∀ i, i < z2.length → w.cell? (x.add i) = some (.int .u8 (z2.getD i 0))) ∧ ∀ n ∈ z2, (Lit.int .u8 n).wf = true) (y2 : len2 * 1 ≤ 140737488351232) (w3 : (Lit.int .u8 a3).wf = true) (w4 : (a4 = none ∧ len4 = 0 ∧ cap4 = 0 ∧ z4 = []) ∨ ∃ x, a4 = some x ∧ len4 ≤ cap4 ∧ cap4 ≤ maxLen ∧ z4.length = cap4 ∧ (∀ i, i < z4.length → w.cell? (x.add i) = some (.int .u8 (z4.getD i 0))) ∧ ∀ n ∈ z4, (Lit.int .u8 n).wf = true) (y4 : len4 * 1 ≤ 140737488351232) :
    Calls Tryz.prog 5 #[.slice a0 len0 cap0, .slice a1 l1.length cap1, .slice a2 len2 cap2, .int .u8 a3, .slice a4 len4 cap4] w fun e w' => e = .returned (.bool true) ∧ Below w.heap.size w w' := by
  obtain ⟨l0, rfl, hr0, hm0, hw0, hc0⟩ := ReadsInt.ofRowC w0
  obtain ⟨l2, rfl, hr2, hm2, hw2, hc2⟩ := ReadsInt.ofRowC w2
  obtain ⟨l4, rfl, hr4, hm4, hw4, hc4⟩ := ReadsInt.ofRowC w4
  obtain ⟨k, h⟩ := P l0 l1 l2 a3 l4 hm0 y0 hw0 x1 y1 hm2 y2 hw2 w3 hm4 y4 hw4
  refine (laws_FnBehindRefused.calls k _ _ l0 _ _ l1 _ _ l2 a3 _ _ l4 true w (Kd.C_of_reads (d := (0 : Int)) (h1 := fun _ => rfl) hr0) hc0 w1 c1 (Kd.C_of_reads (d := (0 : Int)) (h1 := fun _ => rfl) hr2) hc2 (Kd.C_of_reads (d := (0 : Int)) (h1 := fun _ => rfl) hr4) hc4 hT_ h).mono ?_
  rintro e w' ⟨rfl, hd⟩
  exact ⟨rfl, hd⟩

end Go.Proofs.YtdmkdclockmjbaaGreatDoor.PFnBehindRefused
