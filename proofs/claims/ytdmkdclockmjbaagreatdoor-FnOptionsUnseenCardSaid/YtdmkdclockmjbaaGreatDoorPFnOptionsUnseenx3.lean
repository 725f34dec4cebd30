/- Written by a program of this session (wip/tools/myprint.py) with the kit's print: contracts of the functions that one statement reaches; functions that are proved by hand are taken as printed. Conditions: none. -/
import Derived.Test.YtdmkdclockmjbaaGreatDoorPFnOptionsUnseenx0
import Derived.Test.YtdmkdclockmjbaaGreatDoorPFnOptionsUnseenx1
import Derived.Test.YtdmkdclockmjbaaGreatDoorPFnOptionsUnseenx2
namespace Go.Proofs.YtdmkdclockmjbaaGreatDoor.PFnOptionsUnseen
open Go.RowKit Go.Proofs.YtdmkdclockmjbaaGreatDoorW.PrintWords Go.Proofs.YtdmkdclockmjbaaGreatDoorW.PrintLast Go.Proofs.YtdmkdclockmjbaaGreatDoorW.PrintMore
attribute [local go_sem] max2_int min2_int max_two min_two max_three min_three max_four min_four   -- for this text's walks alone
set_option linter.unusedVariables false
set_option linter.unusedSimpArgs false

/-! ### laws_FnOptionsUnseen: function 11 -/
def laws_FnOptionsUnseen.j0 : Nat → List Int → List (List Int) → List Int → List Int → Bool → Bool → Bool → Bool → Bool → Bool → Bool → Bool → Int → Option (Bool)
  | 0, _, _, _, _, _, _, _, _, _, _, _, _, _ => none
  | k + 1, x0, x1, x2, x3, x32, x141000, x141001, x141002, x141003, x141004, x141005, x141006, x141007 => if x32 = true then (some true) else (if 0 ≤ (mn (x0.length : Int) 1000) then (if (mn (x0.length : Int) 1000) ≤ (x0.length : Int) then ((spec_AnPlain.f k (x0.take ((mn (x0.length : Int) 1000) : Int).toNat)).bind fun t143 => ((laws_idSmall.f k x1 x2 x3).bind fun t144 => ((spec_IdSymbol.f k t143 0 t144).bind fun t147 => (if 2 + t147.size ≤ 9223372036854775807 then ((impl_Told.f ((⟨#[95, 82]⟩ : ByteArray) ++ t147) x141000 x141001 x141002 x141003 x141004 false x141006 0).bind fun bt148 => (if bt148.2 = 0 then ((spec_IdText.f k t143 t144).bind fun t150 => (some (bt148.1.toList == t150.toList))) else (some false))) else (none))))) else (none)) else (none))
def laws_FnOptionsUnseen.f (k : Nat) (l0 : List Int) (l1 : List (List Int)) (l2 : List Int) (l3 : List Int) (a4_0 : Bool) (a4_1 : Bool) (a4_2 : Bool) (a4_3 : Bool) (a4_4 : Bool) (a4_5 : Bool) (a4_6 : Bool) (a4_7 : Int) : Option (Bool) := if (l0.length : Int) > 2147483647 then (laws_FnOptionsUnseen.j0 k l0 l1 l2 l3 true a4_0 a4_1 a4_2 a4_3 a4_4 a4_5 a4_6 a4_7) else ((laws_zzFits1.f k l1).bind fun t141 => (if t141 = true then (if (l2.length : Int) > 2147483647 then (laws_FnOptionsUnseen.j0 k l0 l1 l2 l3 true a4_0 a4_1 a4_2 a4_3 a4_4 a4_5 a4_6 a4_7) else (laws_FnOptionsUnseen.j0 k l0 l1 l2 l3 (decide ((l3.length : Int) > 2147483647)) a4_0 a4_1 a4_2 a4_3 a4_4 a4_5 a4_6 a4_7)) else (laws_FnOptionsUnseen.j0 k l0 l1 l2 l3 true a4_0 a4_1 a4_2 a4_3 a4_4 a4_5 a4_6 a4_7)))
theorem laws_FnOptionsUnseen.mono_l : ∀ k, (∀ y0 y1 y2 y3 y4 y5 y6 y7 y8 y9 y10 y11 y12, LeO (laws_FnOptionsUnseen.j0 k y0 y1 y2 y3 y4 y5 y6 y7 y8 y9 y10 y11 y12) (laws_FnOptionsUnseen.j0 (k + 1) y0 y1 y2 y3 y4 y5 y6 y7 y8 y9 y10 y11 y12))
  | 0 => fun _ _ _ _ _ _ _ _ _ _ _ _ _ r h => by simp [laws_FnOptionsUnseen.j0] at h
  | k + 1 => by
    have ih0 := laws_FnOptionsUnseen.mono_l k
    · intro y0 y1 y2 y3 y4 y5 y6 y7 y8 y9 y10 y11 y12
      unfold laws_FnOptionsUnseen.j0
      repeat' first
      | (with_reducible exact ih0 _ _ _ _ _ _ _ _ _ _ _ _ _)
      | (with_reducible exact laws_idSmall.mono _ _ _ _)
      | (with_reducible exact laws_zzFits1.mono _ _)
      | (with_reducible exact spec_AnPlain.mono _ _)
      | (with_reducible exact spec_IdSymbol.mono _ _ _ _)
      | (with_reducible exact spec_IdText.mono _ _ _)
      | (with_reducible exact LeO.refl _)
      | (with_reducible exact LeO.none _)
      | (with_reducible refine LeO.ite ?_ ?_)
      | (with_reducible refine LeO.bind ?_ (fun _ => ?_))
      | exact ih0 _ _ _ _ _ _ _ _ _ _ _ _ _
      | exact laws_idSmall.mono _ _ _ _
      | exact laws_zzFits1.mono _ _
      | exact spec_AnPlain.mono _ _
      | exact spec_IdSymbol.mono _ _ _ _
      | exact spec_IdText.mono _ _ _
      | exact LeO.none _
      | refine LeO.ite ?_ ?_
      | refine LeO.bind ?_ (fun _ => ?_)
theorem laws_FnOptionsUnseen.mono : ∀ a0 a1 a2 a3 a4 a5 a6 a7 a8 a9 a10 a11 k, LeO (laws_FnOptionsUnseen.f k a0 a1 a2 a3 a4 a5 a6 a7 a8 a9 a10 a11) (laws_FnOptionsUnseen.f (k + 1) a0 a1 a2 a3 a4 a5 a6 a7 a8 a9 a10 a11) := by
  intro a0 a1 a2 a3 a4 a5 a6 a7 a8 a9 a10 a11 k
  have ih0 := laws_FnOptionsUnseen.mono_l k
  unfold laws_FnOptionsUnseen.f
  repeat' first
      | (with_reducible exact ih0 _ _ _ _ _ _ _ _ _ _ _ _ _)
      | (with_reducible exact laws_idSmall.mono _ _ _ _)
      | (with_reducible exact laws_zzFits1.mono _ _)
      | (with_reducible exact spec_AnPlain.mono _ _)
      | (with_reducible exact spec_IdSymbol.mono _ _ _ _)
      | (with_reducible exact spec_IdText.mono _ _ _)
      | (with_reducible exact LeO.refl _)
      | (with_reducible exact LeO.none _)
      | (with_reducible refine LeO.ite ?_ ?_)
      | (with_reducible refine LeO.bind ?_ (fun _ => ?_))
      | exact ih0 _ _ _ _ _ _ _ _ _ _ _ _ _
      | exact laws_idSmall.mono _ _ _ _
      | exact laws_zzFits1.mono _ _
      | exact spec_AnPlain.mono _ _
      | exact spec_IdSymbol.mono _ _ _ _
      | exact spec_IdText.mono _ _ _
      | exact LeO.none _
      | refine LeO.ite ?_ ?_
      | refine LeO.bind ?_ (fun _ => ?_)
def laws_FnOptionsUnseen.T6 : Bool × List (List Nat × List Nat) := (true, [([], []), ([], []), ([0, 1], [0, 1]), ([2], [2]), ([], []), ([3, 4, 2], [3, 4]), ([5], [5]), ([6], [6]), ([6], [6]), ([7, 5, 0, 1, 2, 3, 4, 5, 6, 7], [7]), ([8, 9, 0, 1, 2, 3, 4, 5, 6, 7, 8, 9], [8])])
def laws_FnOptionsUnseen.B6 : List Nat := [0, 0, 3, 7, 0, 31, 63, 127, 127, 255, 1023]
theorem laws_FnOptionsUnseen.tab6 : rtab .any (opsOf Tryz.f11 6) = laws_FnOptionsUnseen.T6 := by kernel_rfl
theorem laws_FnOptionsUnseen.bits6 : waitsOk laws_FnOptionsUnseen.T6.2 laws_FnOptionsUnseen.B6 = true := by kernel_rfl
set_option maxHeartbeats 8000000 in
set_option maxRecDepth 100000 in
theorem laws_FnOptionsUnseen.calls (k : Nat) (A0 : Option Addr) (c0 : Nat) (l0 : List Int) (A1 : Option Addr) (c1 : Nat) (l1 : List (List Int)) (A2 : Option Addr) (c2 : Nat) (l2 : List Int) (A3 : Option Addr) (c3 : Nat) (l3 : List Int) (a4_0 : Bool) (a4_1 : Bool) (a4_2 : Bool) (a4_3 : Bool) (a4_4 : Bool) (a4_5 : Bool) (a4_6 : Bool) (a4_7 : Int) (r : Bool) (w : World) (hr0 : Kd.C (Kd.int .u8) w A0 l0.length l0) (hc0 : l0.length ≤ c0) (hr1 : Kd.C (Kd.slice 5 (Kd.int .u8)) w A1 l1.length l1) (hc1 : l1.length ≤ c1) (hr2 : Kd.C (Kd.int .u8) w A2 l2.length l2) (hc2 : l2.length ≤ c2) (hr3 : Kd.C (Kd.int .i64) w A3 l3.length l3) (hc3 : l3.length ≤ c3) (hT_ : DoorIs w) (h : laws_FnOptionsUnseen.f k l0 l1 l2 l3 a4_0 a4_1 a4_2 a4_3 a4_4 a4_5 a4_6 a4_7 = some r) :
    Calls Tryz.prog 11 #[.slice A0 l0.length c0, .slice A1 l1.length c1, .slice A2 l2.length c2, .slice A3 l3.length c3, .agg #[.bool a4_0, .bool a4_1, .bool a4_2, .bool a4_3, .bool a4_4, .bool a4_5, .bool a4_6, .int .i64 a4_7]] w fun e w' => e = .returned (.bool r) ∧ Below w.heap.size w w' := by
  have hu34 := Tryz.underlying34
  have HR0 := Aside0.mk hr0
  have HC0 := Aside0.mk hc0
  clear hr0 hc0
  have HR1 := Aside0.mk hr1
  have HC1 := Aside0.mk hc1
  clear hr1 hc1
  have HR2 := Aside0.mk hr2
  have HC2 := Aside0.mk hc2
  clear hr2 hc2
  have HR3 := Aside0.mk hr3
  have HC3 := Aside0.mk hc3
  clear hr3 hc3
  have HB := Aside0.mk (Below.refl w.heap.size w)
  have H : (if (l0.length : Int) > 2147483647 then (laws_FnOptionsUnseen.j0 k l0 l1 l2 l3 true a4_0 a4_1 a4_2 a4_3 a4_4 a4_5 a4_6 a4_7) else ((laws_zzFits1.f k l1).bind fun t141 => (if t141 = true then (if (l2.length : Int) > 2147483647 then (laws_FnOptionsUnseen.j0 k l0 l1 l2 l3 true a4_0 a4_1 a4_2 a4_3 a4_4 a4_5 a4_6 a4_7) else (laws_FnOptionsUnseen.j0 k l0 l1 l2 l3 (decide ((l3.length : Int) > 2147483647)) a4_0 a4_1 a4_2 a4_3 a4_4 a4_5 a4_6 a4_7)) else (laws_FnOptionsUnseen.j0 k l0 l1 l2 l3 true a4_0 a4_1 a4_2 a4_3 a4_4 a4_5 a4_6 a4_7)))) = some r := h
  clear h
  have HC6 := Aside0.mk H
  clear H
  go_enter Tryz.func11, Tryz.ntmps11
  go_upto_region 1 with (first | ((with_reducible refine gate_dst (N := 9) rfl ?_); (try (refine gate_guard (by rfl) ?_; dsimp only)); refine box_event ?hg (N := 9) ?hd (cs := #[.bool a4_0, .bool a4_1, .bool a4_2, .bool a4_3, .bool a4_4, .bool a4_5, .bool a4_6, .int .i64 a4_7]) (t := 34) ?hr ?_; (case hd => rfl); (case hg => rfl); (case hr => first | (go_simp; done) | (go_simp; rfl)); intro gb140 hg w7 hbox hb; have n0_ := Aside0.mk (below_step (by repeat (first | (with_reducible first | exact HB.out | apply below_alloc | apply pw_below_drewN | apply below_drew1) | exact HB.out)) hb); have n1_ := Aside0.mk (hbox); have n2_ := Aside0.mk ((by rw [hg]; exact (below_size (by repeat (first | (with_reducible first | exact HB.out | apply below_alloc | apply pw_below_drewN | apply below_drew1) | exact HB.out))) : w.heap.size ≤ gb140)); have n3_ := Aside0.mk ((by rw [hg]; exact (below_size (by repeat (first | (with_reducible first | exact HB.out | apply below_alloc | apply pw_below_drewN | apply below_drew1) | exact HB.out))) : w.heap.size ≤ gb140)); clear HB; have HB := n0_; have BK140 := n1_; have GW140 := n2_; have GE140 := n3_; clear n0_ n1_ n2_ n3_; clear hb hbox hg))
  (try simp only [Act.put, List.setIfInBounds_toArray, List.set_cons_zero, List.set_cons_succ])
  go_cut [32] (fun v32 wc => ∃ (kq : Nat) (x32_5 : Bool), v32 = .bool x32_5 ∧ Aside0 (laws_FnOptionsUnseen.j0 kq l0 l1 l2 l3 x32_5 a4_0 a4_1 a4_2 a4_3 a4_4 a4_5 a4_6 a4_7 = some r) ∧ Aside0 (kq ≤ k) ∧ Aside0 (wc.heap[gb140]? = some (.cells #[.bool a4_0, .bool a4_1, .bool a4_2, .bool a4_3, .bool a4_4, .bool a4_5, .bool a4_6, .int .i64 a4_7] 34 (0, 0))) ∧ Aside0 (Below w.heap.size w wc))
  case first =>
    have H := HC6.out
    clear HC6
    by_cases c8 : (l0.length : Int) > 2147483647
    · rw [if_pos c8] at H
      have c8b0 : decide (2147483647 < (l0.length : Int)) = true := decide_eq_true c8
      have c8b1 : decide (2147483647 < l0.length) = true := decide_eq_true (by omega)
      clear c8
      (first | rw [c8b0] | (simp only [i64_w, i32_w]; rw [c8b0]) | rw [c8b1] | skip)
      have H' := Aside0.mk H
      clear H
      go_wp2
      go_meet
      case rel => exact ⟨_, (true), (by first | rfl | (simp; done) | (simp [*]; done)), H', ⟨by first | omega | exact Nat.le_refl _⟩, ⟨by (with_reducible repeat (first | refine blk_drewN ?_ _ | refine blk_drew ?_ | refine blk_alloc ?_ _)); exact BK140.out⟩, ⟨by repeat (first | (with_reducible first | exact HB.out | apply below_alloc | apply pw_below_drewN | apply below_drew1 | refine below_set ?_ GE140.out) | exact HB.out)⟩⟩
    · rw [if_neg c8] at H
      have c8b0 : decide (2147483647 < (l0.length : Int)) = false := decide_eq_false c8
      have c8b1 : decide (2147483647 < l0.length) = false := decide_eq_false (by omega)
      clear c8
      (first | rw [c8b0] | (simp only [i64_w, i32_w]; rw [c8b0]) | rw [c8b1] | skip)
      replace H := Option.bind_eq_some_iff.mp H
      obtain ⟨t141, A90, H⟩ := H
      replace H : (if t141 = true then (if (l2.length : Int) > 2147483647 then (laws_FnOptionsUnseen.j0 k l0 l1 l2 l3 true a4_0 a4_1 a4_2 a4_3 a4_4 a4_5 a4_6 a4_7) else (laws_FnOptionsUnseen.j0 k l0 l1 l2 l3 (decide ((l3.length : Int) > 2147483647)) a4_0 a4_1 a4_2 a4_3 a4_4 a4_5 a4_6 a4_7)) else (laws_FnOptionsUnseen.j0 k l0 l1 l2 l3 true a4_0 a4_1 a4_2 a4_3 a4_4 a4_5 a4_6 a4_7)) = some r := H
      have A9 := Aside0.mk A90
      clear A90
      by_cases c10 : t141 = true
      · subst c10
        have H1 : (if (l2.length : Int) > 2147483647 then (laws_FnOptionsUnseen.j0 k l0 l1 l2 l3 true a4_0 a4_1 a4_2 a4_3 a4_4 a4_5 a4_6 a4_7) else (laws_FnOptionsUnseen.j0 k l0 l1 l2 l3 (decide ((l3.length : Int) > 2147483647)) a4_0 a4_1 a4_2 a4_3 a4_4 a4_5 a4_6 a4_7)) = some r := by rw [if_pos rfl] at H; exact H
        clear H
        have H := H1
        clear H1
        by_cases c11 : (l2.length : Int) > 2147483647
        · rw [if_pos c11] at H
          have c11b0 : decide (2147483647 < (l2.length : Int)) = true := decide_eq_true c11
          have c11b1 : decide (2147483647 < l2.length) = true := decide_eq_true (by omega)
          clear c11
          have H' := Aside0.mk H
          clear H
          go_wp2_with (first | (go_at_call 15; refine (idCut_at _ _ _ _ _ _ (by assumption) (by assumption)).mono ?_; rintro e w_ ⟨rfl, rfl⟩) | (go_at_call 13; (with_reducible refine (laws_zzFits1.calls k _ _ l1 true _ ?side1 ?side2 A9.out).mono ?_); (case side1 => repeat (first | exact (Kd.C_below HR1.out HB.out) | (with_reducible refine Kd.C_alloc ?_ _) | (with_reducible refine Kd.C_drewN ?_ _) | (with_reducible refine Kd.C_drew ?_))); (case side2 => exact HC1.out); rintro e w' ⟨rfl, ⟨nd, rfl⟩⟩))
          go_meet
          case rel => exact ⟨_, (true), (by first | rfl | (simp; done) | (simp [*]; done)), H', ⟨by first | omega | exact Nat.le_refl _⟩, ⟨by (with_reducible repeat (first | refine blk_drewN ?_ _ | refine blk_drew ?_ | refine blk_alloc ?_ _)); exact BK140.out⟩, ⟨by repeat (first | (with_reducible first | exact HB.out | apply below_alloc | apply pw_below_drewN | apply below_drew1 | refine below_set ?_ GE140.out) | exact HB.out)⟩⟩
        · rw [if_neg c11] at H
          have c11b0 : decide (2147483647 < (l2.length : Int)) = false := decide_eq_false c11
          have c11b1 : decide (2147483647 < l2.length) = false := decide_eq_false (by omega)
          clear c11
          have H' := Aside0.mk H
          clear H
          go_wp2_with (first | (go_at_call 15; refine (idCut_at _ _ _ _ _ _ (by assumption) (by assumption)).mono ?_; rintro e w_ ⟨rfl, rfl⟩) | (go_at_call 13; (with_reducible refine (laws_zzFits1.calls k _ _ l1 true _ ?side1 ?side2 A9.out).mono ?_); (case side1 => repeat (first | exact (Kd.C_below HR1.out HB.out) | (with_reducible refine Kd.C_alloc ?_ _) | (with_reducible refine Kd.C_drewN ?_ _) | (with_reducible refine Kd.C_drew ?_))); (case side2 => exact HC1.out); rintro e w' ⟨rfl, ⟨nd, rfl⟩⟩))
          go_meet
          case rel => exact ⟨_, (decide ((l3.length : Int) > 2147483647)), (by first | rfl | (simp; done) | (simp [*]; done)), H', ⟨by first | omega | exact Nat.le_refl _⟩, ⟨by (with_reducible repeat (first | refine blk_drewN ?_ _ | refine blk_drew ?_ | refine blk_alloc ?_ _)); exact BK140.out⟩, ⟨by repeat (first | (with_reducible first | exact HB.out | apply below_alloc | apply pw_below_drewN | apply below_drew1 | refine below_set ?_ GE140.out) | exact HB.out)⟩⟩
      · replace c10 := Bool.eq_false_iff.mpr c10
        subst c10
        have H1 : (laws_FnOptionsUnseen.j0 k l0 l1 l2 l3 true a4_0 a4_1 a4_2 a4_3 a4_4 a4_5 a4_6 a4_7) = some r := by rw [if_neg (show ¬ (false = true) by decide)] at H; exact H
        clear H
        have H := H1
        clear H1
        have H' := Aside0.mk H
        clear H
        go_wp2_with (first | (go_at_call 15; refine (idCut_at _ _ _ _ _ _ (by assumption) (by assumption)).mono ?_; rintro e w_ ⟨rfl, rfl⟩) | (go_at_call 13; (with_reducible refine (laws_zzFits1.calls k _ _ l1 false _ ?side1 ?side2 A9.out).mono ?_); (case side1 => repeat (first | exact (Kd.C_below HR1.out HB.out) | (with_reducible refine Kd.C_alloc ?_ _) | (with_reducible refine Kd.C_drewN ?_ _) | (with_reducible refine Kd.C_drew ?_))); (case side2 => exact HC1.out); rintro e w' ⟨rfl, ⟨nd, rfl⟩⟩))
        go_meet
        case rel => exact ⟨_, (true), (by first | rfl | (simp; done) | (simp [*]; done)), H', ⟨by first | omega | exact Nat.le_refl _⟩, ⟨by (with_reducible repeat (first | refine blk_drewN ?_ _ | refine blk_drew ?_ | refine blk_alloc ?_ _)); exact BK140.out⟩, ⟨by repeat (first | (with_reducible first | exact HB.out | apply below_alloc | apply pw_below_drewN | apply below_drew1 | refine below_set ?_ GE140.out) | exact HB.out)⟩⟩
  case rest =>
    clear HC6
    try clear c1
    try clear c2
    try clear p2
    try clear c3
    try clear c8
    try clear c8b0
    try clear c8b1
    try clear c10
    try clear c11
    try clear c11b0
    try clear c11b1
    obtain ⟨kq, x32_5, rfl, HA, HJ5, BK140, HB⟩ := hcut
    cases kq with
    | zero => exact absurd HA.out (by simp [laws_FnOptionsUnseen.j0])
    | succ kj5 =>
      have H := HA.out
      clear HA
      simp only [laws_FnOptionsUnseen.j0] at H
      by_cases c12 : x32_5 = true
      · subst c12
        have H1 : (some true) = some r := by rw [if_pos rfl] at H; exact H
        clear H
        have H := H1
        clear H1
        obtain rfl := Option.some.inj H
        go_wp2
        go_ret
        exact ⟨by first | rfl | (simp [errW_none, errW_some] <;> rfl) | (simp [*, errW_none, errW_some] <;> rfl), by repeat (first | (with_reducible first | exact HB.out | apply below_alloc | apply pw_below_drewN | apply below_drew1 | refine below_set ?_ GE140.out) | exact HB.out)⟩
      · replace c12 := Bool.eq_false_iff.mpr c12
        subst c12
        have H1 : (if 0 ≤ (mn (l0.length : Int) 1000) then (if (mn (l0.length : Int) 1000) ≤ (l0.length : Int) then ((spec_AnPlain.f kj5 (l0.take ((mn (l0.length : Int) 1000) : Int).toNat)).bind fun t143 => ((laws_idSmall.f kj5 l1 l2 l3).bind fun t144 => ((spec_IdSymbol.f kj5 t143 0 t144).bind fun t147 => (if 2 + t147.size ≤ 9223372036854775807 then ((impl_Told.f ((⟨#[95, 82]⟩ : ByteArray) ++ t147) a4_0 a4_1 a4_2 a4_3 a4_4 false a4_6 0).bind fun bt148 => (if bt148.2 = 0 then ((spec_IdText.f kj5 t143 t144).bind fun t150 => (some (bt148.1.toList == t150.toList))) else (some false))) else (none))))) else (none)) else (none)) = some r := by rw [if_neg (show ¬ (false = true) by decide)] at H; exact H
        clear H
        have H := H1
        clear H1
        obtain ⟨ji13, hji13⟩ : ∃ j_ : Int, (mn (l0.length : Int) 1000) = j_ := ⟨_, rfl⟩
        replace H : (if 0 ≤ (ji13) then (if (ji13) ≤ (l0.length : Int) then ((spec_AnPlain.f kj5 (l0.take ((ji13) : Int).toNat)).bind fun t143 => ((laws_idSmall.f kj5 l1 l2 l3).bind fun t144 => ((spec_IdSymbol.f kj5 t143 0 t144).bind fun t147 => (if 2 + t147.size ≤ 9223372036854775807 then ((impl_Told.f ((⟨#[95, 82]⟩ : ByteArray) ++ t147) a4_0 a4_1 a4_2 a4_3 a4_4 false a4_6 0).bind fun bt148 => (if bt148.2 = 0 then ((spec_IdText.f kj5 t143 t144).bind fun t150 => (some (bt148.1.toList == t150.toList))) else (some false))) else (none))))) else (none)) else (none)) = some r := by first | (rw [hji13] at H; exact H) | (simp only [hji13] at H ⊢; exact H)
        (try (have hji13h : ji13 ≤ 1000 := by (rw [← hji13]; unfold mn; (repeat' split) <;> omega)))
        (try (have hji13g : ji13 ≤ 64 := by omega))
        (try (have hji13l : 0 ≤ ji13 := by (rw [← hji13]; unfold mn; (repeat' split) <;> omega)))
        (try (have hji13m : 0 ≤ ji13 := by omega))
        have hji13_ : (if 1000 < (l0.length : Int) then 1000 else (l0.length : Int)) = ji13 := hji13
        by_cases c14 : 0 ≤ (ji13)
        · rw [if_pos c14] at H
          have c14b0 := eq_true c14
          have c14b1 : decide (0 ≤ (ji13)) = true := decide_eq_true c14
          clear c14
          by_cases c15 : (ji13) ≤ (l0.length : Int)
          · rw [if_pos c15] at H
            have c15b0 := eq_true c15
            have c15b1 : decide ((ji13) ≤ (l0.length : Int)) = true := decide_eq_true c15
            clear c15
            replace H := Option.bind_eq_some_iff.mp H
            obtain ⟨t143, A160, H⟩ := H
            replace H : ((laws_idSmall.f kj5 l1 l2 l3).bind fun t144 => ((spec_IdSymbol.f kj5 t143 0 t144).bind fun t147 => (if 2 + t147.size ≤ 9223372036854775807 then ((impl_Told.f ((⟨#[95, 82]⟩ : ByteArray) ++ t147) a4_0 a4_1 a4_2 a4_3 a4_4 false a4_6 0).bind fun bt148 => (if bt148.2 = 0 then ((spec_IdText.f kj5 t143 t144).bind fun t150 => (some (bt148.1.toList == t150.toList))) else (some false))) else (none)))) = some r := H
            have A16 := Aside0.mk A160
            clear A160
            replace H := Option.bind_eq_some_iff.mp H
            obtain ⟨t144, A170, H⟩ := H
            replace H : ((spec_IdSymbol.f kj5 t143 0 t144).bind fun t147 => (if 2 + t147.size ≤ 9223372036854775807 then ((impl_Told.f ((⟨#[95, 82]⟩ : ByteArray) ++ t147) a4_0 a4_1 a4_2 a4_3 a4_4 false a4_6 0).bind fun bt148 => (if bt148.2 = 0 then ((spec_IdText.f kj5 t143 t144).bind fun t150 => (some (bt148.1.toList == t150.toList))) else (some false))) else (none))) = some r := H
            have A17 := Aside0.mk A170
            clear A170
            replace H := Option.bind_eq_some_iff.mp H
            obtain ⟨t147, A180, H⟩ := H
            replace H : (if 2 + t147.size ≤ 9223372036854775807 then ((impl_Told.f ((⟨#[95, 82]⟩ : ByteArray) ++ t147) a4_0 a4_1 a4_2 a4_3 a4_4 false a4_6 0).bind fun bt148 => (if bt148.2 = 0 then ((spec_IdText.f kj5 t143 t144).bind fun t150 => (some (bt148.1.toList == t150.toList))) else (some false))) else (none)) = some r := H
            have A18 := Aside0.mk A180
            clear A180
            by_cases c19 : 2 + t147.size ≤ 9223372036854775807
            · rw [if_pos c19] at H
              have c19b0 := eq_true c19
              have c19b1 : decide (2 + t147.size ≤ 9223372036854775807) = true := decide_eq_true c19
              try have c19b2 : (9223372036854775807 < 2 + t147.size) = False := eq_false (Nat.not_lt.2 c19)
              replace H := Option.bind_eq_some_iff.mp H
              obtain ⟨⟨t148, t149⟩, A200, H⟩ := H
              replace H : (if t149 = 0 then ((spec_IdText.f kj5 t143 t144).bind fun t150 => (some (t148.toList == t150.toList))) else (some false)) = some r := H
              have A20 := Aside0.mk A200
              clear A200
              by_cases c21 : t149 = 0
              · rw [if_pos c21] at H
                have c21b0 : (t149 == 0) = true := beq_iff_eq.mpr c21
                have c21b1 : (t149 != 0) = false := bne_eq_false_iff_eq.mpr c21
                clear c21
                replace H := Option.bind_eq_some_iff.mp H
                obtain ⟨t150, A220, H⟩ := H
                replace H : (some (t148.toList == t150.toList)) = some r := H
                have A22 := Aside0.mk A220
                clear A220
                obtain rfl := Option.some.inj H
                have hcz23_0 : wc.cell? ⟨gb140, 0, none⟩ = some (.bool a4_0) := (blk_cell BK140.out 0).trans rfl
                have hcz23_1 : wc.cell? ⟨gb140, 1, none⟩ = some (.bool a4_1) := (blk_cell BK140.out 1).trans rfl
                have hcz23_2 : wc.cell? ⟨gb140, 2, none⟩ = some (.bool a4_2) := (blk_cell BK140.out 2).trans rfl
                have hcz23_3 : wc.cell? ⟨gb140, 3, none⟩ = some (.bool a4_3) := (blk_cell BK140.out 3).trans rfl
                have hcz23_4 : wc.cell? ⟨gb140, 4, none⟩ = some (.bool a4_4) := (blk_cell BK140.out 4).trans rfl
                have hcz23_5 : wc.cell? ⟨gb140, 5, none⟩ = some (.bool a4_5) := (blk_cell BK140.out 5).trans rfl
                have hcz23_6 : wc.cell? ⟨gb140, 6, none⟩ = some (.bool a4_6) := (blk_cell BK140.out 6).trans rfl
                have hcz23_7 : wc.cell? ⟨gb140, 7, none⟩ = some (.int .i64 a4_7) := (blk_cell BK140.out 7).trans rfl
                have hfz23_0 := blk_frozen BK140.out 0
                have hfz23_1 := blk_frozen BK140.out 1
                have hfz23_2 := blk_frozen BK140.out 2
                have hfz23_3 := blk_frozen BK140.out 3
                have hfz23_4 := blk_frozen BK140.out 4
                have hfz23_5 := blk_frozen BK140.out 5
                have hfz23_6 := blk_frozen BK140.out 6
                have hfz23_7 := blk_frozen BK140.out 7
                obtain ⟨i024, hi024, _, hsz24, _⟩ := info_parts info5
                obtain ⟨hcut24, hA24, hC24⟩ := print_take_of (P := Tryz.prog) (Value.int .u8) 0 22 5 .i64 Tryz.underlying22 hi024 hsz24 A0 c0 l0 (ji13) (of_decide_eq_true (by first | (with_reducible assumption) | assumption)) (of_decide_eq_true (by first | (with_reducible assumption) | assumption)) HC0.out
                have HR142 := Aside0.mk (Kd.C_of_reads (h1 := fun _ => rfl) (hA24 _ (Kd.reads_of_C HR0.out)))
                have HC142 := Aside0.mk hC24
                clear hA24 hC24 hi024 hsz24
                try go_wp2_with (first | (go_at_call 15; refine (idCut_at _ _ _ _ _ _ (by assumption) (by assumption)).mono ?_; rintro e w_ ⟨rfl, rfl⟩) | ((with_reducible refine gate_callee (f := 14) rfl ?_); refine goesL_ (some 37) rfl rfl Tryz.func14 (by kernel_rfl) rfl #[.slice A0 (l0.take ((ji13) : Int).toNat).length c0] rfl (by (try simp only [List.map_toArray, List.map_cons, List.map_nil]); first | done | (rw [show (l0.take ((ji13) : Int).toNat).length = (ji13).toNat from (by rw [List.length_take]; have h_ : ((ji13) : Int) ≤ (l0.length : Int) := of_decide_eq_true (by first | (with_reducible assumption) | assumption); omega)] <;> rfl) | (simp only [hji13]; rfl) | rfl | (simp only [List.length_drop, List.length_take]; rfl)) ?_; (with_reducible refine (spec_AnPlain.calls kj5 _ _ (l0.take ((ji13) : Int).toNat) t143 _ ?side1 ?side2 A16.out).mono ?_); (case side1 => exact Kd.C_below HR142.out (by repeat (first | (with_reducible first | exact HB.out | apply below_alloc | apply pw_below_drewN | apply below_drew1 | refine below_set ?_ GE140.out) | exact HB.out))); (case side2 => exact HC142.out); rintro e w25 ⟨rfl, hb⟩; refine ⟨_, rfl, ?_⟩; have n0_ := Aside0.mk (blk_below (g := gb140) (o := .cells #[.bool a4_0, .bool a4_1, .bool a4_2, .bool a4_3, .bool a4_4, .bool false, .bool a4_6, .int .i64 0] 34 (0, 0)) (by (with_reducible repeat (first | refine blk_drewN ?_ _ | refine blk_drew ?_ | refine blk_alloc ?_ _)); refine blk_put (cs := #[.bool a4_0, .bool a4_1, .bool a4_2, .bool a4_3, .bool a4_4, .bool false, .bool a4_6, .int .i64 a4_7]) ?_ 7 _ rfl; (with_reducible repeat (first | refine blk_drewN ?_ _ | refine blk_drew ?_ | refine blk_alloc ?_ _)); refine blk_put (cs := #[.bool a4_0, .bool a4_1, .bool a4_2, .bool a4_3, .bool a4_4, .bool a4_5, .bool a4_6, .int .i64 a4_7]) ?_ 5 _ rfl; (with_reducible repeat (first | refine blk_drewN ?_ _ | refine blk_drew ?_ | refine blk_alloc ?_ _)); exact BK140.out) hb); have n1_ := Aside0.mk (below_step (by repeat (first | (with_reducible first | exact HB.out | apply below_alloc | apply pw_below_drewN | apply below_drew1 | refine below_set ?_ GE140.out) | exact HB.out)) hb); clear BK140; clear HB; have BK140 := n0_; have HB := n1_; clear n0_ n1_; (try clear hb); (try clear hb2); (try clear hk); (try clear hi)) | ((with_reducible refine gate_callee (f := 16) rfl ?_); refine goesL_ (some 41) rfl rfl Tryz.func16 (by kernel_rfl) rfl #[.slice A1 l1.length c1, .slice A2 l2.length c2, .slice A3 l3.length c3] rfl (by (try simp only [List.map_toArray, List.map_cons, List.map_nil]); first | done | rfl | (simp only [List.length_drop, List.length_take]; rfl)) ?_; (with_reducible refine (laws_idSmall.calls kj5 _ _ l1 _ _ l2 _ _ l3 t144 _ ?side1 ?side2 ?side3 ?side4 ?side5 ?side6 A17.out).mono ?_); (case side1 => repeat (first | exact (Kd.C_below HR1.out HB.out) | (with_reducible refine Kd.C_alloc ?_ _) | (with_reducible refine Kd.C_drewN ?_ _) | (with_reducible refine Kd.C_drew ?_))); (case side2 => exact HC1.out); (case side3 => repeat (first | exact (Kd.C_below HR2.out HB.out) | (with_reducible refine Kd.C_alloc ?_ _) | (with_reducible refine Kd.C_drewN ?_ _) | (with_reducible refine Kd.C_drew ?_))); (case side4 => exact HC2.out); (case side5 => repeat (first | exact (Kd.C_below HR3.out HB.out) | (with_reducible refine Kd.C_alloc ?_ _) | (with_reducible refine Kd.C_drewN ?_ _) | (with_reducible refine Kd.C_drew ?_))); (case side6 => exact HC3.out); rintro e w26 ⟨v145, rfl, ho0, hb⟩; refine ⟨_, rfl, ?_⟩; have n0_ := Aside0.mk (Kd.R_lower ho0 (below_size (by repeat (first | (with_reducible first | exact HB.out | apply below_alloc | apply pw_below_drewN | apply below_drew1 | refine below_set ?_ GE140.out) | exact HB.out)))); have n1_ := Aside0.mk (blk_below (g := gb140) (o := .cells #[.bool a4_0, .bool a4_1, .bool a4_2, .bool a4_3, .bool a4_4, .bool false, .bool a4_6, .int .i64 0] 34 (0, 0)) (by (with_reducible repeat (first | refine blk_drewN ?_ _ | refine blk_drew ?_ | refine blk_alloc ?_ _)); exact BK140.out) hb); have n2_ := Aside0.mk (below_step (by repeat (first | (with_reducible first | exact HB.out | apply below_alloc | apply pw_below_drewN | apply below_drew1 | refine below_set ?_ GE140.out) | exact HB.out)) hb); clear BK140; clear HB; have HO146 := n0_; have BK140 := n1_; have HB := n2_; clear n0_ n1_ n2_; (try clear hb); (try clear hb2); (try clear hk); (try clear hi); (try clear ho0)))
                have n0_ := Aside0.mk (Kd.R_drew HO146.out)
                have n1_ := Aside0.mk (blk_drew BK140.out)
                have n2_ := Aside0.mk (below_drew1 HB.out)
                clear HO146
                clear BK140
                clear HB
                have HO146 := n0_
                have BK140 := n1_
                have HB := n2_
                clear n0_ n1_ n2_
                obtain ⟨Ao28, co28, eo28⟩ := Kd.R_slice HO146.out
                (first | subst eo28 | (injection eo28 with f1_ f2_ f3_; have f4_ := f1_.symm; have f5_ := f3_.symm; clear f1_ f2_ f3_; subst f4_; subst f5_))
                refine start_ (n := 11) (S := fun w' => w'.cell? ⟨gb140, 0, none⟩ = some (.bool a4_0) ∧ w'.cell? ⟨gb140, 1, none⟩ = some (.bool a4_1) ∧ w'.cell? ⟨gb140, 2, none⟩ = some (.bool a4_2) ∧ w'.cell? ⟨gb140, 3, none⟩ = some (.bool a4_3) ∧ w'.cell? ⟨gb140, 4, none⟩ = some (.bool a4_4) ∧ w'.cell? ⟨gb140, 5, none⟩ = some (.bool false) ∧ w'.cell? ⟨gb140, 6, none⟩ = some (.bool a4_6) ∧ w'.cell? ⟨gb140, 7, none⟩ = some (.int .i64 0)) (ds := []) #[false, false, false, false, false, false, false, false, false, false, false] (by kernel_rfl) rfl rfl ⟨(blk_cell BK140.out 0).trans rfl, (blk_cell BK140.out 1).trans rfl, (blk_cell BK140.out 2).trans rfl, (blk_cell BK140.out 3).trans rfl, (blk_cell BK140.out 4).trans rfl, (blk_cell BK140.out 5).trans rfl, (blk_cell BK140.out 6).trans rfl, (blk_cell BK140.out 7).trans rfl⟩ (fun hHeld => ?_); refine with_tabW laws_FnOptionsUnseen.tab6 laws_FnOptionsUnseen.bits6 (fun HT_ HW_ => ?_)
                generalize w26.drew = w27 at HO146 BK140 HB hHeld ⊢
                refine pure_ (i := 0) (N := some 43) (v := ?_) (a' := ?_) #[true, false, false, false, false, false, false, false, false, false, false] rfl rfl (any_of HT_.out (by kernel_rfl)) (fun _ _ _ h => h) (Or.inl ⟨by rfl, ?_⟩) ?_ ?_
                rotate_left
                · intro w'
                  go_simp
                  with_reducible rfl
                rotate_left
                · simp only [Act.put, List.setIfInBounds_toArray, List.set_cons_zero, List.set_cons_succ, i64_w, i32_w]
                  rfl
                refine pure_ (i := 1) (N := some 44) (v := ?_) (a' := ?_) #[true, true, false, false, false, false, false, false, false, false, false] rfl rfl (any_of HT_.out (by kernel_rfl)) (fun _ _ _ h => h) (Or.inl ⟨by rfl, ?_⟩) ?_ ?_
                rotate_left
                · intro w'
                  go_simp
                  with_reducible rfl
                rotate_left
                · simp only [Act.put, List.setIfInBounds_toArray, List.set_cons_zero, List.set_cons_succ, i64_w, i32_w]
                  rfl
                refine take_ (i := 4) (N := some 47) (v := ?_) (a' := ?_) #[true, true, false, false, true, false, false, false, false, false, false] rfl rfl (take_ofW HT_.out HW_.out (by kernel_rfl)) (fun _ _ _ h => h) (Or.inl ⟨by rfl, ?_⟩) hHeld ?_ ?_
                rotate_left
                · rintro w' ⟨s0, s1, s2, s3, s4, s5, s6, s7⟩
                  go_simp
                  with_reducible rfl
                rotate_left
                · simp only [Act.put, List.setIfInBounds_toArray, List.set_cons_zero, List.set_cons_succ, i64_w, i32_w]
                  rfl
                refine one_ (i := 2) (N := some 45) #[true, true, true, false, true, false, false, false, false, false, false] rfl rfl (one_of HT_.out (by kernel_rfl)) (by decide) (fun K hK => ?_)
                refine goes_ Tryz.func18 (by kernel_rfl) rfl #[.string t143, .int .u64 0, .slice Ao28 t144.length co28] (by rfl) rfl rfl (by (try simp only [List.map_toArray, List.map_cons, List.map_nil]); first | done | rfl | (simp only [List.length_drop, List.length_take]; rfl)) ?_
                with_reducible refine (spec_IdSymbol.calls kj5 t143 0 _ _ t144 t147 _ ?side1 ?side2 (show DoorIs _ from ?side3) A18.out).mono ?_
                (case side1 => repeat (first | exact (Kd.R_reads' HO146.out).2.2 | (with_reducible refine Kd.C_alloc ?_ _) | (with_reducible refine Kd.C_drewN ?_ _) | (with_reducible refine Kd.C_drew ?_)))
                (case side2 => exact (Kd.R_reads' HO146.out).2.1)
                (case side3 => exact Stays.below hT_ (by first | (repeat (first | (with_reducible first | exact HB.out | apply below_alloc | apply pw_below_drewN | apply below_drew1 | refine below_set ?_ GE140.out) | exact HB.out)) | (repeat (first | exact Below.refl _ _ | apply below_drew1 | apply pw_below_drewN))))
                rintro e w29 ⟨rfl, hb⟩
                refine ⟨_, rfl, ?_⟩
                have n0_ := Aside0.mk (Kd.R_below (by (with_reducible repeat (first | apply Kd.R_alloc | apply Kd.R_drewN | apply Kd.R_drew)); exact HO146.out) hb)
                have n1_ := Aside0.mk (blk_below (g := gb140) (o := .cells #[.bool a4_0, .bool a4_1, .bool a4_2, .bool a4_3, .bool a4_4, .bool false, .bool a4_6, .int .i64 0] 34 (0, 0)) (by (with_reducible repeat (first | refine blk_drewN ?_ _ | refine blk_drew ?_ | refine blk_alloc ?_ _)); exact BK140.out) hb)
                have n2_ := Aside0.mk (below_step (by repeat (first | (with_reducible first | exact HB.out | apply below_alloc | apply pw_below_drewN | apply below_drew1 | refine below_set ?_ GE140.out) | exact HB.out)) hb)
                clear HO146
                clear BK140
                clear HB
                have HO146 := n0_
                have BK140 := n1_
                have HB := n2_
                clear n0_ n1_ n2_
                (try clear hb)
                (try clear hb2)
                (try clear hk)
                (try clear hi)
                refine hK.out _ _ ⟨(blk_cell BK140.out 0).trans rfl, (blk_cell BK140.out 1).trans rfl, (blk_cell BK140.out 2).trans rfl, (blk_cell BK140.out 3).trans rfl, (blk_cell BK140.out 4).trans rfl, (blk_cell BK140.out 5).trans rfl, (blk_cell BK140.out 6).trans rfl, (blk_cell BK140.out 7).trans rfl⟩ (fun hHeld => ?_)
                clear hK K
                refine norm_ (a' := ?_) ?_ ?_
                rotate_left
                · show Act.put _ (some 45) _ = _
                  simp only [Act.put, List.setIfInBounds_toArray, List.set_cons_zero, List.set_cons_succ, i64_w, i32_w]
                  rfl
                refine pure_ (i := 3) (N := some 46) (v := ?_) (a' := ?_) #[true, true, true, true, true, false, false, false, false, false, false] rfl rfl (any_of HT_.out (by kernel_rfl)) (fun _ _ _ h => h) (Or.inl ⟨by rfl, ?_⟩) ?_ ?_
                rotate_left
                · intro w'
                  go_simp
                  with_reducible rfl
                rotate_left
                · simp only [Act.put, List.setIfInBounds_toArray, List.set_cons_zero, List.set_cons_succ, i64_w, i32_w]
                  rfl
                refine one_ (i := 5) (N := some 48) #[true, true, true, true, true, true, false, false, false, false, false] rfl rfl (one_of HT_.out (by kernel_rfl)) (by decide) (fun K hK => ?_)
                refine goes_ Tryz.func17 (by kernel_rfl) rfl #[.string ((⟨#[95, 82]⟩ : ByteArray) ++ t147), .agg #[.bool a4_0, .bool a4_1, .bool a4_2, .bool a4_3, .bool a4_4, .bool false, .bool a4_6, .int .i64 0]] (by rfl) rfl rfl (by (try simp only [List.map_toArray, List.map_cons, List.map_nil]); first | done | rfl | (simp only [List.length_drop, List.length_take]; rfl)) ?_
                with_reducible refine (impl_Told.calls ((⟨#[95, 82]⟩ : ByteArray) ++ t147) a4_0 a4_1 a4_2 a4_3 a4_4 false a4_6 0 t148 t149 _ (show DoorIs _ from ?side1) A20.out).mono ?_
                (case side1 => exact Stays.below hT_ (by first | (repeat (first | (with_reducible first | exact HB.out | apply below_alloc | apply pw_below_drewN | apply below_drew1 | refine below_set ?_ GE140.out) | exact HB.out)) | (repeat (first | exact Below.refl _ _ | apply below_drew1 | apply pw_below_drewN))))
                rintro e w30 ⟨rfl, hb⟩
                refine ⟨_, rfl, ?_⟩
                have n0_ := Aside0.mk (Kd.R_below (by (with_reducible repeat (first | apply Kd.R_alloc | apply Kd.R_drewN | apply Kd.R_drew)); exact HO146.out) hb)
                have n1_ := Aside0.mk (blk_below (g := gb140) (o := .cells #[.bool a4_0, .bool a4_1, .bool a4_2, .bool a4_3, .bool a4_4, .bool false, .bool a4_6, .int .i64 0] 34 (0, 0)) (by (with_reducible repeat (first | refine blk_drewN ?_ _ | refine blk_drew ?_ | refine blk_alloc ?_ _)); exact BK140.out) hb)
                have n2_ := Aside0.mk (below_step (by repeat (first | (with_reducible first | exact HB.out | apply below_alloc | apply pw_below_drewN | apply below_drew1 | refine below_set ?_ GE140.out) | exact HB.out)) hb)
                clear HO146
                clear BK140
                clear HB
                have HO146 := n0_
                have BK140 := n1_
                have HB := n2_
                clear n0_ n1_ n2_
                (try clear hb)
                (try clear hb2)
                (try clear hk)
                (try clear hi)
                refine hK.out _ _ ⟨(blk_cell BK140.out 0).trans rfl, (blk_cell BK140.out 1).trans rfl, (blk_cell BK140.out 2).trans rfl, (blk_cell BK140.out 3).trans rfl, (blk_cell BK140.out 4).trans rfl, (blk_cell BK140.out 5).trans rfl, (blk_cell BK140.out 6).trans rfl, (blk_cell BK140.out 7).trans rfl⟩ (fun hHeld => ?_)
                clear hK K
                refine norm_ (a' := ?_) ?_ ?_
                rotate_left
                · show Act.put _ (some 48) _ = _
                  simp only [Act.put, List.setIfInBounds_toArray, List.set_cons_zero, List.set_cons_succ, i64_w, i32_w]
                  rfl
                refine pure_ (i := 6) (N := some 42) (v := ?_) (a' := ?_) #[true, true, true, true, true, true, true, false, false, false, false] rfl rfl (any_of HT_.out (by kernel_rfl)) (fun _ _ _ h => h) (Or.inl ⟨by rfl, ?_⟩) ?_ ?_
                rotate_left
                · intro w'
                  go_simp
                  with_reducible rfl
                rotate_left
                · simp only [Act.put, List.setIfInBounds_toArray, List.set_cons_zero, List.set_cons_succ, i64_w, i32_w]
                  rfl
                refine pure_ (i := 7) (N := some 49) (v := ?_) (a' := ?_) #[true, true, true, true, true, true, true, true, false, false, false] rfl rfl (any_of HT_.out (by kernel_rfl)) (fun _ _ _ h => h) (Or.inl ⟨by rfl, ?_⟩) ?_ ?_
                rotate_left
                · intro w'
                  go_simp
                  with_reducible rfl
                rotate_left
                · simp only [Act.put, List.setIfInBounds_toArray, List.set_cons_zero, List.set_cons_succ, i64_w, i32_w]
                  rfl
                refine pure_ (i := 8) (N := some 50) (v := ?_) (a' := ?_) #[true, true, true, true, true, true, true, true, true, false, false] rfl rfl (any_of HT_.out (by kernel_rfl)) (fun _ _ _ h => h) (Or.inl ⟨by rfl, ?_⟩) ?_ ?_
                rotate_left
                · intro w'
                  go_simp
                  with_reducible rfl
                rotate_left
                · simp only [Act.put, List.setIfInBounds_toArray, List.set_cons_zero, List.set_cons_succ, i64_w, i32_w]
                  rfl
                refine pure_ (i := 9) (N := some 13) (v := ?_) (a' := ?_) #[true, true, true, true, true, true, true, true, true, true, false] rfl rfl (any_of HT_.out (by kernel_rfl)) (fun _ _ _ h => h) (Or.inl ⟨by rfl, ?_⟩) ?_ ?_
                rotate_left
                · intro w'
                  go_simp
                  with_reducible rfl
                rotate_left
                · simp only [Act.put, List.setIfInBounds_toArray, List.set_cons_zero, List.set_cons_succ, i64_w, i32_w]
                  rfl
                refine pure_ (i := 10) (N := some 14) (v := ?_) (a' := ?_) #[true, true, true, true, true, true, true, true, true, true, true] rfl rfl (any_of HT_.out (by kernel_rfl)) (fun _ _ _ h => h) (Or.inl ⟨by rfl, ?_⟩) ?_ ?_
                rotate_left
                · intro w'
                  go_simp
                  with_reducible rfl
                rotate_left
                · simp only [Act.put, List.setIfInBounds_toArray, List.set_cons_zero, List.set_cons_succ, i64_w, i32_w]
                  rfl
                refine done_ (done_of HT_.out (by kernel_rfl)) ?_
                try go_wp2_with (first | (go_at_call 15; refine (idCut_at _ _ _ _ _ _ (by assumption) (by assumption)).mono ?_; rintro e w_ ⟨rfl, rfl⟩) | (go_at_call 19; (with_reducible refine (spec_IdText.calls kj5 t143 _ _ t144 t150 _ ?side1 ?side2 (show DoorIs _ from ?side3) A22.out).mono ?_); (case side1 => repeat (first | exact (Kd.R_reads' HO146.out).2.2 | (with_reducible refine Kd.C_alloc ?_ _) | (with_reducible refine Kd.C_drewN ?_ _) | (with_reducible refine Kd.C_drew ?_))); (case side2 => exact (Kd.R_reads' HO146.out).2.1); (case side3 => exact Stays.below hT_ (by first | (repeat (first | (with_reducible first | exact HB.out | apply below_alloc | apply pw_below_drewN | apply below_drew1 | refine below_set ?_ GE140.out) | exact HB.out)) | (repeat (first | exact Below.refl _ _ | apply below_drew1 | apply pw_below_drewN)))); rintro e w31 ⟨rfl, hb⟩; have n0_ := Aside0.mk (Kd.R_below (by (with_reducible repeat (first | apply Kd.R_alloc | apply Kd.R_drewN | apply Kd.R_drew)); exact HO146.out) hb); have n1_ := Aside0.mk (blk_below (g := gb140) (o := .cells #[.bool a4_0, .bool a4_1, .bool a4_2, .bool a4_3, .bool a4_4, .bool false, .bool a4_6, .int .i64 0] 34 (0, 0)) (by (with_reducible repeat (first | refine blk_drewN ?_ _ | refine blk_drew ?_ | refine blk_alloc ?_ _)); exact BK140.out) hb); have n2_ := Aside0.mk (below_step (by repeat (first | (with_reducible first | exact HB.out | apply below_alloc | apply pw_below_drewN | apply below_drew1 | refine below_set ?_ GE140.out) | exact HB.out)) hb); clear HO146; clear BK140; clear HB; have HO146 := n0_; have BK140 := n1_; have HB := n2_; clear n0_ n1_ n2_; (try clear hb); (try clear hb2); (try clear hk); (try clear hi)))
                go_ret
                exact ⟨by first | rfl | (simp [errW_none, errW_some] <;> rfl) | (simp only [← hji13]; first | rfl | (simp [errW_none, errW_some] <;> rfl)) | (simp [*, errW_none, errW_some] <;> rfl), by repeat (first | (with_reducible first | exact HB.out | apply below_alloc | apply pw_below_drewN | apply below_drew1 | refine below_set ?_ GE140.out) | exact HB.out)⟩
              · rw [if_neg c21] at H
                have c21b0 : (t149 == 0) = false := beq_eq_false_iff_ne.mpr c21
                have c21b1 : (t149 != 0) = true := bne_iff_ne.mpr c21
                obtain rfl := Option.some.inj H
                have hcz32_0 : wc.cell? ⟨gb140, 0, none⟩ = some (.bool a4_0) := (blk_cell BK140.out 0).trans rfl
                have hcz32_1 : wc.cell? ⟨gb140, 1, none⟩ = some (.bool a4_1) := (blk_cell BK140.out 1).trans rfl
                have hcz32_2 : wc.cell? ⟨gb140, 2, none⟩ = some (.bool a4_2) := (blk_cell BK140.out 2).trans rfl
                have hcz32_3 : wc.cell? ⟨gb140, 3, none⟩ = some (.bool a4_3) := (blk_cell BK140.out 3).trans rfl
                have hcz32_4 : wc.cell? ⟨gb140, 4, none⟩ = some (.bool a4_4) := (blk_cell BK140.out 4).trans rfl
                have hcz32_5 : wc.cell? ⟨gb140, 5, none⟩ = some (.bool a4_5) := (blk_cell BK140.out 5).trans rfl
                have hcz32_6 : wc.cell? ⟨gb140, 6, none⟩ = some (.bool a4_6) := (blk_cell BK140.out 6).trans rfl
                have hcz32_7 : wc.cell? ⟨gb140, 7, none⟩ = some (.int .i64 a4_7) := (blk_cell BK140.out 7).trans rfl
                have hfz32_0 := blk_frozen BK140.out 0
                have hfz32_1 := blk_frozen BK140.out 1
                have hfz32_2 := blk_frozen BK140.out 2
                have hfz32_3 := blk_frozen BK140.out 3
                have hfz32_4 := blk_frozen BK140.out 4
                have hfz32_5 := blk_frozen BK140.out 5
                have hfz32_6 := blk_frozen BK140.out 6
                have hfz32_7 := blk_frozen BK140.out 7
                obtain ⟨i033, hi033, _, hsz33, _⟩ := info_parts info5
                obtain ⟨hcut33, hA33, hC33⟩ := print_take_of (P := Tryz.prog) (Value.int .u8) 0 22 5 .i64 Tryz.underlying22 hi033 hsz33 A0 c0 l0 (ji13) (of_decide_eq_true (by first | (with_reducible assumption) | assumption)) (of_decide_eq_true (by first | (with_reducible assumption) | assumption)) HC0.out
                have HR142 := Aside0.mk (Kd.C_of_reads (h1 := fun _ => rfl) (hA33 _ (Kd.reads_of_C HR0.out)))
                have HC142 := Aside0.mk hC33
                clear hA33 hC33 hi033 hsz33
                try go_wp2_with (first | (go_at_call 15; refine (idCut_at _ _ _ _ _ _ (by assumption) (by assumption)).mono ?_; rintro e w_ ⟨rfl, rfl⟩) | ((with_reducible refine gate_callee (f := 14) rfl ?_); refine goesL_ (some 37) rfl rfl Tryz.func14 (by kernel_rfl) rfl #[.slice A0 (l0.take ((ji13) : Int).toNat).length c0] rfl (by (try simp only [List.map_toArray, List.map_cons, List.map_nil]); first | done | (rw [show (l0.take ((ji13) : Int).toNat).length = (ji13).toNat from (by rw [List.length_take]; have h_ : ((ji13) : Int) ≤ (l0.length : Int) := of_decide_eq_true (by first | (with_reducible assumption) | assumption); omega)] <;> rfl) | (simp only [hji13]; rfl) | rfl | (simp only [List.length_drop, List.length_take]; rfl)) ?_; (with_reducible refine (spec_AnPlain.calls kj5 _ _ (l0.take ((ji13) : Int).toNat) t143 _ ?side1 ?side2 A16.out).mono ?_); (case side1 => exact Kd.C_below HR142.out (by repeat (first | (with_reducible first | exact HB.out | apply below_alloc | apply pw_below_drewN | apply below_drew1 | refine below_set ?_ GE140.out) | exact HB.out))); (case side2 => exact HC142.out); rintro e w34 ⟨rfl, hb⟩; refine ⟨_, rfl, ?_⟩; have n0_ := Aside0.mk (blk_below (g := gb140) (o := .cells #[.bool a4_0, .bool a4_1, .bool a4_2, .bool a4_3, .bool a4_4, .bool false, .bool a4_6, .int .i64 0] 34 (0, 0)) (by (with_reducible repeat (first | refine blk_drewN ?_ _ | refine blk_drew ?_ | refine blk_alloc ?_ _)); refine blk_put (cs := #[.bool a4_0, .bool a4_1, .bool a4_2, .bool a4_3, .bool a4_4, .bool false, .bool a4_6, .int .i64 a4_7]) ?_ 7 _ rfl; (with_reducible repeat (first | refine blk_drewN ?_ _ | refine blk_drew ?_ | refine blk_alloc ?_ _)); refine blk_put (cs := #[.bool a4_0, .bool a4_1, .bool a4_2, .bool a4_3, .bool a4_4, .bool a4_5, .bool a4_6, .int .i64 a4_7]) ?_ 5 _ rfl; (with_reducible repeat (first | refine blk_drewN ?_ _ | refine blk_drew ?_ | refine blk_alloc ?_ _)); exact BK140.out) hb); have n1_ := Aside0.mk (below_step (by repeat (first | (with_reducible first | exact HB.out | apply below_alloc | apply pw_below_drewN | apply below_drew1 | refine below_set ?_ GE140.out) | exact HB.out)) hb); clear BK140; clear HB; have BK140 := n0_; have HB := n1_; clear n0_ n1_; (try clear hb); (try clear hb2); (try clear hk); (try clear hi)) | ((with_reducible refine gate_callee (f := 16) rfl ?_); refine goesL_ (some 41) rfl rfl Tryz.func16 (by kernel_rfl) rfl #[.slice A1 l1.length c1, .slice A2 l2.length c2, .slice A3 l3.length c3] rfl (by (try simp only [List.map_toArray, List.map_cons, List.map_nil]); first | done | rfl | (simp only [List.length_drop, List.length_take]; rfl)) ?_; (with_reducible refine (laws_idSmall.calls kj5 _ _ l1 _ _ l2 _ _ l3 t144 _ ?side1 ?side2 ?side3 ?side4 ?side5 ?side6 A17.out).mono ?_); (case side1 => repeat (first | exact (Kd.C_below HR1.out HB.out) | (with_reducible refine Kd.C_alloc ?_ _) | (with_reducible refine Kd.C_drewN ?_ _) | (with_reducible refine Kd.C_drew ?_))); (case side2 => exact HC1.out); (case side3 => repeat (first | exact (Kd.C_below HR2.out HB.out) | (with_reducible refine Kd.C_alloc ?_ _) | (with_reducible refine Kd.C_drewN ?_ _) | (with_reducible refine Kd.C_drew ?_))); (case side4 => exact HC2.out); (case side5 => repeat (first | exact (Kd.C_below HR3.out HB.out) | (with_reducible refine Kd.C_alloc ?_ _) | (with_reducible refine Kd.C_drewN ?_ _) | (with_reducible refine Kd.C_drew ?_))); (case side6 => exact HC3.out); rintro e w35 ⟨v145, rfl, ho0, hb⟩; refine ⟨_, rfl, ?_⟩; have n0_ := Aside0.mk (Kd.R_lower ho0 (below_size (by repeat (first | (with_reducible first | exact HB.out | apply below_alloc | apply pw_below_drewN | apply below_drew1 | refine below_set ?_ GE140.out) | exact HB.out)))); have n1_ := Aside0.mk (blk_below (g := gb140) (o := .cells #[.bool a4_0, .bool a4_1, .bool a4_2, .bool a4_3, .bool a4_4, .bool false, .bool a4_6, .int .i64 0] 34 (0, 0)) (by (with_reducible repeat (first | refine blk_drewN ?_ _ | refine blk_drew ?_ | refine blk_alloc ?_ _)); exact BK140.out) hb); have n2_ := Aside0.mk (below_step (by repeat (first | (with_reducible first | exact HB.out | apply below_alloc | apply pw_below_drewN | apply below_drew1 | refine below_set ?_ GE140.out) | exact HB.out)) hb); clear BK140; clear HB; have HO146 := n0_; have BK140 := n1_; have HB := n2_; clear n0_ n1_ n2_; (try clear hb); (try clear hb2); (try clear hk); (try clear hi); (try clear ho0)))
                have n0_ := Aside0.mk (Kd.R_drew HO146.out)
                have n1_ := Aside0.mk (blk_drew BK140.out)
                have n2_ := Aside0.mk (below_drew1 HB.out)
                clear HO146
                clear BK140
                clear HB
                have HO146 := n0_
                have BK140 := n1_
                have HB := n2_
                clear n0_ n1_ n2_
                obtain ⟨Ao37, co37, eo37⟩ := Kd.R_slice HO146.out
                (first | subst eo37 | (injection eo37 with f1_ f2_ f3_; have f4_ := f1_.symm; have f5_ := f3_.symm; clear f1_ f2_ f3_; subst f4_; subst f5_))
                refine start_ (n := 11) (S := fun w' => w'.cell? ⟨gb140, 0, none⟩ = some (.bool a4_0) ∧ w'.cell? ⟨gb140, 1, none⟩ = some (.bool a4_1) ∧ w'.cell? ⟨gb140, 2, none⟩ = some (.bool a4_2) ∧ w'.cell? ⟨gb140, 3, none⟩ = some (.bool a4_3) ∧ w'.cell? ⟨gb140, 4, none⟩ = some (.bool a4_4) ∧ w'.cell? ⟨gb140, 5, none⟩ = some (.bool false) ∧ w'.cell? ⟨gb140, 6, none⟩ = some (.bool a4_6) ∧ w'.cell? ⟨gb140, 7, none⟩ = some (.int .i64 0)) (ds := []) #[false, false, false, false, false, false, false, false, false, false, false] (by kernel_rfl) rfl rfl ⟨(blk_cell BK140.out 0).trans rfl, (blk_cell BK140.out 1).trans rfl, (blk_cell BK140.out 2).trans rfl, (blk_cell BK140.out 3).trans rfl, (blk_cell BK140.out 4).trans rfl, (blk_cell BK140.out 5).trans rfl, (blk_cell BK140.out 6).trans rfl, (blk_cell BK140.out 7).trans rfl⟩ (fun hHeld => ?_); refine with_tabW laws_FnOptionsUnseen.tab6 laws_FnOptionsUnseen.bits6 (fun HT_ HW_ => ?_)
                generalize w35.drew = w36 at HO146 BK140 HB hHeld ⊢
                refine pure_ (i := 0) (N := some 43) (v := ?_) (a' := ?_) #[true, false, false, false, false, false, false, false, false, false, false] rfl rfl (any_of HT_.out (by kernel_rfl)) (fun _ _ _ h => h) (Or.inl ⟨by rfl, ?_⟩) ?_ ?_
                rotate_left
                · intro w'
                  go_simp
                  with_reducible rfl
                rotate_left
                · simp only [Act.put, List.setIfInBounds_toArray, List.set_cons_zero, List.set_cons_succ, i64_w, i32_w]
                  rfl
                refine pure_ (i := 1) (N := some 44) (v := ?_) (a' := ?_) #[true, true, false, false, false, false, false, false, false, false, false] rfl rfl (any_of HT_.out (by kernel_rfl)) (fun _ _ _ h => h) (Or.inl ⟨by rfl, ?_⟩) ?_ ?_
                rotate_left
                · intro w'
                  go_simp
                  with_reducible rfl
                rotate_left
                · simp only [Act.put, List.setIfInBounds_toArray, List.set_cons_zero, List.set_cons_succ, i64_w, i32_w]
                  rfl
                refine take_ (i := 4) (N := some 47) (v := ?_) (a' := ?_) #[true, true, false, false, true, false, false, false, false, false, false] rfl rfl (take_ofW HT_.out HW_.out (by kernel_rfl)) (fun _ _ _ h => h) (Or.inl ⟨by rfl, ?_⟩) hHeld ?_ ?_
                rotate_left
                · rintro w' ⟨s0, s1, s2, s3, s4, s5, s6, s7⟩
                  go_simp
                  with_reducible rfl
                rotate_left
                · simp only [Act.put, List.setIfInBounds_toArray, List.set_cons_zero, List.set_cons_succ, i64_w, i32_w]
                  rfl
                refine one_ (i := 2) (N := some 45) #[true, true, true, false, true, false, false, false, false, false, false] rfl rfl (one_of HT_.out (by kernel_rfl)) (by decide) (fun K hK => ?_)
                refine goes_ Tryz.func18 (by kernel_rfl) rfl #[.string t143, .int .u64 0, .slice Ao37 t144.length co37] (by rfl) rfl rfl (by (try simp only [List.map_toArray, List.map_cons, List.map_nil]); first | done | rfl | (simp only [List.length_drop, List.length_take]; rfl)) ?_
                with_reducible refine (spec_IdSymbol.calls kj5 t143 0 _ _ t144 t147 _ ?side1 ?side2 (show DoorIs _ from ?side3) A18.out).mono ?_
                (case side1 => repeat (first | exact (Kd.R_reads' HO146.out).2.2 | (with_reducible refine Kd.C_alloc ?_ _) | (with_reducible refine Kd.C_drewN ?_ _) | (with_reducible refine Kd.C_drew ?_)))
                (case side2 => exact (Kd.R_reads' HO146.out).2.1)
                (case side3 => exact Stays.below hT_ (by first | (repeat (first | (with_reducible first | exact HB.out | apply below_alloc | apply pw_below_drewN | apply below_drew1 | refine below_set ?_ GE140.out) | exact HB.out)) | (repeat (first | exact Below.refl _ _ | apply below_drew1 | apply pw_below_drewN))))
                rintro e w38 ⟨rfl, hb⟩
                refine ⟨_, rfl, ?_⟩
                have n0_ := Aside0.mk (Kd.R_below (by (with_reducible repeat (first | apply Kd.R_alloc | apply Kd.R_drewN | apply Kd.R_drew)); exact HO146.out) hb)
                have n1_ := Aside0.mk (blk_below (g := gb140) (o := .cells #[.bool a4_0, .bool a4_1, .bool a4_2, .bool a4_3, .bool a4_4, .bool false, .bool a4_6, .int .i64 0] 34 (0, 0)) (by (with_reducible repeat (first | refine blk_drewN ?_ _ | refine blk_drew ?_ | refine blk_alloc ?_ _)); exact BK140.out) hb)
                have n2_ := Aside0.mk (below_step (by repeat (first | (with_reducible first | exact HB.out | apply below_alloc | apply pw_below_drewN | apply below_drew1 | refine below_set ?_ GE140.out) | exact HB.out)) hb)
                clear HO146
                clear BK140
                clear HB
                have HO146 := n0_
                have BK140 := n1_
                have HB := n2_
                clear n0_ n1_ n2_
                (try clear hb)
                (try clear hb2)
                (try clear hk)
                (try clear hi)
                refine hK.out _ _ ⟨(blk_cell BK140.out 0).trans rfl, (blk_cell BK140.out 1).trans rfl, (blk_cell BK140.out 2).trans rfl, (blk_cell BK140.out 3).trans rfl, (blk_cell BK140.out 4).trans rfl, (blk_cell BK140.out 5).trans rfl, (blk_cell BK140.out 6).trans rfl, (blk_cell BK140.out 7).trans rfl⟩ (fun hHeld => ?_)
                clear hK K
                refine norm_ (a' := ?_) ?_ ?_
                rotate_left
                · show Act.put _ (some 45) _ = _
                  simp only [Act.put, List.setIfInBounds_toArray, List.set_cons_zero, List.set_cons_succ, i64_w, i32_w]
                  rfl
                refine pure_ (i := 3) (N := some 46) (v := ?_) (a' := ?_) #[true, true, true, true, true, false, false, false, false, false, false] rfl rfl (any_of HT_.out (by kernel_rfl)) (fun _ _ _ h => h) (Or.inl ⟨by rfl, ?_⟩) ?_ ?_
                rotate_left
                · intro w'
                  go_simp
                  with_reducible rfl
                rotate_left
                · simp only [Act.put, List.setIfInBounds_toArray, List.set_cons_zero, List.set_cons_succ, i64_w, i32_w]
                  rfl
                refine one_ (i := 5) (N := some 48) #[true, true, true, true, true, true, false, false, false, false, false] rfl rfl (one_of HT_.out (by kernel_rfl)) (by decide) (fun K hK => ?_)
                refine goes_ Tryz.func17 (by kernel_rfl) rfl #[.string ((⟨#[95, 82]⟩ : ByteArray) ++ t147), .agg #[.bool a4_0, .bool a4_1, .bool a4_2, .bool a4_3, .bool a4_4, .bool false, .bool a4_6, .int .i64 0]] (by rfl) rfl rfl (by (try simp only [List.map_toArray, List.map_cons, List.map_nil]); first | done | rfl | (simp only [List.length_drop, List.length_take]; rfl)) ?_
                with_reducible refine (impl_Told.calls ((⟨#[95, 82]⟩ : ByteArray) ++ t147) a4_0 a4_1 a4_2 a4_3 a4_4 false a4_6 0 t148 t149 _ (show DoorIs _ from ?side1) A20.out).mono ?_
                (case side1 => exact Stays.below hT_ (by first | (repeat (first | (with_reducible first | exact HB.out | apply below_alloc | apply pw_below_drewN | apply below_drew1 | refine below_set ?_ GE140.out) | exact HB.out)) | (repeat (first | exact Below.refl _ _ | apply below_drew1 | apply pw_below_drewN))))
                rintro e w39 ⟨rfl, hb⟩
                refine ⟨_, rfl, ?_⟩
                have n0_ := Aside0.mk (Kd.R_below (by (with_reducible repeat (first | apply Kd.R_alloc | apply Kd.R_drewN | apply Kd.R_drew)); exact HO146.out) hb)
                have n1_ := Aside0.mk (blk_below (g := gb140) (o := .cells #[.bool a4_0, .bool a4_1, .bool a4_2, .bool a4_3, .bool a4_4, .bool false, .bool a4_6, .int .i64 0] 34 (0, 0)) (by (with_reducible repeat (first | refine blk_drewN ?_ _ | refine blk_drew ?_ | refine blk_alloc ?_ _)); exact BK140.out) hb)
                have n2_ := Aside0.mk (below_step (by repeat (first | (with_reducible first | exact HB.out | apply below_alloc | apply pw_below_drewN | apply below_drew1 | refine below_set ?_ GE140.out) | exact HB.out)) hb)
                clear HO146
                clear BK140
                clear HB
                have HO146 := n0_
                have BK140 := n1_
                have HB := n2_
                clear n0_ n1_ n2_
                (try clear hb)
                (try clear hb2)
                (try clear hk)
                (try clear hi)
                refine hK.out _ _ ⟨(blk_cell BK140.out 0).trans rfl, (blk_cell BK140.out 1).trans rfl, (blk_cell BK140.out 2).trans rfl, (blk_cell BK140.out 3).trans rfl, (blk_cell BK140.out 4).trans rfl, (blk_cell BK140.out 5).trans rfl, (blk_cell BK140.out 6).trans rfl, (blk_cell BK140.out 7).trans rfl⟩ (fun hHeld => ?_)
                clear hK K
                refine norm_ (a' := ?_) ?_ ?_
                rotate_left
                · show Act.put _ (some 48) _ = _
                  simp only [Act.put, List.setIfInBounds_toArray, List.set_cons_zero, List.set_cons_succ, i64_w, i32_w]
                  rfl
                refine pure_ (i := 6) (N := some 42) (v := ?_) (a' := ?_) #[true, true, true, true, true, true, true, false, false, false, false] rfl rfl (any_of HT_.out (by kernel_rfl)) (fun _ _ _ h => h) (Or.inl ⟨by rfl, ?_⟩) ?_ ?_
                rotate_left
                · intro w'
                  go_simp
                  with_reducible rfl
                rotate_left
                · simp only [Act.put, List.setIfInBounds_toArray, List.set_cons_zero, List.set_cons_succ, i64_w, i32_w]
                  rfl
                refine pure_ (i := 7) (N := some 49) (v := ?_) (a' := ?_) #[true, true, true, true, true, true, true, true, false, false, false] rfl rfl (any_of HT_.out (by kernel_rfl)) (fun _ _ _ h => h) (Or.inl ⟨by rfl, ?_⟩) ?_ ?_
                rotate_left
                · intro w'
                  go_simp
                  with_reducible rfl
                rotate_left
                · simp only [Act.put, List.setIfInBounds_toArray, List.set_cons_zero, List.set_cons_succ, i64_w, i32_w]
                  rfl
                refine pure_ (i := 8) (N := some 50) (v := ?_) (a' := ?_) #[true, true, true, true, true, true, true, true, true, false, false] rfl rfl (any_of HT_.out (by kernel_rfl)) (fun _ _ _ h => h) (Or.inl ⟨by rfl, ?_⟩) ?_ ?_
                rotate_left
                · intro w'
                  go_simp
                  with_reducible rfl
                rotate_left
                · simp only [Act.put, List.setIfInBounds_toArray, List.set_cons_zero, List.set_cons_succ, i64_w, i32_w]
                  rfl
                refine pure_ (i := 9) (N := some 13) (v := ?_) (a' := ?_) #[true, true, true, true, true, true, true, true, true, true, false] rfl rfl (any_of HT_.out (by kernel_rfl)) (fun _ _ _ h => h) (Or.inl ⟨by rfl, ?_⟩) ?_ ?_
                rotate_left
                · intro w'
                  go_simp
                  with_reducible rfl
                rotate_left
                · simp only [Act.put, List.setIfInBounds_toArray, List.set_cons_zero, List.set_cons_succ, i64_w, i32_w]
                  rfl
                refine pure_ (i := 10) (N := some 14) (v := ?_) (a' := ?_) #[true, true, true, true, true, true, true, true, true, true, true] rfl rfl (any_of HT_.out (by kernel_rfl)) (fun _ _ _ h => h) (Or.inl ⟨by rfl, ?_⟩) ?_ ?_
                rotate_left
                · intro w'
                  go_simp
                  with_reducible rfl
                rotate_left
                · simp only [Act.put, List.setIfInBounds_toArray, List.set_cons_zero, List.set_cons_succ, i64_w, i32_w]
                  rfl
                refine done_ (done_of HT_.out (by kernel_rfl)) ?_
                try go_wp2
                go_ret
                exact ⟨by first | rfl | (simp [errW_none, errW_some] <;> rfl) | (simp only [← hji13]; first | rfl | (simp [errW_none, errW_some] <;> rfl)) | (simp [*, errW_none, errW_some] <;> rfl), by repeat (first | (with_reducible first | exact HB.out | apply below_alloc | apply pw_below_drewN | apply below_drew1 | refine below_set ?_ GE140.out) | exact HB.out)⟩
            · rw [if_neg c19] at H
              exact absurd H (by simp)
          · rw [if_neg c15] at H
            exact absurd H (by simp)
        · rw [if_neg c14] at H
          exact absurd H (by simp)

/-- THE ONE PURE STATEMENT of laws_FnOptionsUnseen: yours. -/
def laws_FnOptionsUnseen.Pure : Prop := ∀ (l0 : List Int) (l1 : List (List Int)) (l2 : List Int) (l3 : List Int) (a4_0 : Bool) (a4_1 : Bool) (a4_2 : Bool) (a4_3 : Bool) (a4_4 : Bool) (a4_5 : Bool) (a4_6 : Bool) (a4_7 : Int), l0.length ≤ maxLen → l0.length * 1 ≤ 140737488351232 → (∀ x ∈ l0, (Lit.int .u8 x).wf = true) → l1.length ≤ maxLen → (∀ r ∈ l1, r.length ≤ maxLen ∧ ∀ x ∈ r, (Lit.int .u8 x).wf = true) → l2.length ≤ maxLen → l2.length * 1 ≤ 140737488351232 → (∀ x ∈ l2, (Lit.int .u8 x).wf = true) → l3.length ≤ maxLen → l3.length * 8 ≤ 140737488351232 → (∀ x ∈ l3, (Lit.int .i64 x).wf = true) → ∃ k, laws_FnOptionsUnseen.f k l0 l1 l2 l3 a4_0 a4_1 a4_2 a4_3 a4_4 a4_5 a4_6 a4_7 = some true
theorem laws_FnOptionsUnseen.walk (P : laws_FnOptionsUnseen.Pure) (a0 : Option Addr) (len0 cap0 : Nat) (z0 : List Int) (a1 : Option Addr) (cap1 : Nat) (l1 : List (List Int)) (a2 : Option Addr) (len2 cap2 : Nat) (z2 : List Int) (a3 : Option Addr) (len3 cap3 : Nat) (z3 : List Int) (a4_0 : Bool) (a4_1 : Bool) (a4_2 : Bool) (a4_3 : Bool) (a4_4 : Bool) (a4_5 : Bool) (a4_6 : Bool) (a4_7 : Int) (w : World) (hT_ : DoorIs w) (w0 : (a0 = none ∧ len0 = 0 ∧ cap0 = 0 ∧ z0 = []) ∨ ∃ x, a0 = some x ∧ len0 ≤ cap0 ∧ cap0 ≤ maxLen ∧ z0.length = cap0 ∧ (∀ i, i < z0.length → w.cell? (x.add i) = some (.int .u8 (z0.getD i 0))) ∧ ∀ n ∈ z0, (Lit.int .u8 n).wf = true) (y0 : len0 * 1 ≤ 140737488351232) (w1 : (Kd.slice 5 (Kd.int .u8)).C w a1 l1.length l1) (x1 : l1.length ≤ maxLen) (y1 : ∀ r ∈ l1, r.length ≤ maxLen ∧ ∀ x ∈ r, (Lit.int .u8 x).wf = true) (c1 : l1.length ≤ cap1) (w2 : (a2 = none ∧ len2 = 0 ∧ cap2 = 0 ∧ z2 = []) ∨ ∃ x, a2 = some x ∧ len2 ≤ cap2 ∧ cap2 ≤ maxLen ∧ z2.length = cap2 ∧ (∀ i, i < z2.length → w.cell? (x.add i) = some (.int .u8 (z2.getD i 0))) ∧ ∀ n ∈ z2, (Lit.int .u8 n).wf = true) (y2 : len2 * 1 ≤ 140737488351232) (w3 : (a3 = none ∧ len3 = 0 ∧ cap3 = 0 ∧ z3 = []) ∨ ∃ x, a3 = some x ∧ len3 ≤ cap3 ∧ cap3 ≤ maxLen ∧ z3.length = cap3 ∧ (∀ i, i < z3.length → w.cell? (x.add i) = some (.int .i64 (z3.getD i 0))) ∧ ∀ n ∈ z3, (Lit.int .i64 n).wf = true) (y3 : len3 * 8 ≤ 140737488351232) :
    Calls Tryz.prog 11 #[.slice a0 len0 cap0, .slice a1 l1.length cap1, .slice a2 len2 cap2, .slice a3 len3 cap3, .agg #[.bool a4_0, .bool a4_1, .bool a4_2, .bool a4_3, .bool a4_4, .bool a4_5, .bool a4_6, .int .i64 a4_7]] w fun e w' => e = .returned (.bool true) ∧ Below w.heap.size w w' := by
  obtain ⟨l0, rfl, hr0, hm0, hw0, hc0⟩ := ReadsInt.ofRowC w0
  obtain ⟨l2, rfl, hr2, hm2, hw2, hc2⟩ := ReadsInt.ofRowC w2
  obtain ⟨l3, rfl, hr3, hm3, hw3, hc3⟩ := ReadsInt.ofRowC w3
  obtain ⟨k, h⟩ := P l0 l1 l2 l3 a4_0 a4_1 a4_2 a4_3 a4_4 a4_5 a4_6 a4_7 hm0 y0 hw0 x1 y1 hm2 y2 hw2 hm3 y3 hw3
  refine (laws_FnOptionsUnseen.calls k _ _ l0 _ _ l1 _ _ l2 _ _ l3 a4_0 a4_1 a4_2 a4_3 a4_4 a4_5 a4_6 a4_7 true w (Kd.C_of_reads (d := (0 : Int)) (h1 := fun _ => rfl) hr0) hc0 w1 c1 (Kd.C_of_reads (d := (0 : Int)) (h1 := fun _ => rfl) hr2) hc2 (Kd.C_of_reads (d := (0 : Int)) (h1 := fun _ => rfl) hr3) hc3 hT_ h).mono ?_
  rintro e w' ⟨rfl, hd⟩
  exact ⟨rfl, hd⟩

end Go.Proofs.YtdmkdclockmjbaaGreatDoor.PFnOptionsUnseen
