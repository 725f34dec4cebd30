/- Written by a program of this session (wip/tools/myprint.py) with the kit's print: contracts of the functions that one statement reaches; functions that are proved by hand are taken as printed. Conditions: none. -/
import Derived.Test.YtdmkdclockmjbaaGreatDoorPFnBehindRefusedx0
namespace Go.Proofs.YtdmkdclockmjbaaGreatDoor.PFnBehindRefused
open Go.RowKit Go.Proofs.YtdmkdclockmjbaaGreatDoorW.PrintWords Go.Proofs.YtdmkdclockmjbaaGreatDoorW.PrintLast Go.Proofs.YtdmkdclockmjbaaGreatDoorW.PrintMore
attribute [local go_sem] max2_int min2_int max_two min_two max_three min_three max_four min_four   -- for this text's walks alone
set_option linter.unusedVariables false
set_option linter.unusedSimpArgs false

/-! ### laws_zzFits1: function 13 -/
def laws_zzFits1.l0 : Nat → List (List Int) → Int → Int → Option (Bool)
  | 0, _, _, _ => none
  | k + 1, x8, x9, x10 => if x10 < x9 then (if 0 ≤ x10 then (if x10 < (x8.length : Int) then (if ((rd_L1 x8 x10).length : Int) > 2147483647 then (some false) else (laws_zzFits1.l0 k x8 x9 (wrap64 (x10 + 1)))) else (none)) else (none)) else (some true)
def laws_zzFits1.f (k : Nat) (l0 : List (List Int)) : Option (Bool) := if (l0.length : Int) > 2147483647 then (some false) else (laws_zzFits1.l0 k l0 (l0.length : Int) 0)
theorem laws_zzFits1.mono_l : ∀ k, (∀ y0 y1 y2, LeO (laws_zzFits1.l0 k y0 y1 y2) (laws_zzFits1.l0 (k + 1) y0 y1 y2))
  | 0 => fun _ _ _ r h => by simp [laws_zzFits1.l0] at h
  | k + 1 => by
    have ih0 := laws_zzFits1.mono_l k
    · intro y0 y1 y2
      unfold laws_zzFits1.l0
      repeat' first
      | (with_reducible exact ih0 _ _ _)
      | (with_reducible exact LeO.refl _)
      | (with_reducible exact LeO.none _)
      | (with_reducible refine LeO.ite ?_ ?_)
      | (with_reducible refine LeO.bind ?_ (fun _ => ?_))
      | exact ih0 _ _ _
      | exact LeO.none _
      | refine LeO.ite ?_ ?_
      | refine LeO.bind ?_ (fun _ => ?_)
theorem laws_zzFits1.mono : ∀ a0 k, LeO (laws_zzFits1.f k a0) (laws_zzFits1.f (k + 1) a0) := by
  intro a0 k
  have ih0 := laws_zzFits1.mono_l k
  unfold laws_zzFits1.f
  repeat' first
      | (with_reducible exact ih0 _ _ _)
      | (with_reducible exact LeO.refl _)
      | (with_reducible exact LeO.none _)
      | (with_reducible refine LeO.ite ?_ ?_)
      | (with_reducible refine LeO.bind ?_ (fun _ => ?_))
      | exact ih0 _ _ _
      | exact LeO.none _
      | refine LeO.ite ?_ ?_
      | refine LeO.bind ?_ (fun _ => ?_)
set_option maxHeartbeats 8000000 in
set_option maxRecDepth 100000 in
theorem laws_zzFits1.calls (k : Nat) (A0 : Option Addr) (c0 : Nat) (l0 : List (List Int)) (r : Bool) (w : World) (hr0 : Kd.C (Kd.slice 5 (Kd.int .u8)) w A0 l0.length l0) (hc0 : l0.length ≤ c0) (h : laws_zzFits1.f k l0 = some r) :
    Calls Tryz.prog 13 #[.slice A0 l0.length c0] w fun e w' => e = .returned (.bool r) ∧ Drawn0 w w' := by
  have HR0 := Aside0.mk hr0
  have HC0 := Aside0.mk hc0
  clear hr0 hc0
  have H : (if (l0.length : Int) > 2147483647 then (some false) else (laws_zzFits1.l0 k l0 (l0.length : Int) 0)) = some r := h
  clear h
  by_cases c2 : (l0.length : Int) > 2147483647
  · rw [if_pos c2] at H
    have c2b0 : decide (2147483647 < (l0.length : Int)) = true := decide_eq_true c2
    have c2b1 : decide (2147483647 < l0.length) = true := decide_eq_true (by omega)
    clear c2
    obtain rfl := Option.some.inj H
    go_enter Tryz.func13, Tryz.ntmps13
    go_wp2
    go_ret
    exact ⟨by first | rfl | (simp; done) | (simp [*]; done), by repeat (first | exact Drawn0.refl _ | apply Drawn0.step)⟩
  · rw [if_neg c2] at H
    have c2b0 : decide (2147483647 < (l0.length : Int)) = false := decide_eq_false c2
    have c2b1 : decide (2147483647 < l0.length) = false := decide_eq_false (by omega)
    clear c2
    have H' := Aside0.mk H
    clear H
    go_enter Tryz.func13, Tryz.ntmps13
    go_wp2
    go_loopg [10] k (fun kq v10 w' => ∃ (x10_1 : Int), v10 = .int .i64 x10_1 ∧ Aside0 (laws_zzFits1.l0 kq l0 (l0.length : Int) x10_1 = some r) ∧ Aside0 (kq ≤ k) ∧ Drawn0 w w')
    case atStart => exact ⟨(0), (by first | rfl | (simp; done) | (simp [*]; done)), H', ⟨Nat.le_refl _⟩, by repeat (first | exact Drawn0.refl _ | apply Drawn0.step)⟩
    case round =>
      clear H'
      try clear c1
      try clear c2
      try clear c2b0
      try clear c2b1
      try clear p2
      obtain ⟨x10_1, rfl, HA, HK1, ⟨m1, rfl⟩⟩ := hrel
      cases gk with
      | zero => exact absurd HA.out (by simp [laws_zzFits1.l0])
      | succ k1 =>
        have H := HA.out
        clear HA
        simp only [laws_zzFits1.l0] at H
        by_cases c3 : x10_1 < (l0.length : Int)
        · rw [if_pos c3] at H
          have c3b0 : decide (x10_1 < (l0.length : Int)) = true := decide_eq_true c3
          clear c3
          by_cases c4 : 0 ≤ x10_1
          · rw [if_pos c4] at H
            have c4b0 : decide (0 ≤ x10_1) = true := decide_eq_true c4
            clear c4
            by_cases c5 : x10_1 < (l0.length : Int)
            · rw [if_pos c5] at H
              have c5b0 : decide (x10_1 < (l0.length : Int)) = true := decide_eq_true c5
              clear c5
              by_cases c6 : ((rd_L1 l0 x10_1).length : Int) > 2147483647
              · rw [if_pos c6] at H
                have c6b0 : decide (2147483647 < ((rd_L1 l0 x10_1).length : Int)) = true := decide_eq_true c6
                have c6b1 : decide (2147483647 < (rd_L1 l0 x10_1).length) = true := decide_eq_true (by omega)
                clear c6
                obtain rfl := Option.some.inj H
                have p101 : 0 ≤ (x10_1 : Int) := of_decide_eq_true (by first | (with_reducible assumption) | assumption)
                have q101 : x10_1 < (l0.length : Int) := of_decide_eq_true (by first | (with_reducible assumption) | assumption)
                obtain ⟨ad101, A101_0, c101_0, e101, hx101_0, hl101_0, hi101_0⟩ := at_L1 HR0.out x10_1 p101 q101
                cases e101
                have HR101_0 := Aside0.mk hi101_0
                have HC101_0 := Aside0.mk hl101_0
                clear hi101_0 hl101_0
                replace p101 := eq_true p101
                replace q101 := eq_true q101
                go_wp2
                go_ret
                exact ⟨by first | rfl | (simp; done) | (simp [*]; done), by repeat (first | exact Drawn0.refl _ | apply Drawn0.step)⟩
              · rw [if_neg c6] at H
                have c6b0 : decide (2147483647 < ((rd_L1 l0 x10_1).length : Int)) = false := decide_eq_false c6
                have c6b1 : decide (2147483647 < (rd_L1 l0 x10_1).length) = false := decide_eq_false (by omega)
                clear c6
                have H' := Aside0.mk H
                clear H
                have p101 : 0 ≤ (x10_1 : Int) := of_decide_eq_true (by first | (with_reducible assumption) | assumption)
                have q101 : x10_1 < (l0.length : Int) := of_decide_eq_true (by first | (with_reducible assumption) | assumption)
                obtain ⟨ad101, A101_0, c101_0, e101, hx101_0, hl101_0, hi101_0⟩ := at_L1 HR0.out x10_1 p101 q101
                cases e101
                have HR101_0 := Aside0.mk hi101_0
                have HC101_0 := Aside0.mk hl101_0
                clear hi101_0 hl101_0
                replace p101 := eq_true p101
                replace q101 := eq_true q101
                go_wp2
                go_roundg k1
                case measure => have := HK1.out; omega
                case rel => exact ⟨(wrap64 (x10_1 + 1)), (by first | rfl | (simp; done) | (simp [*]; done)), H', ⟨by have := HK1.out; omega⟩, by repeat (first | exact Drawn0.refl _ | apply Drawn0.step)⟩
            · rw [if_neg c5] at H
              exact absurd H (by simp)
          · rw [if_neg c4] at H
            exact absurd H (by simp)
        · rw [if_neg c3] at H
          have c3b0 : decide (x10_1 < (l0.length : Int)) = false := decide_eq_false c3
          clear c3
          obtain rfl := Option.some.inj H
          go_wp2
          go_ret
          exact ⟨by first | rfl | (simp; done) | (simp [*]; done), by repeat (first | exact Drawn0.refl _ | apply Drawn0.step)⟩

/-! ### spec_AnPlain: function 14 -/
def spec_AnPlain.l0 : Nat → List Int → List Int → Int → Int → Option (ByteArray)
  | 0, _, _, _, _ => none
  | k + 1, x3, x12, x13, x14 => if x14 < x13 then (if 0 ≤ x14 then (if x14 < (x12.length : Int) then (if 0 ≤ (Int.tmod (wrap64 (rd x12 x14)) 63) then (if (Int.tmod (wrap64 (rd x12 x14)) 63) < 63 then (if x14 < (x3.length : Int) then (spec_AnPlain.l0 k (x3.set (x14 : Int).toNat (bt (⟨#[97, 98, 99, 100, 101, 102, 103, 104, 105, 106, 107, 108, 109, 110, 111, 112, 113, 114, 115, 116, 117, 118, 119, 120, 121, 122, 65, 66, 67, 68, 69, 70, 71, 72, 73, 74, 75, 76, 77, 78, 79, 80, 81, 82, 83, 84, 85, 86, 87, 88, 89, 90, 48, 49, 50, 51, 52, 53, 54, 55, 56, 57, 95]⟩ : ByteArray) (Int.tmod (wrap64 (rd x12 x14)) 63))) x12 x13 (wrap64 (x14 + 1))) else (none)) else (none)) else (none)) else (none)) else (none)) else (some (strOfNums x3))
def spec_AnPlain.f (k : Nat) (l0 : List Int) : Option (ByteArray) := if (l0.length : Int) = 0 then (some (⟨#[97]⟩ : ByteArray)) else (if 0 ≤ (l0.length : Int) then (if ((l0.length : Int) : Int).toNat ≤ 281474976710656 then (spec_AnPlain.l0 k (List.replicate ((l0.length : Int) : Int).toNat 0) l0 (l0.length : Int) 0) else (none)) else (none))
theorem spec_AnPlain.mono_l : ∀ k, (∀ y0 y1 y2 y3, LeO (spec_AnPlain.l0 k y0 y1 y2 y3) (spec_AnPlain.l0 (k + 1) y0 y1 y2 y3))
  | 0 => fun _ _ _ _ r h => by simp [spec_AnPlain.l0] at h
  | k + 1 => by
    have ih0 := spec_AnPlain.mono_l k
    · intro y0 y1 y2 y3
      unfold spec_AnPlain.l0
      repeat' first
      | (with_reducible exact ih0 _ _ _ _)
      | (with_reducible exact LeO.refl _)
      | (with_reducible exact LeO.none _)
      | (with_reducible refine LeO.ite ?_ ?_)
      | (with_reducible refine LeO.bind ?_ (fun _ => ?_))
      | exact ih0 _ _ _ _
      | exact LeO.none _
      | refine LeO.ite ?_ ?_
      | refine LeO.bind ?_ (fun _ => ?_)
theorem spec_AnPlain.mono : ∀ a0 k, LeO (spec_AnPlain.f k a0) (spec_AnPlain.f (k + 1) a0) := by
  intro a0 k
  have ih0 := spec_AnPlain.mono_l k
  unfold spec_AnPlain.f
  repeat' first
      | (with_reducible exact ih0 _ _ _ _)
      | (with_reducible exact LeO.refl _)
      | (with_reducible exact LeO.none _)
      | (with_reducible refine LeO.ite ?_ ?_)
      | (with_reducible refine LeO.bind ?_ (fun _ => ?_))
      | exact ih0 _ _ _ _
      | exact LeO.none _
      | refine LeO.ite ?_ ?_
      | refine LeO.bind ?_ (fun _ => ?_)
set_option maxHeartbeats 8000000 in
set_option maxRecDepth 100000 in
theorem spec_AnPlain.calls (k : Nat) (A0 : Option Addr) (c0 : Nat) (l0 : List Int) (r : ByteArray) (w : World) (hr0 : Kd.C (Kd.int .u8) w A0 l0.length l0) (hc0 : l0.length ≤ c0) (h : spec_AnPlain.f k l0 = some r) :
    Calls Tryz.prog 14 #[.slice A0 l0.length c0] w fun e w' => e = .returned (.string r) ∧ Below w.heap.size w w' := by
  have HR0 := Aside0.mk hr0
  have HC0 := Aside0.mk hc0
  clear hr0 hc0
  have HB := Aside0.mk (Below.refl w.heap.size w)
  have H : (if (l0.length : Int) = 0 then (some (⟨#[97]⟩ : ByteArray)) else (if 0 ≤ (l0.length : Int) then (if ((l0.length : Int) : Int).toNat ≤ 281474976710656 then (spec_AnPlain.l0 k (List.replicate ((l0.length : Int) : Int).toNat 0) l0 (l0.length : Int) 0) else (none)) else (none))) = some r := h
  clear h
  by_cases c2 : (l0.length : Int) = 0
  · rw [if_pos c2] at H
    have c2b0 : ((l0.length : Int) == 0) = true := beq_iff_eq.mpr c2
    have c2b1 : ((l0.length : Int) != 0) = false := bne_eq_false_iff_eq.mpr c2
    clear c2
    obtain rfl := Option.some.inj H
    go_enter Tryz.func14, Tryz.ntmps14
    go_wp2
    go_ret
    exact ⟨by first | rfl | (simp [errW_none, errW_some] <;> rfl) | (simp [*, errW_none, errW_some] <;> rfl), by repeat (first | (with_reducible first | exact HB.out | apply below_alloc | apply pw_below_drewN | apply below_drew1) | exact HB.out)⟩
  · rw [if_neg c2] at H
    have c2b0 : ((l0.length : Int) == 0) = false := beq_eq_false_iff_ne.mpr c2
    have c2b1 : ((l0.length : Int) != 0) = true := bne_iff_ne.mpr c2
    have c2b2 : ¬ (l0 = []) := fun h_ => c2 (by rw [h_]; rfl)
    by_cases c3 : 0 ≤ (l0.length : Int)
    · rw [if_pos c3] at H
      have c3b0 := eq_true c3
      have c3b1 : decide (0 ≤ (l0.length : Int)) = true := decide_eq_true c3
      clear c3
      by_cases c4 : ((l0.length : Int) : Int).toNat ≤ 281474976710656
      · rw [if_pos c4] at H
        have c4b0 := eq_true c4
        have c4b1 : decide (((l0.length : Int) : Int).toNat ≤ 281474976710656) = true := decide_eq_true c4
        clear c4
        obtain ⟨y102, hy102⟩ : ∃ y_ : List Int, y_ = (List.replicate ((l0.length : Int) : Int).toNat 0) := ⟨_, rfl⟩
        replace H : (spec_AnPlain.l0 k y102 l0 (l0.length : Int) 0) = some r := by first | (rw [hy102]; with_reducible exact H) | (have H2_ := (Option.bind_some _ _).symm.trans H; rw [hy102]; with_reducible exact H2_) | (have H2_ := (Option.bind_some _ _).symm.trans H; with_reducible exact H2_) | with_reducible exact H | (rw [hy102]; exact H) | exact H
        have Ny102 := Aside0.mk hy102
        clear hy102
        have H' := Aside0.mk H
        clear H
        go_enter Tryz.func14, Tryz.ntmps14
        go_wp2_with (first | (go_at_call 15; refine (idCut_at _ _ _ _ _ _ (by assumption) (by assumption)).mono ?_; rintro e w_ ⟨rfl, rfl⟩) | ((with_reducible refine gate_dst (N := 11) rfl ?_); refine Kd.R_make (Kd.int .u8) _ 5 rfl (N := 11) rfl 22 _ _ rfl (l0.length : Int) rfl rfl Tryz.underlying22 (.int .u8 0) 1 info5 rfl (by decide) (by omega) 0 (ok := fun _ => True) (okp := fun _ => True) rfl (fun _ hk => hk) trivial (of_decide_eq_true (by first | (with_reducible assumption) | assumption)) (Nat.le_trans (Nat.mul_le_mul_right _ (of_decide_eq_true (by first | (with_reducible assumption) | assumption) : (l0.length : Int).toNat ≤ 281474976710656)) (by omega)) (Below.refl _ _) (Nat.le_refl _) ?_; intro v103 w5 ho6 hb hg_ hnew_; clear hg_ hnew_; (first | rw [← Ny102.out] at ho6 | (simp only [Int.reduceToNat] at ho6; rw [← Ny102.out] at ho6)); have n0_ := Aside0.mk (Kd.R_lower ho6 (below_size (by repeat (first | (with_reducible first | exact HB.out | apply below_alloc | apply pw_below_drewN | apply below_drew1) | exact HB.out)))); have n1_ := Aside0.mk (below_step (by repeat (first | (with_reducible first | exact HB.out | apply below_alloc | apply pw_below_drewN | apply below_drew1) | exact HB.out)) hb); clear HB; have HO104 := n0_; have HB := n1_; clear n0_ n1_; clear hb ho6))
        go_loopg [14] k (fun kq v14 w' => ∃ (x3_1 : List Int) (x14_1 : Int), v14 = .int .i64 x14_1 ∧ Aside0 (spec_AnPlain.l0 kq x3_1 l0 (l0.length : Int) x14_1 = some r) ∧ Aside0 (kq ≤ k) ∧ Aside0 (Kd.R (Kd.int .u8) 5 w' w.heap.size (fun _ => True) v103 x3_1) ∧ Aside0 (Below w.heap.size w w'))
        case atStart => exact ⟨(y102), (0), (by first | rfl | (simp; done) | (simp [*]; done)), H', ⟨Nat.le_refl _⟩, ⟨by (with_reducible repeat (first | apply Kd.R_alloc | apply Kd.R_drewN | apply Kd.R_drew)); exact HO104.out⟩, ⟨by repeat (first | (with_reducible first | exact HB.out | apply below_alloc | apply pw_below_drewN | apply below_drew1) | exact HB.out)⟩⟩
        case round =>
          clear H'
          try clear c1
          try clear c2
          try clear c2b0
          try clear c2b1
          try clear c2b2
          try clear p2
          try clear c3
          try clear c3b0
          try clear c3b1
          try clear c4
          try clear c4b0
          try clear c4b1
          obtain ⟨x3_1, x14_1, rfl, HA, HK1, HO_3, HB⟩ := hrel
          cases gk with
          | zero => exact absurd HA.out (by simp [spec_AnPlain.l0])
          | succ k1 =>
            have H := HA.out
            clear HA
            simp only [spec_AnPlain.l0] at H
            by_cases c7 : x14_1 < (l0.length : Int)
            · rw [if_pos c7] at H
              have c7b0 : decide (x14_1 < (l0.length : Int)) = true := decide_eq_true c7
              clear c7
              by_cases c8 : 0 ≤ x14_1
              · rw [if_pos c8] at H
                have c8b0 : decide (0 ≤ x14_1) = true := decide_eq_true c8
                clear c8
                by_cases c9 : x14_1 < (l0.length : Int)
                · rw [if_pos c9] at H
                  have c9b0 : decide (x14_1 < (l0.length : Int)) = true := decide_eq_true c9
                  clear c9
                  obtain ⟨ji10, hji10⟩ : ∃ j_ : Int, (Int.tmod (wrap64 (rd l0 x14_1)) 63) = j_ := ⟨_, rfl⟩
                  replace H : (if 0 ≤ (ji10) then (if (ji10) < 63 then (if x14_1 < (x3_1.length : Int) then (spec_AnPlain.l0 k1 (x3_1.set (x14_1 : Int).toNat (bt (⟨#[97, 98, 99, 100, 101, 102, 103, 104, 105, 106, 107, 108, 109, 110, 111, 112, 113, 114, 115, 116, 117, 118, 119, 120, 121, 122, 65, 66, 67, 68, 69, 70, 71, 72, 73, 74, 75, 76, 77, 78, 79, 80, 81, 82, 83, 84, 85, 86, 87, 88, 89, 90, 48, 49, 50, 51, 52, 53, 54, 55, 56, 57, 95]⟩ : ByteArray) (ji10))) l0 (l0.length : Int) (wrap64 (x14_1 + 1))) else (none)) else (none)) else (none)) = some r := by first | (rw [hji10] at H; exact H) | (simp only [hji10] at H ⊢; exact H)
                  by_cases c11 : 0 ≤ (ji10)
                  · rw [if_pos c11] at H
                    have c11b0 : decide (0 ≤ (ji10)) = true := decide_eq_true c11
                    clear c11
                    by_cases c12 : (ji10) < 63
                    · rw [if_pos c12] at H
                      have c12b0 : decide ((ji10) < 63) = true := decide_eq_true c12
                      clear c12
                      by_cases c14 : x14_1 < (x3_1.length : Int)
                      · rw [if_pos c14] at H
                        have c14b0 : decide (x14_1 < (x3_1.length : Int)) = true := decide_eq_true c14
                        clear c14
                        obtain ⟨y106, hy106⟩ : ∃ y_ : List Int, y_ = (x3_1.set (x14_1 : Int).toNat (bt (⟨#[97, 98, 99, 100, 101, 102, 103, 104, 105, 106, 107, 108, 109, 110, 111, 112, 113, 114, 115, 116, 117, 118, 119, 120, 121, 122, 65, 66, 67, 68, 69, 70, 71, 72, 73, 74, 75, 76, 77, 78, 79, 80, 81, 82, 83, 84, 85, 86, 87, 88, 89, 90, 48, 49, 50, 51, 52, 53, 54, 55, 56, 57, 95]⟩ : ByteArray) (ji10))) := ⟨_, rfl⟩
                        replace H : (spec_AnPlain.l0 k1 y106 l0 (l0.length : Int) (wrap64 (x14_1 + 1))) = some r := by first | (rw [hy106]; with_reducible exact H) | (have H2_ := (Option.bind_some _ _).symm.trans H; rw [hy106]; with_reducible exact H2_) | (have H2_ := (Option.bind_some _ _).symm.trans H; with_reducible exact H2_) | with_reducible exact H | (rw [hy106]; exact H) | exact H
                        have Ny106 := Aside0.mk hy106
                        clear hy106
                        have H' := Aside0.mk H
                        clear H
                        have p105 : 0 ≤ (x14_1 : Int) := of_decide_eq_true (by first | (with_reducible assumption) | assumption)
                        have q105 : x14_1 < (l0.length : Int) := of_decide_eq_true (by first | (with_reducible assumption) | assumption)
                        obtain ⟨ad105, e105, hx105_0⟩ := Kd.at_int HR0.out x14_1 p105 q105
                        cases e105
                        replace hx105_0 := (HB.out.cell (World.block_lt_of_cell? w _ hx105_0)).trans hx105_0
                        replace p105 := eq_true p105
                        replace q105 := eq_true q105
                        have p13 : 0 ≤ ((ji10) : Int) := of_decide_eq_true (by first | (with_reducible assumption) | assumption)
                        have q13 : (ji10) < (63 : Int) := of_decide_eq_true (by first | (with_reducible assumption) | assumption)
                        have hx13 := bt_at (⟨#[97, 98, 99, 100, 101, 102, 103, 104, 105, 106, 107, 108, 109, 110, 111, 112, 113, 114, 115, 116, 117, 118, 119, 120, 121, 122, 65, 66, 67, 68, 69, 70, 71, 72, 73, 74, 75, 76, 77, 78, 79, 80, 81, 82, 83, 84, 85, 86, 87, 88, 89, 90, 48, 49, 50, 51, 52, 53, 54, 55, 56, 57, 95]⟩ : ByteArray) (ji10)
                        replace p13 := eq_true p13
                        replace q13 := eq_true q13
                        have p15 : 0 ≤ (x14_1 : Int) := of_decide_eq_true (by first | (with_reducible assumption) | assumption)
                        have q15 : (x14_1 : Int) < ((x3_1.length : Int) : Int) := of_decide_eq_true (by first | (with_reducible assumption) | assumption)
                        obtain ⟨go15, co15, eo15, gb15, gl15, cl15, HG15⟩ := Kd.R_form HO_3.out (by omega)
                        (first | cases eo15 | (injection eo15 with ea_ en_ ec_; (first | subst ea_ | (injection ea_ with ea_; subst ea_)); subst ec_; clear en_))
                        have GB15 := Aside0.mk gb15
                        have GG15 := Aside0.mk HG15
                        clear gb15 gl15 HG15
                        obtain ⟨hx15_0, hf15_0⟩ := Kd.R_celln 0 HO_3.out (x14_1 : Int) p15 q15
                        replace p15 := eq_true p15
                        replace q15 := eq_true q15
                        have HP16 := Kd.R_putg HO_3.out (x14_1 : Int) (bt (⟨#[97, 98, 99, 100, 101, 102, 103, 104, 105, 106, 107, 108, 109, 110, 111, 112, 113, 114, 115, 116, 117, 118, 119, 120, 121, 122, 65, 66, 67, 68, 69, 70, 71, 72, 73, 74, 75, 76, 77, 78, 79, 80, 81, 82, 83, 84, 85, 86, 87, 88, 89, 90, 48, 49, 50, 51, 52, 53, 54, 55, 56, 57, 95]⟩ : ByteArray) (ji10))
                        go_wp2_with (first | (go_at_call 15; refine (idCut_at _ _ _ _ _ _ (by assumption) (by assumption)).mono ?_; rintro e w_ ⟨rfl, rfl⟩) | ((with_reducible refine gate_store (t := 5) (p := 25) rfl ?_); refine store_event (t := 5) (p := 25) (v := ?vo_w17) (w1 := (wr.setCell ⟨go15, (x14_1 : Int).toNat, none⟩ (.int .u8 (bt (⟨#[97, 98, 99, 100, 101, 102, 103, 104, 105, 106, 107, 108, 109, 110, 111, 112, 113, 114, 115, 116, 117, 118, 119, 120, 121, 122, 65, 66, 67, 68, 69, 70, 71, 72, 73, 74, 75, 76, 77, 78, 79, 80, 81, 82, 83, 84, 85, 86, 87, 88, 89, 90, 48, 49, 50, 51, 52, 53, 54, 55, 56, 57, 95]⟩ : ByteArray) (ji10))))) ?hg ?ho ?hn ?hr ?_; (case ho => rfl); (case hg => rfl); (case hn => rfl); (case hr => first | (go_simp; done) | (go_simp; rfl)); intro w17 hw; have hg : wr.grownBy w17 (some go15) := (by rw [hw]; exact HP16.2); have hp_ : Kd.R (Kd.int .u8) 5 w17 w.heap.size (fun _ => True) (.slice (some ⟨go15, 0, none⟩) x3_1.length co15) y106 := (by rw [hw, Ny106.out]; exact HP16.1); clear HP16; have n0_ := Aside0.mk (hp_); have n1_ := Aside0.mk ((by rw [hw]; exact below_set (HB.out) GB15.out : Below w.heap.size w w17)); clear HO_3; clear HB; have HO_3 := n0_; have HB := n1_; clear n0_ n1_; clear hg hw hp_))
                        go_roundg k1
                        case measure => have := HK1.out; omega
                        case rel => exact ⟨(y106), (wrap64 (x14_1 + 1)), (by first | rfl | (simp; done) | (simp [*]; done)), H', ⟨by have := HK1.out; omega⟩, ⟨by (with_reducible repeat (first | apply Kd.R_alloc | apply Kd.R_drewN | apply Kd.R_drew)); exact HO_3.out⟩, ⟨by repeat (first | (with_reducible first | exact HB.out | apply below_alloc | apply pw_below_drewN | apply below_drew1) | exact HB.out)⟩⟩
                      · rw [if_neg c14] at H
                        exact absurd H (by simp)
                    · rw [if_neg c12] at H
                      exact absurd H (by simp)
                  · rw [if_neg c11] at H
                    exact absurd H (by simp)
                · rw [if_neg c9] at H
                  exact absurd H (by simp)
              · rw [if_neg c8] at H
                exact absurd H (by simp)
            · rw [if_neg c7] at H
              have c7b0 : decide (x14_1 < (l0.length : Int)) = false := decide_eq_false c7
              clear c7
              obtain rfl := Option.some.inj H
              have hcv18 := own_string (P := Tryz.prog) Tryz.underlying22 Tryz.underlying5 Tryz.underlying9 (Kd.own_of_R HO_3.out)
              go_wp2
              go_ret
              exact ⟨by first | rfl | (simp [errW_none, errW_some] <;> rfl) | (simp [*, errW_none, errW_some] <;> rfl), by repeat (first | (with_reducible first | exact HB.out | apply below_alloc | apply pw_below_drewN | apply below_drew1) | exact HB.out)⟩
      · rw [if_neg c4] at H
        exact absurd H (by simp)
    · rw [if_neg c3] at H
      exact absurd H (by simp)

/-! ### laws_idCut: function 15 -/
def laws_idCut.f (l0 : List Int) : Option (List Int) := if 0 ≤ (mn (l0.length : Int) 1000) then (if (mn (l0.length : Int) 1000) ≤ (l0.length : Int) then (some (l0.take ((mn (l0.length : Int) 1000) : Int).toNat)) else (none)) else (none)
set_option maxHeartbeats 8000000 in
set_option maxRecDepth 100000 in
theorem laws_idCut.calls (P0_ : Nat → Prop) (u9000_ : Value) (l0 : List Int) (r : List Int) (w0 w : World) (hB : Below w0.heap.size w0 w) (ho0 : Kd.R (Kd.int .u8) 5 w w0.heap.size P0_ u9000_ l0) (h : laws_idCut.f l0 = some r) :
    Calls Tryz.prog 15 #[u9000_] w fun e w' => ∃ v0_ : Value, e = .returned (v0_) ∧ Kd.R (Kd.int .u8) 5 w' w0.heap.size (fun k_ => (P0_ k_ ∨ w.heap.size ≤ k_)) v0_ r ∧ Below w0.heap.size w0 w' ∧ Kept w w' (fun k_ => P0_ k_) := by
  have HO0 := Aside0.mk (show Kd.R (Kd.int .u8) 5 w w0.heap.size (fun k_ => (P0_ k_ ∨ w.heap.size ≤ k_)) u9000_ l0 from Kd.R_mono ho0 (fun k_ hk => (.inl hk)))
  have HK := Aside0.mk (Kept.refl w (fun k_ => P0_ k_))
  have HW0 := Aside0.mk hB.size
  have HB := Aside0.mk hB
  clear hB
  have H : (if 0 ≤ (mn (l0.length : Int) 1000) then (if (mn (l0.length : Int) 1000) ≤ (l0.length : Int) then (some (l0.take ((mn (l0.length : Int) 1000) : Int).toNat)) else (none)) else (none)) = some r := h
  clear h
  obtain ⟨ji2, hji2⟩ : ∃ j_ : Int, (mn (l0.length : Int) 1000) = j_ := ⟨_, rfl⟩
  replace H : (if 0 ≤ (ji2) then (if (ji2) ≤ (l0.length : Int) then (some (l0.take ((ji2) : Int).toNat)) else (none)) else (none)) = some r := by first | (rw [hji2] at H; exact H) | (simp only [hji2] at H ⊢; exact H)
  (try (have hji2h : ji2 ≤ 1000 := by (rw [← hji2]; unfold mn; (repeat' split) <;> omega)))
  (try (have hji2g : ji2 ≤ 64 := by omega))
  (try (have hji2l : 0 ≤ ji2 := by (rw [← hji2]; unfold mn; (repeat' split) <;> omega)))
  (try (have hji2m : 0 ≤ ji2 := by omega))
  have hji2_ : (if 1000 < (l0.length : Int) then 1000 else (l0.length : Int)) = ji2 := hji2
  by_cases c3 : 0 ≤ (ji2)
  · rw [if_pos c3] at H
    have c3b0 := eq_true c3
    have c3b1 : decide (0 ≤ (ji2)) = true := decide_eq_true c3
    clear c3
    by_cases c4 : (ji2) ≤ (l0.length : Int)
    · rw [if_pos c4] at H
      have c4b0 := eq_true c4
      have c4b1 : decide ((ji2) ≤ (l0.length : Int)) = true := decide_eq_true c4
      clear c4
      obtain ⟨y107, hy107⟩ : ∃ y_ : List Int, y_ = (l0.take ((ji2) : Int).toNat) := ⟨_, rfl⟩
      replace H : (some y107) = some r := by first | (rw [hy107]; with_reducible exact H) | (have H2_ := (Option.bind_some _ _).symm.trans H; rw [hy107]; with_reducible exact H2_) | (have H2_ := (Option.bind_some _ _).symm.trans H; with_reducible exact H2_) | with_reducible exact H | (rw [hy107]; exact H) | exact H
      have Ny107 := Aside0.mk hy107
      clear hy107
      obtain rfl := Option.some.inj H
      obtain ⟨Ao5, co5, eo5⟩ := Kd.R_slice HO0.out
      subst eo5
      have q6 : ((ji2) : Int) ≤ ((l0.length : Int) : Int) := of_decide_eq_true (by first | (with_reducible assumption) | assumption)
      obtain ⟨i06, hi06, _, hsz6, _⟩ := info_parts info5
      have hcut6 := cut_to (P := Tryz.prog) 22 5 .i64 Tryz.underlying22 hi06 Ao5 l0.length co5 (ji2) (of_decide_eq_true (by first | (with_reducible assumption) | assumption)) q6 (Kd.R_reads' HO0.out).2.1
      have hr6 := Kd.R_take (m := ((ji2) : Int).toNat) HO0.out (by omega)
      have hy6 : y107.length = ((ji2) : Int).toNat := (by rw [Ny107.out, List.length_take]; omega)
      rw [← Ny107.out] at hr6
      rw [← hy6] at hr6 hcut6
      clear hy6 hi06 hsz6 HO0
      have HO109 := Aside0.mk hr6
      clear hr6
      replace q6 := eq_true q6
      go_enter Tryz.func15, Tryz.ntmps15
      go_wp2
      go_ret
      exact ⟨_, by first | rfl | (simp [errW_none, errW_some] <;> rfl) | (simp only [← hji2]; first | rfl | (simp [errW_none, errW_some] <;> rfl)) | (simp [*, errW_none, errW_some] <;> rfl), by (with_reducible repeat (first | apply Kd.R_alloc | apply Kd.R_drewN | apply Kd.R_drew)); exact HO109.out, by repeat (first | (with_reducible first | exact HB.out | apply below_alloc | apply pw_below_drewN | apply below_drew1) | exact HB.out), by repeat (first | (with_reducible first | exact HK.out | apply Kept.alloc | apply Kept.drewN | apply Kept.drew) | exact HK.out)⟩
    · rw [if_neg c4] at H
      exact absurd H (by simp)
  · rw [if_neg c3] at H
    exact absurd H (by simp)

/-! ### laws_idSpace: function 29 -/
def laws_idSpace.f (l0 : List Int) (a1 : Int) (a2 : Int) : Option (Int) := if (l0.length : Int) = 0 then (some ((a2 + 2) % 256)) else (if 0 ≤ (Int.tmod a1 (l0.length : Int)) then (if (Int.tmod a1 (l0.length : Int)) < (l0.length : Int) then (some ((a2 + (Int.tmod (rd l0 (Int.tmod a1 (l0.length : Int))) 26)) % 256)) else (none)) else (none))
set_option maxHeartbeats 8000000 in
set_option maxRecDepth 100000 in
theorem laws_idSpace.calls (A0 : Option Addr) (c0 : Nat) (l0 : List Int) (a1 : Int) (a2 : Int) (r : Int) (w : World) (hr0 : Kd.C (Kd.int .u8) w A0 l0.length l0) (hc0 : l0.length ≤ c0) (h : laws_idSpace.f l0 a1 a2 = some r) :
    Calls Tryz.prog 29 #[.slice A0 l0.length c0, .int .i64 a1, .int .u8 a2] w fun e w' => e = .returned (.int .u8 r) ∧ Drawn0 w w' := by
  have HR0 := Aside0.mk hr0
  have HC0 := Aside0.mk hc0
  clear hr0 hc0
  have H : (if (l0.length : Int) = 0 then (some ((a2 + 2) % 256)) else (if 0 ≤ (Int.tmod a1 (l0.length : Int)) then (if (Int.tmod a1 (l0.length : Int)) < (l0.length : Int) then (some ((a2 + (Int.tmod (rd l0 (Int.tmod a1 (l0.length : Int))) 26)) % 256)) else (none)) else (none))) = some r := h
  clear h
  by_cases c4 : (l0.length : Int) = 0
  · rw [if_pos c4] at H
    have c4b0 : ((l0.length : Int) == 0) = true := beq_iff_eq.mpr c4
    have c4b1 : ((l0.length : Int) != 0) = false := bne_eq_false_iff_eq.mpr c4
    clear c4
    obtain rfl := Option.some.inj H
    go_enter Tryz.func29, Tryz.ntmps29
    go_wp2
    go_ret
    exact ⟨by first | rfl | (simp; done) | (simp [*]; done), by repeat (first | exact Drawn0.refl _ | apply Drawn0.step)⟩
  · rw [if_neg c4] at H
    have c4b0 : ((l0.length : Int) == 0) = false := beq_eq_false_iff_ne.mpr c4
    have c4b1 : ((l0.length : Int) != 0) = true := bne_iff_ne.mpr c4
    have c4b2 : ¬ (l0 = []) := fun h_ => c4 (by rw [h_]; rfl)
    obtain ⟨ji5, hji5⟩ : ∃ j_ : Int, (Int.tmod a1 (l0.length : Int)) = j_ := ⟨_, rfl⟩
    replace H : (if 0 ≤ (ji5) then (if (ji5) < (l0.length : Int) then (some ((a2 + (Int.tmod (rd l0 (ji5)) 26)) % 256)) else (none)) else (none)) = some r := by first | (rw [hji5] at H; exact H) | (simp only [hji5] at H ⊢; exact H)
    by_cases c6 : 0 ≤ (ji5)
    · rw [if_pos c6] at H
      have c6b0 : decide (0 ≤ (ji5)) = true := decide_eq_true c6
      clear c6
      by_cases c7 : (ji5) < (l0.length : Int)
      · rw [if_pos c7] at H
        have c7b0 : decide ((ji5) < (l0.length : Int)) = true := decide_eq_true c7
        clear c7
        obtain rfl := Option.some.inj H
        have p110 : 0 ≤ ((ji5) : Int) := of_decide_eq_true (by first | (with_reducible assumption) | assumption)
        have q110 : (ji5) < (l0.length : Int) := of_decide_eq_true (by first | (with_reducible assumption) | assumption)
        obtain ⟨ad110, e110, hx110_0⟩ := Kd.at_int HR0.out (ji5) p110 q110
        cases e110
        replace p110 := eq_true p110
        replace q110 := eq_true q110
        go_enter Tryz.func29, Tryz.ntmps29
        go_wp2
        go_ret
        exact ⟨by first | rfl | (simp; done) | (simp only [← hji5] <;> (first | rfl | simp)) | (simp [*]; done), by repeat (first | exact Drawn0.refl _ | apply Drawn0.step)⟩
      · rw [if_neg c7] at H
        exact absurd H (by simp)
    · rw [if_neg c6] at H
      exact absurd H (by simp)

/-! ### laws_idAt: function 26 -/
def laws_idAt.f (a0 : Int) (a1 : Int) : Option (Int) := if a1 = 0 then (none) else (some (Int.tmod (wrap64 ((Int.tmod a0 a1) + a1)) a1))
set_option maxHeartbeats 8000000 in
set_option maxRecDepth 100000 in
theorem laws_idAt.calls (a0 : Int) (a1 : Int) (r : Int) (w : World) (h : laws_idAt.f a0 a1 = some r) :
    Calls Tryz.prog 26 #[.int .i64 a0, .int .i64 a1] w fun e w' => e = .returned (.int .i64 r) ∧ Drawn0 w w' := by
  have H : (if a1 = 0 then (none) else (some (Int.tmod (wrap64 ((Int.tmod a0 a1) + a1)) a1))) = some r := h
  clear h
  by_cases c3 : a1 = 0
  · rw [if_pos c3] at H
    exact absurd H (by simp)
  · rw [if_neg c3] at H
    have c3b0 : (a1 == 0) = false := beq_eq_false_iff_ne.mpr c3
    have c3b1 : (a1 != 0) = true := bne_iff_ne.mpr c3
    obtain rfl := Option.some.inj H
    go_enter Tryz.func26, Tryz.ntmps26
    go_wp2
    go_ret
    exact ⟨by first | rfl | (simp; done) | (simp [*]; done), by repeat (first | exact Drawn0.refl _ | apply Drawn0.step)⟩

/-! ### laws_idDis: function 30 -/
def laws_idDis.f (l0 : List Int) (a1 : Int) : Option (Int) := if (l0.length : Int) = 0 then (some 0) else (if 0 ≤ (Int.tmod a1 (l0.length : Int)) then (if (Int.tmod a1 (l0.length : Int)) < (l0.length : Int) then ((laws_idAt.f (rd l0 (Int.tmod a1 (l0.length : Int))) 1099511627776).bind fun t112 => (some (IntKind.u64.wrap (t112)))) else (none)) else (none))
set_option maxHeartbeats 8000000 in
set_option maxRecDepth 100000 in
theorem laws_idDis.calls (A0 : Option Addr) (c0 : Nat) (l0 : List Int) (a1 : Int) (r : Int) (w : World) (hr0 : Kd.C (Kd.int .i64) w A0 l0.length l0) (hc0 : l0.length ≤ c0) (h : laws_idDis.f l0 a1 = some r) :
    Calls Tryz.prog 30 #[.slice A0 l0.length c0, .int .i64 a1] w fun e w' => e = .returned (.int .u64 r) ∧ Drawn0 w w' := by
  have HR0 := Aside0.mk hr0
  have HC0 := Aside0.mk hc0
  clear hr0 hc0
  have H : (if (l0.length : Int) = 0 then (some 0) else (if 0 ≤ (Int.tmod a1 (l0.length : Int)) then (if (Int.tmod a1 (l0.length : Int)) < (l0.length : Int) then ((laws_idAt.f (rd l0 (Int.tmod a1 (l0.length : Int))) 1099511627776).bind fun t112 => (some (IntKind.u64.wrap (t112)))) else (none)) else (none))) = some r := h
  clear h
  by_cases c3 : (l0.length : Int) = 0
  · rw [if_pos c3] at H
    have c3b0 : ((l0.length : Int) == 0) = true := beq_iff_eq.mpr c3
    have c3b1 : ((l0.length : Int) != 0) = false := bne_eq_false_iff_eq.mpr c3
    clear c3
    obtain rfl := Option.some.inj H
    go_enter Tryz.func30, Tryz.ntmps30
    go_wp2
    go_ret
    exact ⟨by first | rfl | (simp; done) | (simp [*]; done), by repeat (first | exact Drawn0.refl _ | apply Drawn0.step)⟩
  · rw [if_neg c3] at H
    have c3b0 : ((l0.length : Int) == 0) = false := beq_eq_false_iff_ne.mpr c3
    have c3b1 : ((l0.length : Int) != 0) = true := bne_iff_ne.mpr c3
    have c3b2 : ¬ (l0 = []) := fun h_ => c3 (by rw [h_]; rfl)
    obtain ⟨ji4, hji4⟩ : ∃ j_ : Int, (Int.tmod a1 (l0.length : Int)) = j_ := ⟨_, rfl⟩
    replace H : (if 0 ≤ (ji4) then (if (ji4) < (l0.length : Int) then ((laws_idAt.f (rd l0 (ji4)) 1099511627776).bind fun t112 => (some (IntKind.u64.wrap (t112)))) else (none)) else (none)) = some r := by first | (rw [hji4] at H; exact H) | (simp only [hji4] at H ⊢; exact H)
    by_cases c5 : 0 ≤ (ji4)
    · rw [if_pos c5] at H
      have c5b0 : decide (0 ≤ (ji4)) = true := decide_eq_true c5
      clear c5
      by_cases c6 : (ji4) < (l0.length : Int)
      · rw [if_pos c6] at H
        have c6b0 : decide ((ji4) < (l0.length : Int)) = true := decide_eq_true c6
        clear c6
        replace H := Option.bind_eq_some_iff.mp H
        obtain ⟨t112, A70, H⟩ := H
        replace H : (some (IntKind.u64.wrap (t112))) = some r := H
        have A7 := Aside0.mk A70
        clear A70
        obtain rfl := Option.some.inj H
        have p111 : 0 ≤ ((ji4) : Int) := of_decide_eq_true (by first | (with_reducible assumption) | assumption)
        have q111 : (ji4) < (l0.length : Int) := of_decide_eq_true (by first | (with_reducible assumption) | assumption)
        obtain ⟨ad111, e111, hx111_0⟩ := Kd.at_int HR0.out (ji4) p111 q111
        cases e111
        replace p111 := eq_true p111
        replace q111 := eq_true q111
        go_enter Tryz.func30, Tryz.ntmps30
        go_wp2_with (first | (go_at_call 15; refine (idCut_at _ _ _ _ _ _ (by assumption) (by assumption)).mono ?_; rintro e w_ ⟨rfl, rfl⟩) | ((with_reducible refine gate_callee (f := 26) rfl ?_); refine goesL_ (some 15) rfl rfl Tryz.func26 (by kernel_rfl) rfl #[.int .i64 (rd l0 (ji4)), .int .i64 1099511627776] rfl (by (try simp only [List.map_toArray, List.map_cons, List.map_nil]); first | done | (simp only [hji4]; rfl) | rfl | (simp only [List.length_drop, List.length_take]; rfl)) ?_; (with_reducible refine (laws_idAt.calls (rd l0 (ji4)) 1099511627776 t112 _ A7.out).mono ?_); rintro e w' ⟨rfl, ⟨nd, rfl⟩⟩; refine ⟨_, rfl, ?_⟩))
        go_ret
        exact ⟨by first | rfl | (simp; done) | (simp only [← hji4] <;> (first | rfl | simp)) | (simp [*]; done), by repeat (first | exact Drawn0.refl _ | apply Drawn0.step)⟩
      · rw [if_neg c6] at H
        exact absurd H (by simp)
    · rw [if_neg c5] at H
      exact absurd H (by simp)

/-! ### laws_idSmall: function 16 -/
def laws_idSmall.l0 : Nat → List Int → List Int → List (S43) → List (List Int) → Int → Int → Option ((List (S43)))
  | 0, _, _, _, _, _, _ => none
  | k + 1, x1, x2, x7, x11, x12, x13 => if x13 < x12 then (if 0 ≤ x13 then (if x13 < (x11.length : Int) then (if x13 < 100 then ((laws_idSpace.f x1 x13 97).bind fun t117 => (if 0 ≤ (mn ((rd_L1 x11 x13).length : Int) 1000) then (if (mn ((rd_L1 x11 x13).length : Int) 1000) ≤ ((rd_L1 x11 x13).length : Int) then ((spec_AnPlain.f k ((rd_L1 x11 x13).take ((mn ((rd_L1 x11 x13).length : Int) 1000) : Int).toNat)).bind fun t119 => ((laws_idDis.f x2 x13).bind fun t120 => (if x7.length < 4398046511104 then (laws_idSmall.l0 k x1 x2 (x7 ++ [(⟨t117, t119, t120⟩ : S43)]) x11 x12 (wrap64 (x13 + 1))) else (none)))) else (none)) else (none))) else (laws_idSmall.l0 k x1 x2 x7 x11 x12 (wrap64 (x13 + 1)))) else (none)) else (none)) else (some x7)
def laws_idSmall.f (k : Nat) (l0 : List (List Int)) (l1 : List Int) (l2 : List Int) : Option ((List (S43))) := laws_idSmall.l0 k l1 l2 (([] : List (S43))) l0 (l0.length : Int) 0
theorem laws_idSmall.mono_l : ∀ k, (∀ y0 y1 y2 y3 y4 y5, LeO (laws_idSmall.l0 k y0 y1 y2 y3 y4 y5) (laws_idSmall.l0 (k + 1) y0 y1 y2 y3 y4 y5))
  | 0 => fun _ _ _ _ _ _ r h => by simp [laws_idSmall.l0] at h
  | k + 1 => by
    have ih0 := laws_idSmall.mono_l k
    · intro y0 y1 y2 y3 y4 y5
      unfold laws_idSmall.l0
      repeat' first
      | (with_reducible exact ih0 _ _ _ _ _ _)
      | (with_reducible exact spec_AnPlain.mono _ _)
      | (with_reducible exact LeO.refl _)
      | (with_reducible exact LeO.none _)
      | (with_reducible refine LeO.ite ?_ ?_)
      | (with_reducible refine LeO.bind ?_ (fun _ => ?_))
      | exact ih0 _ _ _ _ _ _
      | exact spec_AnPlain.mono _ _
      | exact LeO.none _
      | refine LeO.ite ?_ ?_
      | refine LeO.bind ?_ (fun _ => ?_)
theorem laws_idSmall.mono : ∀ a0 a1 a2 k, LeO (laws_idSmall.f k a0 a1 a2) (laws_idSmall.f (k + 1) a0 a1 a2) := by
  intro a0 a1 a2 k
  have ih0 := laws_idSmall.mono_l k
  unfold laws_idSmall.f
  repeat' first
      | (with_reducible exact ih0 _ _ _ _ _ _)
      | (with_reducible exact spec_AnPlain.mono _ _)
      | (with_reducible exact LeO.refl _)
      | (with_reducible exact LeO.none _)
      | (with_reducible refine LeO.ite ?_ ?_)
      | (with_reducible refine LeO.bind ?_ (fun _ => ?_))
      | exact ih0 _ _ _ _ _ _
      | exact spec_AnPlain.mono _ _
      | exact LeO.none _
      | refine LeO.ite ?_ ?_
      | refine LeO.bind ?_ (fun _ => ?_)
set_option maxHeartbeats 8000000 in
set_option maxRecDepth 100000 in
theorem laws_idSmall.calls (k : Nat) (A0 : Option Addr) (c0 : Nat) (l0 : List (List Int)) (A1 : Option Addr) (c1 : Nat) (l1 : List Int) (A2 : Option Addr) (c2 : Nat) (l2 : List Int) (r : List (S43)) (w : World) (hr0 : Kd.C (Kd.slice 5 (Kd.int .u8)) w A0 l0.length l0) (hc0 : l0.length ≤ c0) (hr1 : Kd.C (Kd.int .u8) w A1 l1.length l1) (hc1 : l1.length ≤ c1) (hr2 : Kd.C (Kd.int .i64) w A2 l2.length l2) (hc2 : l2.length ≤ c2) (h : laws_idSmall.f k l0 l1 l2 = some r) :
    Calls Tryz.prog 16 #[.slice A0 l0.length c0, .slice A1 l1.length c1, .slice A2 l2.length c2] w fun e w' => ∃ v0_ : Value, e = .returned (v0_) ∧ Kd.R k43 43 w' w.heap.size (fun _ => True) v0_ r ∧ Below w.heap.size w w' := by
  have hu43 := Tryz.underlying43
  have HR0 := Aside0.mk hr0
  have HC0 := Aside0.mk hc0
  clear hr0 hc0
  have HR1 := Aside0.mk hr1
  have HC1 := Aside0.mk hc1
  clear hr1 hc1
  have HR2 := Aside0.mk hr2
  have HC2 := Aside0.mk hc2
  clear hr2 hc2
  have HB := Aside0.mk (Below.refl w.heap.size w)
  have H : (laws_idSmall.l0 k l1 l2 (([] : List (S43))) l0 (l0.length : Int) 0) = some r := h
  clear h
  obtain ⟨y113, hy113⟩ : ∃ y_ : List (S43), y_ = (([] : List (S43))) := ⟨_, rfl⟩
  replace H : (laws_idSmall.l0 k l1 l2 y113 l0 (l0.length : Int) 0) = some r := by first | (rw [hy113]; with_reducible exact H) | (have H2_ := (Option.bind_some _ _).symm.trans H; rw [hy113]; with_reducible exact H2_) | (have H2_ := (Option.bind_some _ _).symm.trans H; with_reducible exact H2_) | with_reducible exact H | (rw [hy113]; exact H) | exact H
  have Ny113 := Aside0.mk hy113
  clear hy113
  have H' := Aside0.mk H
  clear H
  go_enter Tryz.func16, Tryz.ntmps16
  go_wp2_with (first | (go_at_call 15; refine (idCut_at _ _ _ _ _ _ (by assumption) (by assumption)).mono ?_; rintro e w_ ⟨rfl, rfl⟩) | ((with_reducible refine gate_dst (N := 10) rfl ?_); refine Kd.R_lit k43 _ 43 ?hg (N := 10) ?hd (xs := ([] : List (S43))) (inner := []) (ok := fun _ => True) (okp := fun _ => True) ?hr ?hp (fun _ hk => hk) trivial (Below.refl _ _) (Nat.le_refl _) (by simp) ?_; (case hd => rfl); (case hg => rfl); (case hr => first | (go_simp; done) | (go_simp; rfl)); (case hp => exact (Reps.none _ _)); intro v114 w4 ho5 hb hg_ hnew_; clear hg_ hnew_; (first | rw [← Ny113.out] at ho5 | (simp only [Int.reduceToNat] at ho5; rw [← Ny113.out] at ho5)); have n0_ := Aside0.mk (Kd.R_lower ho5 (below_size (by repeat (first | (with_reducible first | exact HB.out | apply below_alloc | apply pw_below_drewN | apply below_drew1) | exact HB.out)))); have n1_ := Aside0.mk (below_step (by repeat (first | (with_reducible first | exact HB.out | apply below_alloc | apply pw_below_drewN | apply below_drew1) | exact HB.out)) hb); clear HB; have HO115 := n0_; have HB := n1_; clear n0_ n1_; clear hb ho5))
  go_loopg [7, 13] k (fun kq v7 v13 w' => ∃ (x7_1 : List (S43)) (x13_1 : Int), v13 = .int .i64 x13_1 ∧ Aside0 (laws_idSmall.l0 kq l1 l2 x7_1 l0 (l0.length : Int) x13_1 = some r) ∧ Aside0 (kq ≤ k) ∧ Aside0 (Kd.R k43 43 w' w.heap.size (fun _ => True) v7 x7_1) ∧ Aside0 (Below w.heap.size w w'))
  case atStart => exact ⟨(y113), (0), (by first | rfl | (simp; done) | (simp [*]; done)), H', ⟨Nat.le_refl _⟩, ⟨by (with_reducible repeat (first | apply Kd.R_alloc | apply Kd.R_drewN | apply Kd.R_drew)); exact HO115.out⟩, ⟨by repeat (first | (with_reducible first | exact HB.out | apply below_alloc | apply pw_below_drewN | apply below_drew1) | exact HB.out)⟩⟩
  case round =>
    clear H'
    try clear c1
    try clear c2
    try clear p2
    obtain ⟨x7_1, x13_1, rfl, HA, HK1, HO_7, HB⟩ := hrel
    cases gk with
    | zero => exact absurd HA.out (by simp [laws_idSmall.l0])
    | succ k1 =>
      have H := HA.out
      clear HA
      simp only [laws_idSmall.l0] at H
      by_cases c6 : x13_1 < (l0.length : Int)
      · rw [if_pos c6] at H
        have c6b0 : decide (x13_1 < (l0.length : Int)) = true := decide_eq_true c6
        clear c6
        by_cases c7 : 0 ≤ x13_1
        · rw [if_pos c7] at H
          have c7b0 : decide (0 ≤ x13_1) = true := decide_eq_true c7
          clear c7
          by_cases c8 : x13_1 < (l0.length : Int)
          · rw [if_pos c8] at H
            have c8b0 : decide (x13_1 < (l0.length : Int)) = true := decide_eq_true c8
            clear c8
            by_cases c9 : x13_1 < 100
            · rw [if_pos c9] at H
              have c9b0 : decide (x13_1 < 100) = true := decide_eq_true c9
              clear c9
              replace H := Option.bind_eq_some_iff.mp H
              obtain ⟨t117, A100, H⟩ := H
              replace H : (if 0 ≤ (mn ((rd_L1 l0 x13_1).length : Int) 1000) then (if (mn ((rd_L1 l0 x13_1).length : Int) 1000) ≤ ((rd_L1 l0 x13_1).length : Int) then ((spec_AnPlain.f k1 ((rd_L1 l0 x13_1).take ((mn ((rd_L1 l0 x13_1).length : Int) 1000) : Int).toNat)).bind fun t119 => ((laws_idDis.f l2 x13_1).bind fun t120 => (if x7_1.length < 4398046511104 then (laws_idSmall.l0 k1 l1 l2 (x7_1 ++ [(⟨t117, t119, t120⟩ : S43)]) l0 (l0.length : Int) (wrap64 (x13_1 + 1))) else (none)))) else (none)) else (none)) = some r := H
              have A10 := Aside0.mk A100
              clear A100
              obtain ⟨ji11, hji11⟩ : ∃ j_ : Int, (mn ((rd_L1 l0 x13_1).length : Int) 1000) = j_ := ⟨_, rfl⟩
              replace H : (if 0 ≤ (ji11) then (if (ji11) ≤ ((rd_L1 l0 x13_1).length : Int) then ((spec_AnPlain.f k1 ((rd_L1 l0 x13_1).take ((ji11) : Int).toNat)).bind fun t119 => ((laws_idDis.f l2 x13_1).bind fun t120 => (if x7_1.length < 4398046511104 then (laws_idSmall.l0 k1 l1 l2 (x7_1 ++ [(⟨t117, t119, t120⟩ : S43)]) l0 (l0.length : Int) (wrap64 (x13_1 + 1))) else (none)))) else (none)) else (none)) = some r := by first | (rw [hji11] at H; exact H) | (simp only [hji11] at H ⊢; exact H)
              (try rw [hji11] at A10)
              have hji11_ : (if 1000 < ((rd_L1 l0 x13_1).length : Int) then 1000 else ((rd_L1 l0 x13_1).length : Int)) = ji11 := hji11
              by_cases c12 : 0 ≤ (ji11)
              · rw [if_pos c12] at H
                have c12b0 := eq_true c12
                have c12b1 : decide (0 ≤ (ji11)) = true := decide_eq_true c12
                clear c12
                by_cases c13 : (ji11) ≤ ((rd_L1 l0 x13_1).length : Int)
                · rw [if_pos c13] at H
                  have c13b0 := eq_true c13
                  have c13b1 : decide ((ji11) ≤ ((rd_L1 l0 x13_1).length : Int)) = true := decide_eq_true c13
                  clear c13
                  replace H := Option.bind_eq_some_iff.mp H
                  obtain ⟨t119, A140, H⟩ := H
                  replace H : ((laws_idDis.f l2 x13_1).bind fun t120 => (if x7_1.length < 4398046511104 then (laws_idSmall.l0 k1 l1 l2 (x7_1 ++ [(⟨t117, t119, t120⟩ : S43)]) l0 (l0.length : Int) (wrap64 (x13_1 + 1))) else (none))) = some r := H
                  have A14 := Aside0.mk A140
                  clear A140
                  replace H := Option.bind_eq_some_iff.mp H
                  obtain ⟨t120, A150, H⟩ := H
                  replace H : (if x7_1.length < 4398046511104 then (laws_idSmall.l0 k1 l1 l2 (x7_1 ++ [(⟨t117, t119, t120⟩ : S43)]) l0 (l0.length : Int) (wrap64 (x13_1 + 1))) else (none)) = some r := H
                  have A15 := Aside0.mk A150
                  clear A150
                  by_cases c16 : x7_1.length < 4398046511104
                  · rw [if_pos c16] at H
                    have LMc16 := Aside0.mk c16
                    clear c16
                    obtain ⟨y121, hy121⟩ : ∃ y_ : List (S43), y_ = (x7_1 ++ [(⟨t117, t119, t120⟩ : S43)]) := ⟨_, rfl⟩
                    replace H : (laws_idSmall.l0 k1 l1 l2 y121 l0 (l0.length : Int) (wrap64 (x13_1 + 1))) = some r := by first | (rw [hy121]; with_reducible exact H) | (have H2_ := (Option.bind_some _ _).symm.trans H; rw [hy121]; with_reducible exact H2_) | (have H2_ := (Option.bind_some _ _).symm.trans H; with_reducible exact H2_) | with_reducible exact H | (rw [hy121]; exact H) | exact H
                    have Ny121 := Aside0.mk hy121
                    clear hy121
                    have H' := Aside0.mk H
                    clear H
                    have p116 : 0 ≤ (x13_1 : Int) := of_decide_eq_true (by first | (with_reducible assumption) | assumption)
                    have q116 : x13_1 < (l0.length : Int) := of_decide_eq_true (by first | (with_reducible assumption) | assumption)
                    obtain ⟨ad116, A116_0, c116_0, e116, hx116_0, hl116_0, hi116_0⟩ := at_L1 HR0.out x13_1 p116 q116
                    cases e116
                    replace hx116_0 := (HB.out.cell (World.block_lt_of_cell? w _ hx116_0)).trans hx116_0
                    have HR116_0 := Aside0.mk hi116_0
                    have HC116_0 := Aside0.mk hl116_0
                    clear hi116_0 hl116_0
                    replace p116 := eq_true p116
                    replace q116 := eq_true q116
                    go_wp2_with (first | (go_at_call 15; refine (idCut_at _ _ _ _ _ _ (by assumption) (by assumption)).mono ?_; rintro e w_ ⟨rfl, rfl⟩) | ((with_reducible refine gate_callee (f := 29) rfl ?_); refine goesL_ (some 23) rfl rfl Tryz.func29 (by kernel_rfl) rfl #[.slice A1 l1.length c1, .int .i64 x13_1, .int .u8 97] rfl (by (try simp only [List.map_toArray, List.map_cons, List.map_nil]); first | done | rfl | (simp only [List.length_drop, List.length_take]; rfl)) ?_; (with_reducible refine (laws_idSpace.calls _ _ l1 x13_1 97 t117 _ ?side1 ?side2 A10.out).mono ?_); (case side1 => repeat (first | exact (Kd.C_below HR1.out HB.out) | (with_reducible refine Kd.C_alloc ?_ _) | (with_reducible refine Kd.C_drewN ?_ _) | (with_reducible refine Kd.C_drew ?_))); (case side2 => exact HC1.out); rintro e w' ⟨rfl, ⟨nd, rfl⟩⟩; refine ⟨_, rfl, ?_⟩; obtain ⟨i017, hi017, _, hsz17, _⟩ := info_parts info5; obtain ⟨hcut17, hA17, hC17⟩ := print_take_of (P := Tryz.prog) (Value.int .u8) 0 22 5 .i64 Tryz.underlying22 hi017 hsz17 A116_0 c116_0 (rd_L1 l0 x13_1) (ji11) (of_decide_eq_true (by first | (with_reducible assumption) | assumption)) (of_decide_eq_true (by first | (with_reducible assumption) | assumption)) HC116_0.out; have HR118 := Aside0.mk (Kd.C_of_reads (h1 := fun _ => rfl) (hA17 _ (Kd.reads_of_C HR116_0.out))); have HC118 := Aside0.mk hC17; clear hA17 hC17 hi017 hsz17) | ((with_reducible refine gate_callee (f := 14) rfl ?_); refine goesL_ (some 26) rfl rfl Tryz.func14 (by kernel_rfl) rfl #[.slice A116_0 ((rd_L1 l0 x13_1).take ((ji11) : Int).toNat).length c116_0] rfl (by (try simp only [List.map_toArray, List.map_cons, List.map_nil]); first | done | (rw [show ((rd_L1 l0 x13_1).take ((ji11) : Int).toNat).length = (ji11).toNat from (by rw [List.length_take]; have h_ : ((ji11) : Int) ≤ ((rd_L1 l0 x13_1).length : Int) := of_decide_eq_true (by first | (with_reducible assumption) | assumption); omega)] <;> rfl) | (simp only [hji11]; rfl) | rfl | (simp only [List.length_drop, List.length_take]; rfl)) ?_; (with_reducible refine (spec_AnPlain.calls k1 _ _ ((rd_L1 l0 x13_1).take ((ji11) : Int).toNat) t119 _ ?side1 ?side2 A14.out).mono ?_); (case side1 => repeat (first | exact (Kd.C_below HR118.out (by repeat (first | (with_reducible first | exact HB.out | apply below_alloc | apply pw_below_drewN | apply below_drew1) | exact HB.out))) | (with_reducible refine Kd.C_alloc ?_ _) | (with_reducible refine Kd.C_drewN ?_ _) | (with_reducible refine Kd.C_drew ?_))); (case side2 => exact HC118.out); rintro e w18 ⟨rfl, hb⟩; refine ⟨_, rfl, ?_⟩; have n0_ := Aside0.mk (Kd.R_below (by (with_reducible repeat (first | apply Kd.R_alloc | apply Kd.R_drewN | apply Kd.R_drew)); exact HO_7.out) hb); have n1_ := Aside0.mk (below_step (by repeat (first | (with_reducible first | exact HB.out | apply below_alloc | apply pw_below_drewN | apply below_drew1) | exact HB.out)) hb); clear HO_7; clear HB; have HO_7 := n0_; have HB := n1_; clear n0_ n1_; (try clear hb); (try clear hb2); (try clear hk); (try clear hi)) | ((with_reducible refine gate_callee (f := 30) rfl ?_); refine goesL_ (some 29) rfl rfl Tryz.func30 (by kernel_rfl) rfl #[.slice A2 l2.length c2, .int .i64 x13_1] rfl (by (try simp only [List.map_toArray, List.map_cons, List.map_nil]); first | done | rfl | (simp only [List.length_drop, List.length_take]; rfl)) ?_; (with_reducible refine (laws_idDis.calls _ _ l2 x13_1 t120 _ ?side1 ?side2 A15.out).mono ?_); (case side1 => repeat (first | exact (Kd.C_below HR2.out HB.out) | (with_reducible refine Kd.C_alloc ?_ _) | (with_reducible refine Kd.C_drewN ?_ _) | (with_reducible refine Kd.C_drew ?_))); (case side2 => exact HC2.out); rintro e w' ⟨rfl, ⟨nd, rfl⟩⟩; refine ⟨_, rfl, ?_⟩) | ((with_reducible refine gate_builtin (b := .append) (xs := #[.tmp 20, .tmp 31]) rfl ?_); at_builtin; refine Kd.R_append k43 (w0 := w) w.heap.size rfl (.tmp 20) (.tmp 31) 27 43 (.agg #[(.int .u8 0), (.string ⟨#[]⟩), (.int .u64 0)]) 32 rfl Tryz.underlying27 info43 rfl (by decide) (by omega) u7 x7_1 (⟨t117, t119, t120⟩ : S43) [.int .u8 t117, .string t119, .int .u64 t120] (fun _ => True) (fun _ => False) rfl rfl ?aP (fun _ hk => hk.elim) ?aF ?aO ?aB ?aS ?aL ?_; (case aP => exact k43_mkM _ _ _ (⟨t117, t119, t120⟩ : S43)); (case aB => exact (by repeat (first | (with_reducible first | exact HB.out | apply below_alloc | apply pw_below_drewN | apply below_drew1) | exact HB.out))); (case aF => exact (fun _ _ => trivial)); (case aO => exact (by (with_reducible repeat (first | apply Kd.R_alloc | apply Kd.R_drewN | apply Kd.R_drew)); exact HO_7.out)); (case aS => exact (below_size (by repeat (first | (with_reducible first | exact HB.out | apply below_alloc | apply pw_below_drewN | apply below_drew1) | exact HB.out)))); (case aL => have := LMc16.out; omega); intro v122 w19 ho hb hg hat; rw [← Ny121.out] at ho; have n0_ := Aside0.mk (hb); have n1_ := Aside0.mk (ho); clear HB; clear HO_7; have HB := n0_; have HO123 := n1_; clear n0_ n1_; clear ho hb hg hat))
                    go_roundg k1
                    case measure => have := HK1.out; omega
                    case rel => exact ⟨(y121), (wrap64 (x13_1 + 1)), (by first | rfl | (simp; done) | (simp [*]; done)), H', ⟨by have := HK1.out; omega⟩, ⟨by (with_reducible repeat (first | apply Kd.R_alloc | apply Kd.R_drewN | apply Kd.R_drew)); exact HO123.out⟩, ⟨by repeat (first | (with_reducible first | exact HB.out | apply below_alloc | apply pw_below_drewN | apply below_drew1) | exact HB.out)⟩⟩
                  · rw [if_neg c16] at H
                    exact absurd H (by simp)
                · rw [if_neg c13] at H
                  exact absurd H (by simp)
              · rw [if_neg c12] at H
                exact absurd H (by simp)
            · rw [if_neg c9] at H
              have c9b0 : decide (x13_1 < 100) = false := decide_eq_false c9
              clear c9
              have H' := Aside0.mk H
              clear H
              have p116 : 0 ≤ (x13_1 : Int) := of_decide_eq_true (by first | (with_reducible assumption) | assumption)
              have q116 : x13_1 < (l0.length : Int) := of_decide_eq_true (by first | (with_reducible assumption) | assumption)
              obtain ⟨ad116, A116_0, c116_0, e116, hx116_0, hl116_0, hi116_0⟩ := at_L1 HR0.out x13_1 p116 q116
              cases e116
              replace hx116_0 := (HB.out.cell (World.block_lt_of_cell? w _ hx116_0)).trans hx116_0
              have HR116_0 := Aside0.mk hi116_0
              have HC116_0 := Aside0.mk hl116_0
              clear hi116_0 hl116_0
              replace p116 := eq_true p116
              replace q116 := eq_true q116
              go_wp2
              go_roundg k1
              case measure => have := HK1.out; omega
              case rel => exact ⟨(x7_1), (wrap64 (x13_1 + 1)), (by first | rfl | (simp; done) | (simp [*]; done)), H', ⟨by have := HK1.out; omega⟩, ⟨by (with_reducible repeat (first | apply Kd.R_alloc | apply Kd.R_drewN | apply Kd.R_drew)); exact HO_7.out⟩, ⟨by repeat (first | (with_reducible first | exact HB.out | apply below_alloc | apply pw_below_drewN | apply below_drew1) | exact HB.out)⟩⟩
          · rw [if_neg c8] at H
            exact absurd H (by simp)
        · rw [if_neg c7] at H
          exact absurd H (by simp)
      · rw [if_neg c6] at H
        have c6b0 : decide (x13_1 < (l0.length : Int)) = false := decide_eq_false c6
        clear c6
        obtain rfl := Option.some.inj H
        go_wp2
        go_ret
        exact ⟨_, by first | rfl | (simp [errW_none, errW_some] <;> rfl) | (simp [*, errW_none, errW_some] <;> rfl), by (with_reducible repeat (first | apply Kd.R_alloc | apply Kd.R_drewN | apply Kd.R_drew)); exact HO_7.out, by repeat (first | (with_reducible first | exact HB.out | apply below_alloc | apply pw_below_drewN | apply below_drew1) | exact HB.out)⟩

/-! ### spec_IdBase62: function 41 -/
def spec_IdBase62.l0 : Nat → Int → ByteArray → Option (ByteArray)
  | 0, _, _ => none
  | k + 1, x0, x3 => if x0 > 0 then (if 0 ≤ (Int.tmod x0 62) then (if (Int.tmod x0 62) ≤ (IntKind.u64.wrap ((Int.tmod x0 62) + 1)) then (if (IntKind.u64.wrap ((Int.tmod x0 62) + 1)) ≤ 62 then (if ((⟨#[48, 49, 50, 51, 52, 53, 54, 55, 56, 57, 97, 98, 99, 100, 101, 102, 103, 104, 105, 106, 107, 108, 109, 110, 111, 112, 113, 114, 115, 116, 117, 118, 119, 120, 121, 122, 65, 66, 67, 68, 69, 70, 71, 72, 73, 74, 75, 76, 77, 78, 79, 80, 81, 82, 83, 84, 85, 86, 87, 88, 89, 90]⟩ : ByteArray).extract ((Int.tmod x0 62) : Int).toNat ((IntKind.u64.wrap ((Int.tmod x0 62) + 1)) : Int).toNat).size + x3.size ≤ 9223372036854775807 then (spec_IdBase62.l0 k (IntKind.u64.wrap (Int.tdiv x0 62)) (((⟨#[48, 49, 50, 51, 52, 53, 54, 55, 56, 57, 97, 98, 99, 100, 101, 102, 103, 104, 105, 106, 107, 108, 109, 110, 111, 112, 113, 114, 115, 116, 117, 118, 119, 120, 121, 122, 65, 66, 67, 68, 69, 70, 71, 72, 73, 74, 75, 76, 77, 78, 79, 80, 81, 82, 83, 84, 85, 86, 87, 88, 89, 90]⟩ : ByteArray).extract ((Int.tmod x0 62) : Int).toNat ((IntKind.u64.wrap ((Int.tmod x0 62) + 1)) : Int).toNat) ++ x3)) else (none)) else (none)) else (none)) else (none)) else (some x3)
def spec_IdBase62.f (k : Nat) (a0 : Int) : Option (ByteArray) := if a0 > 0 then (if 0 ≤ (Int.tmod (IntKind.u64.wrap (a0 - 1)) 62) then (if (Int.tmod (IntKind.u64.wrap (a0 - 1)) 62) ≤ (IntKind.u64.wrap ((Int.tmod (IntKind.u64.wrap (a0 - 1)) 62) + 1)) then (if (IntKind.u64.wrap ((Int.tmod (IntKind.u64.wrap (a0 - 1)) 62) + 1)) ≤ 62 then (if ((⟨#[48, 49, 50, 51, 52, 53, 54, 55, 56, 57, 97, 98, 99, 100, 101, 102, 103, 104, 105, 106, 107, 108, 109, 110, 111, 112, 113, 114, 115, 116, 117, 118, 119, 120, 121, 122, 65, 66, 67, 68, 69, 70, 71, 72, 73, 74, 75, 76, 77, 78, 79, 80, 81, 82, 83, 84, 85, 86, 87, 88, 89, 90]⟩ : ByteArray).extract ((Int.tmod (IntKind.u64.wrap (a0 - 1)) 62) : Int).toNat ((IntKind.u64.wrap ((Int.tmod (IntKind.u64.wrap (a0 - 1)) 62) + 1)) : Int).toNat).size + 1 ≤ 9223372036854775807 then (spec_IdBase62.l0 k (IntKind.u64.wrap (Int.tdiv (IntKind.u64.wrap (a0 - 1)) 62)) (((⟨#[48, 49, 50, 51, 52, 53, 54, 55, 56, 57, 97, 98, 99, 100, 101, 102, 103, 104, 105, 106, 107, 108, 109, 110, 111, 112, 113, 114, 115, 116, 117, 118, 119, 120, 121, 122, 65, 66, 67, 68, 69, 70, 71, 72, 73, 74, 75, 76, 77, 78, 79, 80, 81, 82, 83, 84, 85, 86, 87, 88, 89, 90]⟩ : ByteArray).extract ((Int.tmod (IntKind.u64.wrap (a0 - 1)) 62) : Int).toNat ((IntKind.u64.wrap ((Int.tmod (IntKind.u64.wrap (a0 - 1)) 62) + 1)) : Int).toNat) ++ (⟨#[95]⟩ : ByteArray))) else (none)) else (none)) else (none)) else (none)) else (some (⟨#[95]⟩ : ByteArray))
theorem spec_IdBase62.mono_l : ∀ k, (∀ y0 y1, LeO (spec_IdBase62.l0 k y0 y1) (spec_IdBase62.l0 (k + 1) y0 y1))
  | 0 => fun _ _ r h => by simp [spec_IdBase62.l0] at h
  | k + 1 => by
    have ih0 := spec_IdBase62.mono_l k
    · intro y0 y1
      unfold spec_IdBase62.l0
      repeat' first
      | (with_reducible exact ih0 _ _)
      | (with_reducible exact LeO.refl _)
      | (with_reducible exact LeO.none _)
      | (with_reducible refine LeO.ite ?_ ?_)
      | (with_reducible refine LeO.bind ?_ (fun _ => ?_))
      | exact ih0 _ _
      | exact LeO.none _
      | refine LeO.ite ?_ ?_
      | refine LeO.bind ?_ (fun _ => ?_)
theorem spec_IdBase62.mono : ∀ a0 k, LeO (spec_IdBase62.f k a0) (spec_IdBase62.f (k + 1) a0) := by
  intro a0 k
  have ih0 := spec_IdBase62.mono_l k
  unfold spec_IdBase62.f
  repeat' first
      | (with_reducible exact ih0 _ _)
      | (with_reducible exact LeO.refl _)
      | (with_reducible exact LeO.none _)
      | (with_reducible refine LeO.ite ?_ ?_)
      | (with_reducible refine LeO.bind ?_ (fun _ => ?_))
      | exact ih0 _ _
      | exact LeO.none _
      | refine LeO.ite ?_ ?_
      | refine LeO.bind ?_ (fun _ => ?_)
set_option maxHeartbeats 8000000 in
set_option maxRecDepth 100000 in
theorem spec_IdBase62.calls (k : Nat) (a0 : Int) (r : ByteArray) (w : World) (h : spec_IdBase62.f k a0 = some r) :
    Calls Tryz.prog 41 #[.int .u64 a0] w fun e w' => e = .returned (.string r) ∧ Drawn0 w w' := by
  have H : (if a0 > 0 then (if 0 ≤ (Int.tmod (IntKind.u64.wrap (a0 - 1)) 62) then (if (Int.tmod (IntKind.u64.wrap (a0 - 1)) 62) ≤ (IntKind.u64.wrap ((Int.tmod (IntKind.u64.wrap (a0 - 1)) 62) + 1)) then (if (IntKind.u64.wrap ((Int.tmod (IntKind.u64.wrap (a0 - 1)) 62) + 1)) ≤ 62 then (if ((⟨#[48, 49, 50, 51, 52, 53, 54, 55, 56, 57, 97, 98, 99, 100, 101, 102, 103, 104, 105, 106, 107, 108, 109, 110, 111, 112, 113, 114, 115, 116, 117, 118, 119, 120, 121, 122, 65, 66, 67, 68, 69, 70, 71, 72, 73, 74, 75, 76, 77, 78, 79, 80, 81, 82, 83, 84, 85, 86, 87, 88, 89, 90]⟩ : ByteArray).extract ((Int.tmod (IntKind.u64.wrap (a0 - 1)) 62) : Int).toNat ((IntKind.u64.wrap ((Int.tmod (IntKind.u64.wrap (a0 - 1)) 62) + 1)) : Int).toNat).size + 1 ≤ 9223372036854775807 then (spec_IdBase62.l0 k (IntKind.u64.wrap (Int.tdiv (IntKind.u64.wrap (a0 - 1)) 62)) (((⟨#[48, 49, 50, 51, 52, 53, 54, 55, 56, 57, 97, 98, 99, 100, 101, 102, 103, 104, 105, 106, 107, 108, 109, 110, 111, 112, 113, 114, 115, 116, 117, 118, 119, 120, 121, 122, 65, 66, 67, 68, 69, 70, 71, 72, 73, 74, 75, 76, 77, 78, 79, 80, 81, 82, 83, 84, 85, 86, 87, 88, 89, 90]⟩ : ByteArray).extract ((Int.tmod (IntKind.u64.wrap (a0 - 1)) 62) : Int).toNat ((IntKind.u64.wrap ((Int.tmod (IntKind.u64.wrap (a0 - 1)) 62) + 1)) : Int).toNat) ++ (⟨#[95]⟩ : ByteArray))) else (none)) else (none)) else (none)) else (none)) else (some (⟨#[95]⟩ : ByteArray))) = some r := h
  clear h
  by_cases c2 : a0 > 0
  · rw [if_pos c2] at H
    have c2b0 : decide (0 < a0) = true := decide_eq_true c2
    clear c2
    obtain ⟨ji3, hji3⟩ : ∃ j_ : Int, (Int.tmod (IntKind.u64.wrap (a0 - 1)) 62) = j_ := ⟨_, rfl⟩
    replace H : (if 0 ≤ (ji3) then (if (ji3) ≤ (IntKind.u64.wrap ((ji3) + 1)) then (if (IntKind.u64.wrap ((ji3) + 1)) ≤ 62 then (if ((⟨#[48, 49, 50, 51, 52, 53, 54, 55, 56, 57, 97, 98, 99, 100, 101, 102, 103, 104, 105, 106, 107, 108, 109, 110, 111, 112, 113, 114, 115, 116, 117, 118, 119, 120, 121, 122, 65, 66, 67, 68, 69, 70, 71, 72, 73, 74, 75, 76, 77, 78, 79, 80, 81, 82, 83, 84, 85, 86, 87, 88, 89, 90]⟩ : ByteArray).extract ((ji3) : Int).toNat ((IntKind.u64.wrap ((ji3) + 1)) : Int).toNat).size + 1 ≤ 9223372036854775807 then (spec_IdBase62.l0 k (IntKind.u64.wrap (Int.tdiv (IntKind.u64.wrap (a0 - 1)) 62)) (((⟨#[48, 49, 50, 51, 52, 53, 54, 55, 56, 57, 97, 98, 99, 100, 101, 102, 103, 104, 105, 106, 107, 108, 109, 110, 111, 112, 113, 114, 115, 116, 117, 118, 119, 120, 121, 122, 65, 66, 67, 68, 69, 70, 71, 72, 73, 74, 75, 76, 77, 78, 79, 80, 81, 82, 83, 84, 85, 86, 87, 88, 89, 90]⟩ : ByteArray).extract ((ji3) : Int).toNat ((IntKind.u64.wrap ((ji3) + 1)) : Int).toNat) ++ (⟨#[95]⟩ : ByteArray))) else (none)) else (none)) else (none)) else (none)) = some r := by first | (rw [hji3] at H; exact H) | (simp only [hji3] at H ⊢; exact H)
    by_cases c4 : 0 ≤ (ji3)
    · rw [if_pos c4] at H
      have c4b0 := eq_true c4
      have c4b1 : decide (0 ≤ (ji3)) = true := decide_eq_true c4
      clear c4
      by_cases c5 : (ji3) ≤ (IntKind.u64.wrap ((ji3) + 1))
      · rw [if_pos c5] at H
        have c5b0 := eq_true c5
        have c5b1 : decide ((ji3) ≤ (IntKind.u64.wrap ((ji3) + 1))) = true := decide_eq_true c5
        by_cases c6 : (IntKind.u64.wrap ((ji3) + 1)) ≤ 62
        · rw [if_pos c6] at H
          have c6b0 := eq_true c6
          have c6b1 : decide ((IntKind.u64.wrap ((ji3) + 1)) ≤ 62) = true := decide_eq_true c6
          by_cases c7 : ((⟨#[48, 49, 50, 51, 52, 53, 54, 55, 56, 57, 97, 98, 99, 100, 101, 102, 103, 104, 105, 106, 107, 108, 109, 110, 111, 112, 113, 114, 115, 116, 117, 118, 119, 120, 121, 122, 65, 66, 67, 68, 69, 70, 71, 72, 73, 74, 75, 76, 77, 78, 79, 80, 81, 82, 83, 84, 85, 86, 87, 88, 89, 90]⟩ : ByteArray).extract ((ji3) : Int).toNat ((IntKind.u64.wrap ((ji3) + 1)) : Int).toNat).size + 1 ≤ 9223372036854775807
          · rw [if_pos c7] at H
            have c7b0 := eq_true c7
            have c7b1 : decide (((⟨#[48, 49, 50, 51, 52, 53, 54, 55, 56, 57, 97, 98, 99, 100, 101, 102, 103, 104, 105, 106, 107, 108, 109, 110, 111, 112, 113, 114, 115, 116, 117, 118, 119, 120, 121, 122, 65, 66, 67, 68, 69, 70, 71, 72, 73, 74, 75, 76, 77, 78, 79, 80, 81, 82, 83, 84, 85, 86, 87, 88, 89, 90]⟩ : ByteArray).extract ((ji3) : Int).toNat ((IntKind.u64.wrap ((ji3) + 1)) : Int).toNat).size + 1 ≤ 9223372036854775807) = true := decide_eq_true c7
            try have c7b2 : (9223372036854775807 < ((⟨#[48, 49, 50, 51, 52, 53, 54, 55, 56, 57, 97, 98, 99, 100, 101, 102, 103, 104, 105, 106, 107, 108, 109, 110, 111, 112, 113, 114, 115, 116, 117, 118, 119, 120, 121, 122, 65, 66, 67, 68, 69, 70, 71, 72, 73, 74, 75, 76, 77, 78, 79, 80, 81, 82, 83, 84, 85, 86, 87, 88, 89, 90]⟩ : ByteArray).extract ((ji3) : Int).toNat ((IntKind.u64.wrap ((ji3) + 1)) : Int).toNat).size + 1) = False := eq_false (Nat.not_lt.2 c7)
            try (have c7q := c7; rw [ByteArray.size_extract, Nat.min_eq_left (by show _ ≤ Array.size _; simp only [List.size_toArray, List.length_cons, List.length_nil]; omega)] at c7q; have c7b3 := eq_false (Nat.not_lt.2 c7q); clear c7q)
            have H' := Aside0.mk H
            clear H
            go_enter Tryz.func41, Tryz.ntmps41
            go_wp2
            go_loopg [0, 3] k (fun kq v0 v3 w' => ∃ (x0_1 : Int) (x3_1 : ByteArray), v0 = .int .u64 x0_1 ∧ v3 = .string x3_1 ∧ Aside0 (spec_IdBase62.l0 kq x0_1 x3_1 = some r) ∧ Aside0 (kq ≤ k) ∧ Drawn0 w w')
            case atStart => exact ⟨(IntKind.u64.wrap (Int.tdiv (IntKind.u64.wrap (a0 - 1)) 62)), (((⟨#[48, 49, 50, 51, 52, 53, 54, 55, 56, 57, 97, 98, 99, 100, 101, 102, 103, 104, 105, 106, 107, 108, 109, 110, 111, 112, 113, 114, 115, 116, 117, 118, 119, 120, 121, 122, 65, 66, 67, 68, 69, 70, 71, 72, 73, 74, 75, 76, 77, 78, 79, 80, 81, 82, 83, 84, 85, 86, 87, 88, 89, 90]⟩ : ByteArray).extract ((ji3) : Int).toNat ((IntKind.u64.wrap ((ji3) + 1)) : Int).toNat) ++ (⟨#[95]⟩ : ByteArray)), (by first | rfl | (simp; done) | (simp [*]; done)), (by first | rfl | (simp; done) | (simp only [← hji3] <;> (first | rfl | simp)) | (simp [*]; done)), H', ⟨Nat.le_refl _⟩, by repeat (first | exact Drawn0.refl _ | apply Drawn0.step)⟩
            case round =>
              clear H'
              try clear c2
              try clear c2b0
              try clear p2
              try clear c4
              try clear c4b0
              try clear c4b1
              try clear c5
              try clear c5b0
              try clear c5b1
              try clear c6
              try clear c6b0
              try clear c6b1
              try clear c7
              try clear c7b0
              try clear c7b1
              try clear c7b2
              obtain ⟨x0_1, x3_1, rfl, rfl, HA, HK1, ⟨m1, rfl⟩⟩ := hrel
              cases gk with
              | zero => exact absurd HA.out (by simp [spec_IdBase62.l0])
              | succ k1 =>
                have H := HA.out
                clear HA
                simp only [spec_IdBase62.l0] at H
                by_cases c8 : x0_1 > 0
                · rw [if_pos c8] at H
                  have c8b0 : decide (0 < x0_1) = true := decide_eq_true c8
                  clear c8
                  obtain ⟨ji9, hji9⟩ : ∃ j_ : Int, (Int.tmod x0_1 62) = j_ := ⟨_, rfl⟩
                  replace H : (if 0 ≤ (ji9) then (if (ji9) ≤ (IntKind.u64.wrap ((ji9) + 1)) then (if (IntKind.u64.wrap ((ji9) + 1)) ≤ 62 then (if ((⟨#[48, 49, 50, 51, 52, 53, 54, 55, 56, 57, 97, 98, 99, 100, 101, 102, 103, 104, 105, 106, 107, 108, 109, 110, 111, 112, 113, 114, 115, 116, 117, 118, 119, 120, 121, 122, 65, 66, 67, 68, 69, 70, 71, 72, 73, 74, 75, 76, 77, 78, 79, 80, 81, 82, 83, 84, 85, 86, 87, 88, 89, 90]⟩ : ByteArray).extract ((ji9) : Int).toNat ((IntKind.u64.wrap ((ji9) + 1)) : Int).toNat).size + x3_1.size ≤ 9223372036854775807 then (spec_IdBase62.l0 k1 (IntKind.u64.wrap (Int.tdiv x0_1 62)) (((⟨#[48, 49, 50, 51, 52, 53, 54, 55, 56, 57, 97, 98, 99, 100, 101, 102, 103, 104, 105, 106, 107, 108, 109, 110, 111, 112, 113, 114, 115, 116, 117, 118, 119, 120, 121, 122, 65, 66, 67, 68, 69, 70, 71, 72, 73, 74, 75, 76, 77, 78, 79, 80, 81, 82, 83, 84, 85, 86, 87, 88, 89, 90]⟩ : ByteArray).extract ((ji9) : Int).toNat ((IntKind.u64.wrap ((ji9) + 1)) : Int).toNat) ++ x3_1)) else (none)) else (none)) else (none)) else (none)) = some r := by first | (rw [hji9] at H; exact H) | (simp only [hji9] at H ⊢; exact H)
                  by_cases c10 : 0 ≤ (ji9)
                  · rw [if_pos c10] at H
                    have c10b0 := eq_true c10
                    have c10b1 : decide (0 ≤ (ji9)) = true := decide_eq_true c10
                    clear c10
                    by_cases c11 : (ji9) ≤ (IntKind.u64.wrap ((ji9) + 1))
                    · rw [if_pos c11] at H
                      have c11b0 := eq_true c11
                      have c11b1 : decide ((ji9) ≤ (IntKind.u64.wrap ((ji9) + 1))) = true := decide_eq_true c11
                      by_cases c12 : (IntKind.u64.wrap ((ji9) + 1)) ≤ 62
                      · rw [if_pos c12] at H
                        have c12b0 := eq_true c12
                        have c12b1 : decide ((IntKind.u64.wrap ((ji9) + 1)) ≤ 62) = true := decide_eq_true c12
                        by_cases c13 : ((⟨#[48, 49, 50, 51, 52, 53, 54, 55, 56, 57, 97, 98, 99, 100, 101, 102, 103, 104, 105, 106, 107, 108, 109, 110, 111, 112, 113, 114, 115, 116, 117, 118, 119, 120, 121, 122, 65, 66, 67, 68, 69, 70, 71, 72, 73, 74, 75, 76, 77, 78, 79, 80, 81, 82, 83, 84, 85, 86, 87, 88, 89, 90]⟩ : ByteArray).extract ((ji9) : Int).toNat ((IntKind.u64.wrap ((ji9) + 1)) : Int).toNat).size + x3_1.size ≤ 9223372036854775807
                        · rw [if_pos c13] at H
                          have c13b0 := eq_true c13
                          have c13b1 : decide (((⟨#[48, 49, 50, 51, 52, 53, 54, 55, 56, 57, 97, 98, 99, 100, 101, 102, 103, 104, 105, 106, 107, 108, 109, 110, 111, 112, 113, 114, 115, 116, 117, 118, 119, 120, 121, 122, 65, 66, 67, 68, 69, 70, 71, 72, 73, 74, 75, 76, 77, 78, 79, 80, 81, 82, 83, 84, 85, 86, 87, 88, 89, 90]⟩ : ByteArray).extract ((ji9) : Int).toNat ((IntKind.u64.wrap ((ji9) + 1)) : Int).toNat).size + x3_1.size ≤ 9223372036854775807) = true := decide_eq_true c13
                          try have c13b2 : (9223372036854775807 < ((⟨#[48, 49, 50, 51, 52, 53, 54, 55, 56, 57, 97, 98, 99, 100, 101, 102, 103, 104, 105, 106, 107, 108, 109, 110, 111, 112, 113, 114, 115, 116, 117, 118, 119, 120, 121, 122, 65, 66, 67, 68, 69, 70, 71, 72, 73, 74, 75, 76, 77, 78, 79, 80, 81, 82, 83, 84, 85, 86, 87, 88, 89, 90]⟩ : ByteArray).extract ((ji9) : Int).toNat ((IntKind.u64.wrap ((ji9) + 1)) : Int).toNat).size + x3_1.size) = False := eq_false (Nat.not_lt.2 c13)
                          try (have c13q := c13; rw [ByteArray.size_extract, Nat.min_eq_left (by show _ ≤ Array.size _; simp only [List.size_toArray, List.length_cons, List.length_nil]; omega)] at c13q; have c13b3 := eq_false (Nat.not_lt.2 c13q); clear c13q)
                          have H' := Aside0.mk H
                          clear H
                          go_wp2
                          go_roundg k1
                          case measure => have := HK1.out; omega
                          case rel => exact ⟨(IntKind.u64.wrap (Int.tdiv x0_1 62)), (((⟨#[48, 49, 50, 51, 52, 53, 54, 55, 56, 57, 97, 98, 99, 100, 101, 102, 103, 104, 105, 106, 107, 108, 109, 110, 111, 112, 113, 114, 115, 116, 117, 118, 119, 120, 121, 122, 65, 66, 67, 68, 69, 70, 71, 72, 73, 74, 75, 76, 77, 78, 79, 80, 81, 82, 83, 84, 85, 86, 87, 88, 89, 90]⟩ : ByteArray).extract ((ji9) : Int).toNat ((IntKind.u64.wrap ((ji9) + 1)) : Int).toNat) ++ x3_1), (by first | rfl | (simp; done) | (simp [*]; done)), (by first | rfl | (simp; done) | (simp only [← hji9] <;> (first | rfl | simp)) | (simp [*]; done)), H', ⟨by have := HK1.out; omega⟩, by repeat (first | exact Drawn0.refl _ | apply Drawn0.step)⟩
                        · rw [if_neg c13] at H
                          exact absurd H (by simp)
                      · rw [if_neg c12] at H
                        exact absurd H (by simp)
                    · rw [if_neg c11] at H
                      exact absurd H (by simp)
                  · rw [if_neg c10] at H
                    exact absurd H (by simp)
                · rw [if_neg c8] at H
                  have c8b0 : decide (0 < x0_1) = false := decide_eq_false c8
                  clear c8
                  obtain rfl := Option.some.inj H
                  go_wp2
                  go_ret
                  exact ⟨by first | rfl | (simp; done) | (simp only [← hji3] <;> (first | rfl | simp)) | (simp [*]; done), by repeat (first | exact Drawn0.refl _ | apply Drawn0.step)⟩
          · rw [if_neg c7] at H
            exact absurd H (by simp)
        · rw [if_neg c6] at H
          exact absurd H (by simp)
      · rw [if_neg c5] at H
        exact absurd H (by simp)
    · rw [if_neg c4] at H
      exact absurd H (by simp)
  · rw [if_neg c2] at H
    have c2b0 : decide (0 < a0) = false := decide_eq_false c2
    clear c2
    obtain rfl := Option.some.inj H
    go_enter Tryz.func41, Tryz.ntmps41
    go_wp2
    go_ret
    exact ⟨by first | rfl | (simp; done) | (simp [*]; done), by repeat (first | exact Drawn0.refl _ | apply Drawn0.step)⟩

/-! ### spec_IdDisambiguator: function 35 -/
def spec_IdDisambiguator.f (k : Nat) (a0 : Int) : Option (ByteArray) := if a0 = 0 then (some (⟨#[]⟩ : ByteArray)) else ((spec_IdBase62.f k (IntKind.u64.wrap (a0 - 1))).bind fun t124 => (if 1 + t124.size ≤ 9223372036854775807 then (some ((⟨#[115]⟩ : ByteArray) ++ t124)) else (none)))
theorem spec_IdDisambiguator.mono : ∀ a0 k, LeO (spec_IdDisambiguator.f k a0) (spec_IdDisambiguator.f (k + 1) a0) := by
  intro a0 k
  unfold spec_IdDisambiguator.f
  repeat' first
      | (with_reducible exact spec_IdBase62.mono _ _)
      | (with_reducible exact LeO.refl _)
      | (with_reducible exact LeO.none _)
      | (with_reducible refine LeO.ite ?_ ?_)
      | (with_reducible refine LeO.bind ?_ (fun _ => ?_))
      | exact spec_IdBase62.mono _ _
      | exact LeO.none _
      | refine LeO.ite ?_ ?_
      | refine LeO.bind ?_ (fun _ => ?_)
set_option maxHeartbeats 8000000 in
set_option maxRecDepth 100000 in
theorem spec_IdDisambiguator.calls (k : Nat) (a0 : Int) (r : ByteArray) (w : World) (h : spec_IdDisambiguator.f k a0 = some r) :
    Calls Tryz.prog 35 #[.int .u64 a0] w fun e w' => e = .returned (.string r) ∧ Drawn0 w w' := by
  have H : (if a0 = 0 then (some (⟨#[]⟩ : ByteArray)) else ((spec_IdBase62.f k (IntKind.u64.wrap (a0 - 1))).bind fun t124 => (if 1 + t124.size ≤ 9223372036854775807 then (some ((⟨#[115]⟩ : ByteArray) ++ t124)) else (none)))) = some r := h
  clear h
  by_cases c2 : a0 = 0
  · rw [if_pos c2] at H
    have c2b0 : (a0 == 0) = true := beq_iff_eq.mpr c2
    have c2b1 : (a0 != 0) = false := bne_eq_false_iff_eq.mpr c2
    clear c2
    obtain rfl := Option.some.inj H
    go_enter Tryz.func35, Tryz.ntmps35
    go_wp2
    go_ret
    exact ⟨by first | rfl | (simp; done) | (simp [*]; done), by repeat (first | exact Drawn0.refl _ | apply Drawn0.step)⟩
  · rw [if_neg c2] at H
    have c2b0 : (a0 == 0) = false := beq_eq_false_iff_ne.mpr c2
    have c2b1 : (a0 != 0) = true := bne_iff_ne.mpr c2
    replace H := Option.bind_eq_some_iff.mp H
    obtain ⟨t124, A30, H⟩ := H
    replace H : (if 1 + t124.size ≤ 9223372036854775807 then (some ((⟨#[115]⟩ : ByteArray) ++ t124)) else (none)) = some r := H
    have A3 := Aside0.mk A30
    clear A30
    by_cases c4 : 1 + t124.size ≤ 9223372036854775807
    · rw [if_pos c4] at H
      have c4b0 := eq_true c4
      have c4b1 : decide (1 + t124.size ≤ 9223372036854775807) = true := decide_eq_true c4
      try have c4b2 : (9223372036854775807 < 1 + t124.size) = False := eq_false (Nat.not_lt.2 c4)
      obtain rfl := Option.some.inj H
      go_enter Tryz.func35, Tryz.ntmps35
      go_wp2_with (first | (go_at_call 15; refine (idCut_at _ _ _ _ _ _ (by assumption) (by assumption)).mono ?_; rintro e w_ ⟨rfl, rfl⟩) | ((with_reducible refine gate_callee (f := 41) rfl ?_); refine goesL_ (some 7) rfl rfl Tryz.func41 (by kernel_rfl) rfl #[.int .u64 (IntKind.u64.wrap (a0 - 1))] rfl (by (try simp only [List.map_toArray, List.map_cons, List.map_nil]); first | done | rfl | (simp only [List.length_drop, List.length_take]; rfl)) ?_; (with_reducible refine (spec_IdBase62.calls k (IntKind.u64.wrap (a0 - 1)) t124 _ A3.out).mono ?_); rintro e w' ⟨rfl, ⟨nd, rfl⟩⟩; refine ⟨_, rfl, ?_⟩))
      go_ret
      exact ⟨by first | rfl | (simp; done) | (simp [*]; done), by repeat (first | exact Drawn0.refl _ | apply Drawn0.step)⟩
    · rw [if_neg c4] at H
      exact absurd H (by simp)

end Go.Proofs.YtdmkdclockmjbaaGreatDoor.PFnBehindRefused
