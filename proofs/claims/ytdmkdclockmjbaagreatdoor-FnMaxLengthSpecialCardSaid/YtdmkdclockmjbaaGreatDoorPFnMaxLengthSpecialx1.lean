/- Written by a program of this session (wip/tools/myprint.py) with the kit's print: contracts of the functions that one statement reaches; functions that are proved by hand are taken as printed. Conditions: none. -/
import Derived.Test.YtdmkdclockmjbaaGreatDoorPFnMaxLengthSpecialx0
namespace Go.Proofs.YtdmkdclockmjbaaGreatDoor.PFnMaxLengthSpecial
open Go.RowKit Go.Proofs.YtdmkdclockmjbaaGreatDoorW.PrintWords Go.Proofs.YtdmkdclockmjbaaGreatDoorW.PrintLast Go.Proofs.YtdmkdclockmjbaaGreatDoorW.PrintMore
attribute [local go_sem] max2_int min2_int max_two min_two max_three min_three max_four min_four   -- for this text's walks alone
set_option linter.unusedVariables false
set_option linter.unusedSimpArgs false

/-! ### laws_zzFits1: function 13 -/
def laws_zzFits1.l0 : Nat → List (List Int) → Int → Int → Option (Bool)
  | 0, _, _, _ => none
  | k + 1, x8, x9, x10 => if x10 < x9 then (if 0 ≤ x10 then (if x10 < (x8.length : Int) then (if ((rd_L1 x8 x10).length : Int) > 2147483647 then (some false) else (laws_zzFits1.l0 k x8 x9 (wrap64 (x10 + 1)))) else (none)) else (none)) else (some true)
def laws_zzFits1.f (k : Nat) (l0 : List (List Int)) : Option (Bool) := if (l0.length : Int) > 2147483647 then (some false) else (laws_zzFits1.l0 k l0 (l0.length : Int) 0)
theorem laws_zzFits1.mono_l : ∀ k, (∀ y0 y1 y2, LeO (laws_zzFits1.l0 k y0 y1 y2) (laws_zzFits1.l0 (k + 1) y0 y1 y2))
  | 0 => fun _ _ _ r h => by simp [laws_zzFits1.l0] at h
  | k + 1 => by
    have ih0 := laws_zzFits1.mono_l k
    · intro y0 y1 y2
      unfold laws_zzFits1.l0
      repeat' first
      | (with_reducible exact ih0 _ _ _)
      | (with_reducible exact LeO.refl _)
      | (with_reducible exact LeO.none _)
      | (with_reducible refine LeO.ite ?_ ?_)
      | (with_reducible refine LeO.bind ?_ (fun _ => ?_))
      | exact ih0 _ _ _
      | exact LeO.none _
      | refine LeO.ite ?_ ?_
      | refine LeO.bind ?_ (fun _ => ?_)
theorem laws_zzFits1.mono : ∀ a0 k, LeO (laws_zzFits1.f k a0) (laws_zzFits1.f (k + 1) a0) := by
  intro a0 k
  have ih0 := laws_zzFits1.mono_l k
  unfold laws_zzFits1.f
  repeat' first
      | (with_reducible exact ih0 _ _ _)
      | (with_reducible exact LeO.refl _)
      | (with_reducible exact LeO.none _)
      | (with_reducible refine LeO.ite ?_ ?_)
      | (with_reducible refine LeO.bind ?_ (fun _ => ?_))
      | exact ih0 _ _ _
      | exact LeO.none _
      | refine LeO.ite ?_ ?_
      | refine LeO.bind ?_ (fun _ => ?_)
set_option maxHeartbeats 8000000 in
set_option maxRecDepth 100000 in
theorem laws_zzFits1.calls (k : Nat) (A0 : Option Addr) (c0 : Nat) (l0 : List (List Int)) (r : Bool) (w : World) (hr0 : Kd.C (Kd.slice 5 (Kd.int .u8)) w A0 l0.length l0) (hc0 : l0.length ≤ c0) (h : laws_zzFits1.f k l0 = some r) :
    Calls Tryz.prog 13 #[.slice A0 l0.length c0] w fun e w' => e = .returned (.bool r) ∧ Drawn0 w w' := by
  have HR0 := Aside0.mk hr0
  have HC0 := Aside0.mk hc0
  clear hr0 hc0
  have H : (if (l0.length : Int) > 2147483647 then (some false) else (laws_zzFits1.l0 k l0 (l0.length : Int) 0)) = some r := h
  clear h
  by_cases c2 : (l0.length : Int) > 2147483647
  · rw [if_pos c2] at H
    have c2b0 : decide (2147483647 < (l0.length : Int)) = true := decide_eq_true c2
    have c2b1 : decide (2147483647 < l0.length) = true := decide_eq_true (by omega)
    clear c2
    obtain rfl := Option.some.inj H
    go_enter Tryz.func13, Tryz.ntmps13
    go_wp2
    go_ret
    exact ⟨by first | rfl | (simp; done) | (simp [*]; done), by repeat (first | exact Drawn0.refl _ | apply Drawn0.step)⟩
  · rw [if_neg c2] at H
    have c2b0 : decide (2147483647 < (l0.length : Int)) = false := decide_eq_false c2
    have c2b1 : decide (2147483647 < l0.length) = false := decide_eq_false (by omega)
    clear c2
    have H' := Aside0.mk H
    clear H
    go_enter Tryz.func13, Tryz.ntmps13
    go_wp2
    go_loopg [10] k (fun kq v10 w' => ∃ (x10_1 : Int), v10 = .int .i64 x10_1 ∧ Aside0 (laws_zzFits1.l0 kq l0 (l0.length : Int) x10_1 = some r) ∧ Aside0 (kq ≤ k) ∧ Drawn0 w w')
    case atStart => exact ⟨(0), (by first | rfl | (simp; done) | (simp [*]; done)), H', ⟨Nat.le_refl _⟩, by repeat (first | exact Drawn0.refl _ | apply Drawn0.step)⟩
    case round =>
      clear H'
      try clear c1
      try clear c2
      try clear c2b0
      try clear c2b1
      try clear p2
      obtain ⟨x10_1, rfl, HA, HK1, ⟨m1, rfl⟩⟩ := hrel
      cases gk with
      | zero => exact absurd HA.out (by simp [laws_zzFits1.l0])
      | succ k1 =>
        have H := HA.out
        clear HA
        simp only [laws_zzFits1.l0] at H
        by_cases c3 : x10_1 < (l0.length : Int)
        · rw [if_pos c3] at H
          have c3b0 : decide (x10_1 < (l0.length : Int)) = true := decide_eq_true c3
          clear c3
          by_cases c4 : 0 ≤ x10_1
          · rw [if_pos c4] at H
            have c4b0 : decide (0 ≤ x10_1) = true := decide_eq_true c4
            clear c4
            by_cases c5 : x10_1 < (l0.length : Int)
            · rw [if_pos c5] at H
              have c5b0 : decide (x10_1 < (l0.length : Int)) = true := decide_eq_true c5
              clear c5
              by_cases c6 : ((rd_L1 l0 x10_1).length : Int) > 2147483647
              · rw [if_pos c6] at H
                have c6b0 : decide (2147483647 < ((rd_L1 l0 x10_1).length : Int)) = true := decide_eq_true c6
                have c6b1 : decide (2147483647 < (rd_L1 l0 x10_1).length) = true := decide_eq_true (by omega)
                clear c6
                obtain rfl := Option.some.inj H
                have p101 : 0 ≤ (x10_1 : Int) := of_decide_eq_true (by first | (with_reducible assumption) | assumption)
                have q101 : x10_1 < (l0.length : Int) := of_decide_eq_true (by first | (with_reducible assumption) | assumption)
                obtain ⟨ad101, A101_0, c101_0, e101, hx101_0, hl101_0, hi101_0⟩ := at_L1 HR0.out x10_1 p101 q101
                cases e101
                have HR101_0 := Aside0.mk hi101_0
                have HC101_0 := Aside0.mk hl101_0
                clear hi101_0 hl101_0
                replace p101 := eq_true p101
                replace q101 := eq_true q101
                go_wp2
                go_ret
                exact ⟨by first | rfl | (simp; done) | (simp [*]; done), by repeat (first | exact Drawn0.refl _ | apply Drawn0.step)⟩
              · rw [if_neg c6] at H
                have c6b0 : decide (2147483647 < ((rd_L1 l0 x10_1).length : Int)) = false := decide_eq_false c6
                have c6b1 : decide (2147483647 < (rd_L1 l0 x10_1).length) = false := decide_eq_false (by omega)
                clear c6
                have H' := Aside0.mk H
                clear H
                have p101 : 0 ≤ (x10_1 : Int) := of_decide_eq_true (by first | (with_reducible assumption) | assumption)
                have q101 : x10_1 < (l0.length : Int) := of_decide_eq_true (by first | (with_reducible assumption) | assumption)
                obtain ⟨ad101, A101_0, c101_0, e101, hx101_0, hl101_0, hi101_0⟩ := at_L1 HR0.out x10_1 p101 q101
                cases e101
                have HR101_0 := Aside0.mk hi101_0
                have HC101_0 := Aside0.mk hl101_0
                clear hi101_0 hl101_0
                replace p101 := eq_true p101
                replace q101 := eq_true q101
                go_wp2
                go_roundg k1
                case measure => have := HK1.out; omega
                case rel => exact ⟨(wrap64 (x10_1 + 1)), (by first | rfl | (simp; done) | (simp [*]; done)), H', ⟨by have := HK1.out; omega⟩, by repeat (first | exact Drawn0.refl _ | apply Drawn0.step)⟩
            · rw [if_neg c5] at H
              exact absurd H (by simp)
          · rw [if_neg c4] at H
            exact absurd H (by simp)
        · rw [if_neg c3] at H
          have c3b0 : decide (x10_1 < (l0.length : Int)) = false := decide_eq_false c3
          clear c3
          obtain rfl := Option.some.inj H
          go_wp2
          go_ret
          exact ⟨by first | rfl | (simp; done) | (simp [*]; done), by repeat (first | exact Drawn0.refl _ | apply Drawn0.step)⟩

/-! ### spec_AnPlain: function 14 -/
def spec_AnPlain.l0 : Nat → List Int → List Int → Int → Int → Option (ByteArray)
  | 0, _, _, _, _ => none
  | k + 1, x3, x12, x13, x14 => if x14 < x13 then (if 0 ≤ x14 then (if x14 < (x12.length : Int) then (if 0 ≤ (Int.tmod (wrap64 (rd x12 x14)) 63) then (if (Int.tmod (wrap64 (rd x12 x14)) 63) < 63 then (if x14 < (x3.length : Int) then (spec_AnPlain.l0 k (x3.set (x14 : Int).toNat (bt (⟨#[97, 98, 99, 100, 101, 102, 103, 104, 105, 106, 107, 108, 109, 110, 111, 112, 113, 114, 115, 116, 117, 118, 119, 120, 121, 122, 65, 66, 67, 68, 69, 70, 71, 72, 73, 74, 75, 76, 77, 78, 79, 80, 81, 82, 83, 84, 85, 86, 87, 88, 89, 90, 48, 49, 50, 51, 52, 53, 54, 55, 56, 57, 95]⟩ : ByteArray) (Int.tmod (wrap64 (rd x12 x14)) 63))) x12 x13 (wrap64 (x14 + 1))) else (none)) else (none)) else (none)) else (none)) else (none)) else (some (strOfNums x3))
def spec_AnPlain.f (k : Nat) (l0 : List Int) : Option (ByteArray) := if (l0.length : Int) = 0 then (some (⟨#[97]⟩ : ByteArray)) else (if 0 ≤ (l0.length : Int) then (if ((l0.length : Int) : Int).toNat ≤ 281474976710656 then (spec_AnPlain.l0 k (List.replicate ((l0.length : Int) : Int).toNat 0) l0 (l0.length : Int) 0) else (none)) else (none))
theorem spec_AnPlain.mono_l : ∀ k, (∀ y0 y1 y2 y3, LeO (spec_AnPlain.l0 k y0 y1 y2 y3) (spec_AnPlain.l0 (k + 1) y0 y1 y2 y3))
  | 0 => fun _ _ _ _ r h => by simp [spec_AnPlain.l0] at h
  | k + 1 => by
    have ih0 := spec_AnPlain.mono_l k
    · intro y0 y1 y2 y3
      unfold spec_AnPlain.l0
      repeat' first
      | (with_reducible exact ih0 _ _ _ _)
      | (with_reducible exact LeO.refl _)
      | (with_reducible exact LeO.none _)
      | (with_reducible refine LeO.ite ?_ ?_)
      | (with_reducible refine LeO.bind ?_ (fun _ => ?_))
      | exact ih0 _ _ _ _
      | exact LeO.none _
      | refine LeO.ite ?_ ?_
      | refine LeO.bind ?_ (fun _ => ?_)
theorem spec_AnPlain.mono : ∀ a0 k, LeO (spec_AnPlain.f k a0) (spec_AnPlain.f (k + 1) a0) := by
  intro a0 k
  have ih0 := spec_AnPlain.mono_l k
  unfold spec_AnPlain.f
  repeat' first
      | (with_reducible exact ih0 _ _ _ _)
      | (with_reducible exact LeO.refl _)
      | (with_reducible exact LeO.none _)
      | (with_reducible refine LeO.ite ?_ ?_)
      | (with_reducible refine LeO.bind ?_ (fun _ => ?_))
      | exact ih0 _ _ _ _
      | exact LeO.none _
      | refine LeO.ite ?_ ?_
      | refine LeO.bind ?_ (fun _ => ?_)
set_option maxHeartbeats 8000000 in
set_option maxRecDepth 100000 in
theorem spec_AnPlain.calls (k : Nat) (A0 : Option Addr) (c0 : Nat) (l0 : List Int) (r : ByteArray) (w : World) (hr0 : Kd.C (Kd.int .u8) w A0 l0.length l0) (hc0 : l0.length ≤ c0) (h : spec_AnPlain.f k l0 = some r) :
    Calls Tryz.prog 14 #[.slice A0 l0.length c0] w fun e w' => e = .returned (.string r) ∧ Below w.heap.size w w' := by
  have HR0 := Aside0.mk hr0
  have HC0 := Aside0.mk hc0
  clear hr0 hc0
  have HB := Aside0.mk (Below.refl w.heap.size w)
  have H : (if (l0.length : Int) = 0 then (some (⟨#[97]⟩ : ByteArray)) else (if 0 ≤ (l0.length : Int) then (if ((l0.length : Int) : Int).toNat ≤ 281474976710656 then (spec_AnPlain.l0 k (List.replicate ((l0.length : Int) : Int).toNat 0) l0 (l0.length : Int) 0) else (none)) else (none))) = some r := h
  clear h
  by_cases c2 : (l0.length : Int) = 0
  · rw [if_pos c2] at H
    have c2b0 : ((l0.length : Int) == 0) = true := beq_iff_eq.mpr c2
    have c2b1 : ((l0.length : Int) != 0) = false := bne_eq_false_iff_eq.mpr c2
    clear c2
    obtain rfl := Option.some.inj H
    go_enter Tryz.func14, Tryz.ntmps14
    go_wp2
    go_ret
    exact ⟨by first | rfl | (simp [errW_none, errW_some] <;> rfl) | (simp [*, errW_none, errW_some] <;> rfl), by repeat (first | (with_reducible first | exact HB.out | apply below_alloc | apply pw_below_drewN | apply below_drew1) | exact HB.out)⟩
  · rw [if_neg c2] at H
    have c2b0 : ((l0.length : Int) == 0) = false := beq_eq_false_iff_ne.mpr c2
    have c2b1 : ((l0.length : Int) != 0) = true := bne_iff_ne.mpr c2
    have c2b2 : ¬ (l0 = []) := fun h_ => c2 (by rw [h_]; rfl)
    by_cases c3 : 0 ≤ (l0.length : Int)
    · rw [if_pos c3] at H
      have c3b0 := eq_true c3
      have c3b1 : decide (0 ≤ (l0.length : Int)) = true := decide_eq_true c3
      clear c3
      by_cases c4 : ((l0.length : Int) : Int).toNat ≤ 281474976710656
      · rw [if_pos c4] at H
        have c4b0 := eq_true c4
        have c4b1 : decide (((l0.length : Int) : Int).toNat ≤ 281474976710656) = true := decide_eq_true c4
        clear c4
        obtain ⟨y102, hy102⟩ : ∃ y_ : List Int, y_ = (List.replicate ((l0.length : Int) : Int).toNat 0) := ⟨_, rfl⟩
        replace H : (spec_AnPlain.l0 k y102 l0 (l0.length : Int) 0) = some r := by first | (rw [hy102]; with_reducible exact H) | (have H2_ := (Option.bind_some _ _).symm.trans H; rw [hy102]; with_reducible exact H2_) | (have H2_ := (Option.bind_some _ _).symm.trans H; with_reducible exact H2_) | with_reducible exact H | (rw [hy102]; exact H) | exact H
        have Ny102 := Aside0.mk hy102
        clear hy102
        have H' := Aside0.mk H
        clear H
        go_enter Tryz.func14, Tryz.ntmps14
        go_wp2_with (first | (go_at_call 15; refine (idCut_at _ _ _ _ _ _ (by assumption) (by assumption)).mono ?_; rintro e w_ ⟨rfl, rfl⟩) | ((with_reducible refine gate_dst (N := 11) rfl ?_); refine Kd.R_make (Kd.int .u8) _ 5 rfl (N := 11) rfl 22 _ _ rfl (l0.length : Int) rfl rfl Tryz.underlying22 (.int .u8 0) 1 info5 rfl (by decide) (by omega) 0 (ok := fun _ => True) (okp := fun _ => True) rfl (fun _ hk => hk) trivial (of_decide_eq_true (by first | (with_reducible assumption) | assumption)) (Nat.le_trans (Nat.mul_le_mul_right _ (of_decide_eq_true (by first | (with_reducible assumption) | assumption) : (l0.length : Int).toNat ≤ 281474976710656)) (by omega)) (Below.refl _ _) (Nat.le_refl _) ?_; intro v103 w5 ho6 hb hg_ hnew_; clear hg_ hnew_; (first | rw [← Ny102.out] at ho6 | (simp only [Int.reduceToNat] at ho6; rw [← Ny102.out] at ho6)); have n0_ := Aside0.mk (Kd.R_lower ho6 (below_size (by repeat (first | (with_reducible first | exact HB.out | apply below_alloc | apply pw_below_drewN | apply below_drew1) | exact HB.out)))); have n1_ := Aside0.mk (below_step (by repeat (first | (with_reducible first | exact HB.out | apply below_alloc | apply pw_below_drewN | apply below_drew1) | exact HB.out)) hb); clear HB; have HO104 := n0_; have HB := n1_; clear n0_ n1_; clear hb ho6))
        go_loopg [14] k (fun kq v14 w' => ∃ (x3_1 : List Int) (x14_1 : Int), v14 = .int .i64 x14_1 ∧ Aside0 (spec_AnPlain.l0 kq x3_1 l0 (l0.length : Int) x14_1 = some r) ∧ Aside0 (kq ≤ k) ∧ Aside0 (Kd.R (Kd.int .u8) 5 w' w.heap.size (fun _ => True) v103 x3_1) ∧ Aside0 (Below w.heap.size w w'))
        case atStart => exact ⟨(y102), (0), (by first | rfl | (simp; done) | (simp [*]; done)), H', ⟨Nat.le_refl _⟩, ⟨by (with_reducible repeat (first | apply Kd.R_alloc | apply Kd.R_drewN | apply Kd.R_drew)); exact HO104.out⟩, ⟨by repeat (first | (with_reducible first | exact HB.out | apply below_alloc | apply pw_below_drewN | apply below_drew1) | exact HB.out)⟩⟩
        case round =>
          clear H'
          try clear c1
          try clear c2
          try clear c2b0
          try clear c2b1
          try clear c2b2
          try clear p2
          try clear c3
          try clear c3b0
          try clear c3b1
          try clear c4
          try clear c4b0
          try clear c4b1
          obtain ⟨x3_1, x14_1, rfl, HA, HK1, HO_3, HB⟩ := hrel
          cases gk with
          | zero => exact absurd HA.out (by simp [spec_AnPlain.l0])
          | succ k1 =>
            have H := HA.out
            clear HA
            simp only [spec_AnPlain.l0] at H
            by_cases c7 : x14_1 < (l0.length : Int)
            · rw [if_pos c7] at H
              have c7b0 : decide (x14_1 < (l0.length : Int)) = true := decide_eq_true c7
              clear c7
              by_cases c8 : 0 ≤ x14_1
              · rw [if_pos c8] at H
                have c8b0 : decide (0 ≤ x14_1) = true := decide_eq_true c8
                clear c8
                by_cases c9 : x14_1 < (l0.length : Int)
                · rw [if_pos c9] at H
                  have c9b0 : decide (x14_1 < (l0.length : Int)) = true := decide_eq_true c9
                  clear c9
                  obtain ⟨ji10, hji10⟩ : ∃ j_ : Int, (Int.tmod (wrap64 (rd l0 x14_1)) 63) = j_ := ⟨_, rfl⟩
                  replace H : (if 0 ≤ (ji10) then (if (ji10) < 63 then (if x14_1 < (x3_1.length : Int) then (spec_AnPlain.l0 k1 (x3_1.set (x14_1 : Int).toNat (bt (⟨#[97, 98, 99, 100, 101, 102, 103, 104, 105, 106, 107, 108, 109, 110, 111, 112, 113, 114, 115, 116, 117, 118, 119, 120, 121, 122, 65, 66, 67, 68, 69, 70, 71, 72, 73, 74, 75, 76, 77, 78, 79, 80, 81, 82, 83, 84, 85, 86, 87, 88, 89, 90, 48, 49, 50, 51, 52, 53, 54, 55, 56, 57, 95]⟩ : ByteArray) (ji10))) l0 (l0.length : Int) (wrap64 (x14_1 + 1))) else (none)) else (none)) else (none)) = some r := by first | (rw [hji10] at H; exact H) | (simp only [hji10] at H ⊢; exact H)
                  by_cases c11 : 0 ≤ (ji10)
                  · rw [if_pos c11] at H
                    have c11b0 : decide (0 ≤ (ji10)) = true := decide_eq_true c11
                    clear c11
                    by_cases c12 : (ji10) < 63
                    · rw [if_pos c12] at H
                      have c12b0 : decide ((ji10) < 63) = true := decide_eq_true c12
                      clear c12
                      by_cases c14 : x14_1 < (x3_1.length : Int)
                      · rw [if_pos c14] at H
                        have c14b0 : decide (x14_1 < (x3_1.length : Int)) = true := decide_eq_true c14
                        clear c14
                        obtain ⟨y106, hy106⟩ : ∃ y_ : List Int, y_ = (x3_1.set (x14_1 : Int).toNat (bt (⟨#[97, 98, 99, 100, 101, 102, 103, 104, 105, 106, 107, 108, 109, 110, 111, 112, 113, 114, 115, 116, 117, 118, 119, 120, 121, 122, 65, 66, 67, 68, 69, 70, 71, 72, 73, 74, 75, 76, 77, 78, 79, 80, 81, 82, 83, 84, 85, 86, 87, 88, 89, 90, 48, 49, 50, 51, 52, 53, 54, 55, 56, 57, 95]⟩ : ByteArray) (ji10))) := ⟨_, rfl⟩
                        replace H : (spec_AnPlain.l0 k1 y106 l0 (l0.length : Int) (wrap64 (x14_1 + 1))) = some r := by first | (rw [hy106]; with_reducible exact H) | (have H2_ := (Option.bind_some _ _).symm.trans H; rw [hy106]; with_reducible exact H2_) | (have H2_ := (Option.bind_some _ _).symm.trans H; with_reducible exact H2_) | with_reducible exact H | (rw [hy106]; exact H) | exact H
                        have Ny106 := Aside0.mk hy106
                        clear hy106
                        have H' := Aside0.mk H
                        clear H
                        have p105 : 0 ≤ (x14_1 : Int) := of_decide_eq_true (by first | (with_reducible assumption) | assumption)
                        have q105 : x14_1 < (l0.length : Int) := of_decide_eq_true (by first | (with_reducible assumption) | assumption)
                        obtain ⟨ad105, e105, hx105_0⟩ := Kd.at_int HR0.out x14_1 p105 q105
                        cases e105
                        replace hx105_0 := (HB.out.cell (World.block_lt_of_cell? w _ hx105_0)).trans hx105_0
                        replace p105 := eq_true p105
                        replace q105 := eq_true q105
                        have p13 : 0 ≤ ((ji10) : Int) := of_decide_eq_true (by first | (with_reducible assumption) | assumption)
                        have q13 : (ji10) < (63 : Int) := of_decide_eq_true (by first | (with_reducible assumption) | assumption)
                        have hx13 := bt_at (⟨#[97, 98, 99, 100, 101, 102, 103, 104, 105, 106, 107, 108, 109, 110, 111, 112, 113, 114, 115, 116, 117, 118, 119, 120, 121, 122, 65, 66, 67, 68, 69, 70, 71, 72, 73, 74, 75, 76, 77, 78, 79, 80, 81, 82, 83, 84, 85, 86, 87, 88, 89, 90, 48, 49, 50, 51, 52, 53, 54, 55, 56, 57, 95]⟩ : ByteArray) (ji10)
                        replace p13 := eq_true p13
                        replace q13 := eq_true q13
                        have p15 : 0 ≤ (x14_1 : Int) := of_decide_eq_true (by first | (with_reducible assumption) | assumption)
                        have q15 : (x14_1 : Int) < ((x3_1.length : Int) : Int) := of_decide_eq_true (by first | (with_reducible assumption) | assumption)
                        obtain ⟨go15, co15, eo15, gb15, gl15, cl15, HG15⟩ := Kd.R_form HO_3.out (by omega)
                        (first | cases eo15 | (injection eo15 with ea_ en_ ec_; (first | subst ea_ | (injection ea_ with ea_; subst ea_)); subst ec_; clear en_))
                        have GB15 := Aside0.mk gb15
                        have GG15 := Aside0.mk HG15
                        clear gb15 gl15 HG15
                        obtain ⟨hx15_0, hf15_0⟩ := Kd.R_celln 0 HO_3.out (x14_1 : Int) p15 q15
                        replace p15 := eq_true p15
                        replace q15 := eq_true q15
                        have HP16 := Kd.R_putg HO_3.out (x14_1 : Int) (bt (⟨#[97, 98, 99, 100, 101, 102, 103, 104, 105, 106, 107, 108, 109, 110, 111, 112, 113, 114, 115, 116, 117, 118, 119, 120, 121, 122, 65, 66, 67, 68, 69, 70, 71, 72, 73, 74, 75, 76, 77, 78, 79, 80, 81, 82, 83, 84, 85, 86, 87, 88, 89, 90, 48, 49, 50, 51, 52, 53, 54, 55, 56, 57, 95]⟩ : ByteArray) (ji10))
                        go_wp2_with (first | (go_at_call 15; refine (idCut_at _ _ _ _ _ _ (by assumption) (by assumption)).mono ?_; rintro e w_ ⟨rfl, rfl⟩) | ((with_reducible refine gate_store (t := 5) (p := 25) rfl ?_); refine store_event (t := 5) (p := 25) (v := ?vo_w17) (w1 := (wr.setCell ⟨go15, (x14_1 : Int).toNat, none⟩ (.int .u8 (bt (⟨#[97, 98, 99, 100, 101, 102, 103, 104, 105, 106, 107, 108, 109, 110, 111, 112, 113, 114, 115, 116, 117, 118, 119, 120, 121, 122, 65, 66, 67, 68, 69, 70, 71, 72, 73, 74, 75, 76, 77, 78, 79, 80, 81, 82, 83, 84, 85, 86, 87, 88, 89, 90, 48, 49, 50, 51, 52, 53, 54, 55, 56, 57, 95]⟩ : ByteArray) (ji10))))) ?hg ?ho ?hn ?hr ?_; (case ho => rfl); (case hg => rfl); (case hn => rfl); (case hr => first | (go_simp; done) | (go_simp; rfl)); intro w17 hw; have hg : wr.grownBy w17 (some go15) := (by rw [hw]; exact HP16.2); have hp_ : Kd.R (Kd.int .u8) 5 w17 w.heap.size (fun _ => True) (.slice (some ⟨go15, 0, none⟩) x3_1.length co15) y106 := (by rw [hw, Ny106.out]; exact HP16.1); clear HP16; have n0_ := Aside0.mk (hp_); have n1_ := Aside0.mk ((by rw [hw]; exact below_set (HB.out) GB15.out : Below w.heap.size w w17)); clear HO_3; clear HB; have HO_3 := n0_; have HB := n1_; clear n0_ n1_; clear hg hw hp_))
                        go_roundg k1
                        case measure => have := HK1.out; omega
                        case rel => exact ⟨(y106), (wrap64 (x14_1 + 1)), (by first | rfl | (simp; done) | (simp [*]; done)), H', ⟨by have := HK1.out; omega⟩, ⟨by (with_reducible repeat (first | apply Kd.R_alloc | apply Kd.R_drewN | apply Kd.R_drew)); exact HO_3.out⟩, ⟨by repeat (first | (with_reducible first | exact HB.out | apply below_alloc | apply pw_below_drewN | apply below_drew1) | exact HB.out)⟩⟩
                      · rw [if_neg c14] at H
                        exact absurd H (by simp)
                    · rw [if_neg c12] at H
                      exact absurd H (by simp)
                  · rw [if_neg c11] at H
                    exact absurd H (by simp)
                · rw [if_neg c9] at H
                  exact absurd H (by simp)
              · rw [if_neg c8] at H
                exact absurd H (by simp)
            · rw [if_neg c7] at H
              have c7b0 : decide (x14_1 < (l0.length : Int)) = false := decide_eq_false c7
              clear c7
              obtain rfl := Option.some.inj H
              have hcv18 := own_string (P := Tryz.prog) Tryz.underlying22 Tryz.underlying5 Tryz.underlying9 (Kd.own_of_R HO_3.out)
              go_wp2
              go_ret
              exact ⟨by first | rfl | (simp [errW_none, errW_some] <;> rfl) | (simp [*, errW_none, errW_some] <;> rfl), by repeat (first | (with_reducible first | exact HB.out | apply below_alloc | apply pw_below_drewN | apply below_drew1) | exact HB.out)⟩
      · rw [if_neg c4] at H
        exact absurd H (by simp)
    · rw [if_neg c3] at H
      exact absurd H (by simp)

/-! ### laws_idCut: function 15 -/
def laws_idCut.f (l0 : List Int) : Option (List Int) := if 0 ≤ (mn (l0.length : Int) 1000) then (if (mn (l0.length : Int) 1000) ≤ (l0.length : Int) then (some (l0.take ((mn (l0.length : Int) 1000) : Int).toNat)) else (none)) else (none)
set_option maxHeartbeats 8000000 in
set_option maxRecDepth 100000 in
theorem laws_idCut.calls (P0_ : Nat → Prop) (u9000_ : Value) (l0 : List Int) (r : List Int) (w0 w : World) (hB : Below w0.heap.size w0 w) (ho0 : Kd.R (Kd.int .u8) 5 w w0.heap.size P0_ u9000_ l0) (h : laws_idCut.f l0 = some r) :
    Calls Tryz.prog 15 #[u9000_] w fun e w' => ∃ v0_ : Value, e = .returned (v0_) ∧ Kd.R (Kd.int .u8) 5 w' w0.heap.size (fun k_ => (P0_ k_ ∨ w.heap.size ≤ k_)) v0_ r ∧ Below w0.heap.size w0 w' ∧ Kept w w' (fun k_ => P0_ k_) := by
  have HO0 := Aside0.mk (show Kd.R (Kd.int .u8) 5 w w0.heap.size (fun k_ => (P0_ k_ ∨ w.heap.size ≤ k_)) u9000_ l0 from Kd.R_mono ho0 (fun k_ hk => (.inl hk)))
  have HK := Aside0.mk (Kept.refl w (fun k_ => P0_ k_))
  have HW0 := Aside0.mk hB.size
  have HB := Aside0.mk hB
  clear hB
  have H : (if 0 ≤ (mn (l0.length : Int) 1000) then (if (mn (l0.length : Int) 1000) ≤ (l0.length : Int) then (some (l0.take ((mn (l0.length : Int) 1000) : Int).toNat)) else (none)) else (none)) = some r := h
  clear h
  obtain ⟨ji2, hji2⟩ : ∃ j_ : Int, (mn (l0.length : Int) 1000) = j_ := ⟨_, rfl⟩
  replace H : (if 0 ≤ (ji2) then (if (ji2) ≤ (l0.length : Int) then (some (l0.take ((ji2) : Int).toNat)) else (none)) else (none)) = some r := by first | (rw [hji2] at H; exact H) | (simp only [hji2] at H ⊢; exact H)
  (try (have hji2h : ji2 ≤ 1000 := by (rw [← hji2]; unfold mn; (repeat' split) <;> omega)))
  (try (have hji2g : ji2 ≤ 64 := by omega))
  (try (have hji2l : 0 ≤ ji2 := by (rw [← hji2]; unfold mn; (repeat' split) <;> omega)))
  (try (have hji2m : 0 ≤ ji2 := by omega))
  have hji2_ : (if 1000 < (l0.length : Int) then 1000 else (l0.length : Int)) = ji2 := hji2
  by_cases c3 : 0 ≤ (ji2)
  · rw [if_pos c3] at H
    have c3b0 := eq_true c3
    have c3b1 : decide (0 ≤ (ji2)) = true := decide_eq_true c3
    clear c3
    by_cases c4 : (ji2) ≤ (l0.length : Int)
    · rw [if_pos c4] at H
      have c4b0 := eq_true c4
      have c4b1 : decide ((ji2) ≤ (l0.length : Int)) = true := decide_eq_true c4
      clear c4
      obtain ⟨y107, hy107⟩ : ∃ y_ : List Int, y_ = (l0.take ((ji2) : Int).toNat) := ⟨_, rfl⟩
      replace H : (some y107) = some r := by first | (rw [hy107]; with_reducible exact H) | (have H2_ := (Option.bind_some _ _).symm.trans H; rw [hy107]; with_reducible exact H2_) | (have H2_ := (Option.bind_some _ _).symm.trans H; with_reducible exact H2_) | with_reducible exact H | (rw [hy107]; exact H) | exact H
      have Ny107 := Aside0.mk hy107
      clear hy107
      obtain rfl := Option.some.inj H
      obtain ⟨Ao5, co5, eo5⟩ := Kd.R_slice HO0.out
      subst eo5
      have q6 : ((ji2) : Int) ≤ ((l0.length : Int) : Int) := of_decide_eq_true (by first | (with_reducible assumption) | assumption)
      obtain ⟨i06, hi06, _, hsz6, _⟩ := info_parts info5
      have hcut6 := cut_to (P := Tryz.prog) 22 5 .i64 Tryz.underlying22 hi06 Ao5 l0.length co5 (ji2) (of_decide_eq_true (by first | (with_reducible assumption) | assumption)) q6 (Kd.R_reads' HO0.out).2.1
      have hr6 := Kd.R_take (m := ((ji2) : Int).toNat) HO0.out (by omega)
      have hy6 : y107.length = ((ji2) : Int).toNat := (by rw [Ny107.out, List.length_take]; omega)
      rw [← Ny107.out] at hr6
      rw [← hy6] at hr6 hcut6
      clear hy6 hi06 hsz6 HO0
      have HO109 := Aside0.mk hr6
      clear hr6
      replace q6 := eq_true q6
      go_enter Tryz.func15, Tryz.ntmps15
      go_wp2
      go_ret
      exact ⟨_, by first | rfl | (simp [errW_none, errW_some] <;> rfl) | (simp only [← hji2]; first | rfl | (simp [errW_none, errW_some] <;> rfl)) | (simp [*, errW_none, errW_some] <;> rfl), by (with_reducible repeat (first | apply Kd.R_alloc | apply Kd.R_drewN | apply Kd.R_drew)); exact HO109.out, by repeat (first | (with_reducible first | exact HB.out | apply below_alloc | apply pw_below_drewN | apply below_drew1) | exact HB.out), by repeat (first | (with_reducible first | exact HK.out | apply Kept.alloc | apply Kept.drewN | apply Kept.drew) | exact HK.out)⟩
    · rw [if_neg c4] at H
      exact absurd H (by simp)
  · rw [if_neg c3] at H
    exact absurd H (by simp)

/-! ### spec_IdBase62: function 41 -/
def spec_IdBase62.l0 : Nat → Int → ByteArray → Option (ByteArray)
  | 0, _, _ => none
  | k + 1, x0, x3 => if x0 > 0 then (if 0 ≤ (Int.tmod x0 62) then (if (Int.tmod x0 62) ≤ (IntKind.u64.wrap ((Int.tmod x0 62) + 1)) then (if (IntKind.u64.wrap ((Int.tmod x0 62) + 1)) ≤ 62 then (if ((⟨#[48, 49, 50, 51, 52, 53, 54, 55, 56, 57, 97, 98, 99, 100, 101, 102, 103, 104, 105, 106, 107, 108, 109, 110, 111, 112, 113, 114, 115, 116, 117, 118, 119, 120, 121, 122, 65, 66, 67, 68, 69, 70, 71, 72, 73, 74, 75, 76, 77, 78, 79, 80, 81, 82, 83, 84, 85, 86, 87, 88, 89, 90]⟩ : ByteArray).extract ((Int.tmod x0 62) : Int).toNat ((IntKind.u64.wrap ((Int.tmod x0 62) + 1)) : Int).toNat).size + x3.size ≤ 9223372036854775807 then (spec_IdBase62.l0 k (IntKind.u64.wrap (Int.tdiv x0 62)) (((⟨#[48, 49, 50, 51, 52, 53, 54, 55, 56, 57, 97, 98, 99, 100, 101, 102, 103, 104, 105, 106, 107, 108, 109, 110, 111, 112, 113, 114, 115, 116, 117, 118, 119, 120, 121, 122, 65, 66, 67, 68, 69, 70, 71, 72, 73, 74, 75, 76, 77, 78, 79, 80, 81, 82, 83, 84, 85, 86, 87, 88, 89, 90]⟩ : ByteArray).extract ((Int.tmod x0 62) : Int).toNat ((IntKind.u64.wrap ((Int.tmod x0 62) + 1)) : Int).toNat) ++ x3)) else (none)) else (none)) else (none)) else (none)) else (some x3)
def spec_IdBase62.f (k : Nat) (a0 : Int) : Option (ByteArray) := if a0 > 0 then (if 0 ≤ (Int.tmod (IntKind.u64.wrap (a0 - 1)) 62) then (if (Int.tmod (IntKind.u64.wrap (a0 - 1)) 62) ≤ (IntKind.u64.wrap ((Int.tmod (IntKind.u64.wrap (a0 - 1)) 62) + 1)) then (if (IntKind.u64.wrap ((Int.tmod (IntKind.u64.wrap (a0 - 1)) 62) + 1)) ≤ 62 then (if ((⟨#[48, 49, 50, 51, 52, 53, 54, 55, 56, 57, 97, 98, 99, 100, 101, 102, 103, 104, 105, 106, 107, 108, 109, 110, 111, 112, 113, 114, 115, 116, 117, 118, 119, 120, 121, 122, 65, 66, 67, 68, 69, 70, 71, 72, 73, 74, 75, 76, 77, 78, 79, 80, 81, 82, 83, 84, 85, 86, 87, 88, 89, 90]⟩ : ByteArray).extract ((Int.tmod (IntKind.u64.wrap (a0 - 1)) 62) : Int).toNat ((IntKind.u64.wrap ((Int.tmod (IntKind.u64.wrap (a0 - 1)) 62) + 1)) : Int).toNat).size + 1 ≤ 9223372036854775807 then (spec_IdBase62.l0 k (IntKind.u64.wrap (Int.tdiv (IntKind.u64.wrap (a0 - 1)) 62)) (((⟨#[48, 49, 50, 51, 52, 53, 54, 55, 56, 57, 97, 98, 99, 100, 101, 102, 103, 104, 105, 106, 107, 108, 109, 110, 111, 112, 113, 114, 115, 116, 117, 118, 119, 120, 121, 122, 65, 66, 67, 68, 69, 70, 71, 72, 73, 74, 75, 76, 77, 78, 79, 80, 81, 82, 83, 84, 85, 86, 87, 88, 89, 90]⟩ : ByteArray).extract ((Int.tmod (IntKind.u64.wrap (a0 - 1)) 62) : Int).toNat ((IntKind.u64.wrap ((Int.tmod (IntKind.u64.wrap (a0 - 1)) 62) + 1)) : Int).toNat) ++ (⟨#[95]⟩ : ByteArray))) else (none)) else (none)) else (none)) else (none)) else (some (⟨#[95]⟩ : ByteArray))
theorem spec_IdBase62.mono_l : ∀ k, (∀ y0 y1, LeO (spec_IdBase62.l0 k y0 y1) (spec_IdBase62.l0 (k + 1) y0 y1))
  | 0 => fun _ _ r h => by simp [spec_IdBase62.l0] at h
  | k + 1 => by
    have ih0 := spec_IdBase62.mono_l k
    · intro y0 y1
      unfold spec_IdBase62.l0
      repeat' first
      | (with_reducible exact ih0 _ _)
      | (with_reducible exact LeO.refl _)
      | (with_reducible exact LeO.none _)
      | (with_reducible refine LeO.ite ?_ ?_)
      | (with_reducible refine LeO.bind ?_ (fun _ => ?_))
      | exact ih0 _ _
      | exact LeO.none _
      | refine LeO.ite ?_ ?_
      | refine LeO.bind ?_ (fun _ => ?_)
theorem spec_IdBase62.mono : ∀ a0 k, LeO (spec_IdBase62.f k a0) (spec_IdBase62.f (k + 1) a0) := by
  intro a0 k
  have ih0 := spec_IdBase62.mono_l k
  unfold spec_IdBase62.f
  repeat' first
      | (with_reducible exact ih0 _ _)
      | (with_reducible exact LeO.refl _)
      | (with_reducible exact LeO.none _)
      | (with_reducible refine LeO.ite ?_ ?_)
      | (with_reducible refine LeO.bind ?_ (fun _ => ?_))
      | exact ih0 _ _
      | exact LeO.none _
      | refine LeO.ite ?_ ?_
      | refine LeO.bind ?_ (fun _ => ?_)
set_option maxHeartbeats 8000000 in
set_option maxRecDepth 100000 in
theorem spec_IdBase62.calls (k : Nat) (a0 : Int) (r : ByteArray) (w : World) (h : spec_IdBase62.f k a0 = some r) :
    Calls Tryz.prog 41 #[.int .u64 a0] w fun e w' => e = .returned (.string r) ∧ Drawn0 w w' := by
  have H : (if a0 > 0 then (if 0 ≤ (Int.tmod (IntKind.u64.wrap (a0 - 1)) 62) then (if (Int.tmod (IntKind.u64.wrap (a0 - 1)) 62) ≤ (IntKind.u64.wrap ((Int.tmod (IntKind.u64.wrap (a0 - 1)) 62) + 1)) then (if (IntKind.u64.wrap ((Int.tmod (IntKind.u64.wrap (a0 - 1)) 62) + 1)) ≤ 62 then (if ((⟨#[48, 49, 50, 51, 52, 53, 54, 55, 56, 57, 97, 98, 99, 100, 101, 102, 103, 104, 105, 106, 107, 108, 109, 110, 111, 112, 113, 114, 115, 116, 117, 118, 119, 120, 121, 122, 65, 66, 67, 68, 69, 70, 71, 72, 73, 74, 75, 76, 77, 78, 79, 80, 81, 82, 83, 84, 85, 86, 87, 88, 89, 90]⟩ : ByteArray).extract ((Int.tmod (IntKind.u64.wrap (a0 - 1)) 62) : Int).toNat ((IntKind.u64.wrap ((Int.tmod (IntKind.u64.wrap (a0 - 1)) 62) + 1)) : Int).toNat).size + 1 ≤ 9223372036854775807 then (spec_IdBase62.l0 k (IntKind.u64.wrap (Int.tdiv (IntKind.u64.wrap (a0 - 1)) 62)) (((⟨#[48, 49, 50, 51, 52, 53, 54, 55, 56, 57, 97, 98, 99, 100, 101, 102, 103, 104, 105, 106, 107, 108, 109, 110, 111, 112, 113, 114, 115, 116, 117, 118, 119, 120, 121, 122, 65, 66, 67, 68, 69, 70, 71, 72, 73, 74, 75, 76, 77, 78, 79, 80, 81, 82, 83, 84, 85, 86, 87, 88, 89, 90]⟩ : ByteArray).extract ((Int.tmod (IntKind.u64.wrap (a0 - 1)) 62) : Int).toNat ((IntKind.u64.wrap ((Int.tmod (IntKind.u64.wrap (a0 - 1)) 62) + 1)) : Int).toNat) ++ (⟨#[95]⟩ : ByteArray))) else (none)) else (none)) else (none)) else (none)) else (some (⟨#[95]⟩ : ByteArray))) = some r := h
  clear h
  by_cases c2 : a0 > 0
  · rw [if_pos c2] at H
    have c2b0 : decide (0 < a0) = true := decide_eq_true c2
    clear c2
    obtain ⟨ji3, hji3⟩ : ∃ j_ : Int, (Int.tmod (IntKind.u64.wrap (a0 - 1)) 62) = j_ := ⟨_, rfl⟩
    replace H : (if 0 ≤ (ji3) then (if (ji3) ≤ (IntKind.u64.wrap ((ji3) + 1)) then (if (IntKind.u64.wrap ((ji3) + 1)) ≤ 62 then (if ((⟨#[48, 49, 50, 51, 52, 53, 54, 55, 56, 57, 97, 98, 99, 100, 101, 102, 103, 104, 105, 106, 107, 108, 109, 110, 111, 112, 113, 114, 115, 116, 117, 118, 119, 120, 121, 122, 65, 66, 67, 68, 69, 70, 71, 72, 73, 74, 75, 76, 77, 78, 79, 80, 81, 82, 83, 84, 85, 86, 87, 88, 89, 90]⟩ : ByteArray).extract ((ji3) : Int).toNat ((IntKind.u64.wrap ((ji3) + 1)) : Int).toNat).size + 1 ≤ 9223372036854775807 then (spec_IdBase62.l0 k (IntKind.u64.wrap (Int.tdiv (IntKind.u64.wrap (a0 - 1)) 62)) (((⟨#[48, 49, 50, 51, 52, 53, 54, 55, 56, 57, 97, 98, 99, 100, 101, 102, 103, 104, 105, 106, 107, 108, 109, 110, 111, 112, 113, 114, 115, 116, 117, 118, 119, 120, 121, 122, 65, 66, 67, 68, 69, 70, 71, 72, 73, 74, 75, 76, 77, 78, 79, 80, 81, 82, 83, 84, 85, 86, 87, 88, 89, 90]⟩ : ByteArray).extract ((ji3) : Int).toNat ((IntKind.u64.wrap ((ji3) + 1)) : Int).toNat) ++ (⟨#[95]⟩ : ByteArray))) else (none)) else (none)) else (none)) else (none)) = some r := by first | (rw [hji3] at H; exact H) | (simp only [hji3] at H ⊢; exact H)
    by_cases c4 : 0 ≤ (ji3)
    · rw [if_pos c4] at H
      have c4b0 := eq_true c4
      have c4b1 : decide (0 ≤ (ji3)) = true := decide_eq_true c4
      clear c4
      by_cases c5 : (ji3) ≤ (IntKind.u64.wrap ((ji3) + 1))
      · rw [if_pos c5] at H
        have c5b0 := eq_true c5
        have c5b1 : decide ((ji3) ≤ (IntKind.u64.wrap ((ji3) + 1))) = true := decide_eq_true c5
        by_cases c6 : (IntKind.u64.wrap ((ji3) + 1)) ≤ 62
        · rw [if_pos c6] at H
          have c6b0 := eq_true c6
          have c6b1 : decide ((IntKind.u64.wrap ((ji3) + 1)) ≤ 62) = true := decide_eq_true c6
          by_cases c7 : ((⟨#[48, 49, 50, 51, 52, 53, 54, 55, 56, 57, 97, 98, 99, 100, 101, 102, 103, 104, 105, 106, 107, 108, 109, 110, 111, 112, 113, 114, 115, 116, 117, 118, 119, 120, 121, 122, 65, 66, 67, 68, 69, 70, 71, 72, 73, 74, 75, 76, 77, 78, 79, 80, 81, 82, 83, 84, 85, 86, 87, 88, 89, 90]⟩ : ByteArray).extract ((ji3) : Int).toNat ((IntKind.u64.wrap ((ji3) + 1)) : Int).toNat).size + 1 ≤ 9223372036854775807
          · rw [if_pos c7] at H
            have c7b0 := eq_true c7
            have c7b1 : decide (((⟨#[48, 49, 50, 51, 52, 53, 54, 55, 56, 57, 97, 98, 99, 100, 101, 102, 103, 104, 105, 106, 107, 108, 109, 110, 111, 112, 113, 114, 115, 116, 117, 118, 119, 120, 121, 122, 65, 66, 67, 68, 69, 70, 71, 72, 73, 74, 75, 76, 77, 78, 79, 80, 81, 82, 83, 84, 85, 86, 87, 88, 89, 90]⟩ : ByteArray).extract ((ji3) : Int).toNat ((IntKind.u64.wrap ((ji3) + 1)) : Int).toNat).size + 1 ≤ 9223372036854775807) = true := decide_eq_true c7
            try have c7b2 : (9223372036854775807 < ((⟨#[48, 49, 50, 51, 52, 53, 54, 55, 56, 57, 97, 98, 99, 100, 101, 102, 103, 104, 105, 106, 107, 108, 109, 110, 111, 112, 113, 114, 115, 116, 117, 118, 119, 120, 121, 122, 65, 66, 67, 68, 69, 70, 71, 72, 73, 74, 75, 76, 77, 78, 79, 80, 81, 82, 83, 84, 85, 86, 87, 88, 89, 90]⟩ : ByteArray).extract ((ji3) : Int).toNat ((IntKind.u64.wrap ((ji3) + 1)) : Int).toNat).size + 1) = False := eq_false (Nat.not_lt.2 c7)
            try (have c7q := c7; rw [ByteArray.size_extract, Nat.min_eq_left (by show _ ≤ Array.size _; simp only [List.size_toArray, List.length_cons, List.length_nil]; omega)] at c7q; have c7b3 := eq_false (Nat.not_lt.2 c7q); clear c7q)
            have H' := Aside0.mk H
            clear H
            go_enter Tryz.func41, Tryz.ntmps41
            go_wp2
            go_loopg [0, 3] k (fun kq v0 v3 w' => ∃ (x0_1 : Int) (x3_1 : ByteArray), v0 = .int .u64 x0_1 ∧ v3 = .string x3_1 ∧ Aside0 (spec_IdBase62.l0 kq x0_1 x3_1 = some r) ∧ Aside0 (kq ≤ k) ∧ Drawn0 w w')
            case atStart => exact ⟨(IntKind.u64.wrap (Int.tdiv (IntKind.u64.wrap (a0 - 1)) 62)), (((⟨#[48, 49, 50, 51, 52, 53, 54, 55, 56, 57, 97, 98, 99, 100, 101, 102, 103, 104, 105, 106, 107, 108, 109, 110, 111, 112, 113, 114, 115, 116, 117, 118, 119, 120, 121, 122, 65, 66, 67, 68, 69, 70, 71, 72, 73, 74, 75, 76, 77, 78, 79, 80, 81, 82, 83, 84, 85, 86, 87, 88, 89, 90]⟩ : ByteArray).extract ((ji3) : Int).toNat ((IntKind.u64.wrap ((ji3) + 1)) : Int).toNat) ++ (⟨#[95]⟩ : ByteArray)), (by first | rfl | (simp; done) | (simp [*]; done)), (by first | rfl | (simp; done) | (simp only [← hji3] <;> (first | rfl | simp)) | (simp [*]; done)), H', ⟨Nat.le_refl _⟩, by repeat (first | exact Drawn0.refl _ | apply Drawn0.step)⟩
            case round =>
              clear H'
              try clear c2
              try clear c2b0
              try clear p2
              try clear c4
              try clear c4b0
              try clear c4b1
              try clear c5
              try clear c5b0
              try clear c5b1
              try clear c6
              try clear c6b0
              try clear c6b1
              try clear c7
              try clear c7b0
              try clear c7b1
              try clear c7b2
              obtain ⟨x0_1, x3_1, rfl, rfl, HA, HK1, ⟨m1, rfl⟩⟩ := hrel
              cases gk with
              | zero => exact absurd HA.out (by simp [spec_IdBase62.l0])
              | succ k1 =>
                have H := HA.out
                clear HA
                simp only [spec_IdBase62.l0] at H
                by_cases c8 : x0_1 > 0
                · rw [if_pos c8] at H
                  have c8b0 : decide (0 < x0_1) = true := decide_eq_true c8
                  clear c8
                  obtain ⟨ji9, hji9⟩ : ∃ j_ : Int, (Int.tmod x0_1 62) = j_ := ⟨_, rfl⟩
                  replace H : (if 0 ≤ (ji9) then (if (ji9) ≤ (IntKind.u64.wrap ((ji9) + 1)) then (if (IntKind.u64.wrap ((ji9) + 1)) ≤ 62 then (if ((⟨#[48, 49, 50, 51, 52, 53, 54, 55, 56, 57, 97, 98, 99, 100, 101, 102, 103, 104, 105, 106, 107, 108, 109, 110, 111, 112, 113, 114, 115, 116, 117, 118, 119, 120, 121, 122, 65, 66, 67, 68, 69, 70, 71, 72, 73, 74, 75, 76, 77, 78, 79, 80, 81, 82, 83, 84, 85, 86, 87, 88, 89, 90]⟩ : ByteArray).extract ((ji9) : Int).toNat ((IntKind.u64.wrap ((ji9) + 1)) : Int).toNat).size + x3_1.size ≤ 9223372036854775807 then (spec_IdBase62.l0 k1 (IntKind.u64.wrap (Int.tdiv x0_1 62)) (((⟨#[48, 49, 50, 51, 52, 53, 54, 55, 56, 57, 97, 98, 99, 100, 101, 102, 103, 104, 105, 106, 107, 108, 109, 110, 111, 112, 113, 114, 115, 116, 117, 118, 119, 120, 121, 122, 65, 66, 67, 68, 69, 70, 71, 72, 73, 74, 75, 76, 77, 78, 79, 80, 81, 82, 83, 84, 85, 86, 87, 88, 89, 90]⟩ : ByteArray).extract ((ji9) : Int).toNat ((IntKind.u64.wrap ((ji9) + 1)) : Int).toNat) ++ x3_1)) else (none)) else (none)) else (none)) else (none)) = some r := by first | (rw [hji9] at H; exact H) | (simp only [hji9] at H ⊢; exact H)
                  by_cases c10 : 0 ≤ (ji9)
                  · rw [if_pos c10] at H
                    have c10b0 := eq_true c10
                    have c10b1 : decide (0 ≤ (ji9)) = true := decide_eq_true c10
                    clear c10
                    by_cases c11 : (ji9) ≤ (IntKind.u64.wrap ((ji9) + 1))
                    · rw [if_pos c11] at H
                      have c11b0 := eq_true c11
                      have c11b1 : decide ((ji9) ≤ (IntKind.u64.wrap ((ji9) + 1))) = true := decide_eq_true c11
                      by_cases c12 : (IntKind.u64.wrap ((ji9) + 1)) ≤ 62
                      · rw [if_pos c12] at H
                        have c12b0 := eq_true c12
                        have c12b1 : decide ((IntKind.u64.wrap ((ji9) + 1)) ≤ 62) = true := decide_eq_true c12
                        by_cases c13 : ((⟨#[48, 49, 50, 51, 52, 53, 54, 55, 56, 57, 97, 98, 99, 100, 101, 102, 103, 104, 105, 106, 107, 108, 109, 110, 111, 112, 113, 114, 115, 116, 117, 118, 119, 120, 121, 122, 65, 66, 67, 68, 69, 70, 71, 72, 73, 74, 75, 76, 77, 78, 79, 80, 81, 82, 83, 84, 85, 86, 87, 88, 89, 90]⟩ : ByteArray).extract ((ji9) : Int).toNat ((IntKind.u64.wrap ((ji9) + 1)) : Int).toNat).size + x3_1.size ≤ 9223372036854775807
                        · rw [if_pos c13] at H
                          have c13b0 := eq_true c13
                          have c13b1 : decide (((⟨#[48, 49, 50, 51, 52, 53, 54, 55, 56, 57, 97, 98, 99, 100, 101, 102, 103, 104, 105, 106, 107, 108, 109, 110, 111, 112, 113, 114, 115, 116, 117, 118, 119, 120, 121, 122, 65, 66, 67, 68, 69, 70, 71, 72, 73, 74, 75, 76, 77, 78, 79, 80, 81, 82, 83, 84, 85, 86, 87, 88, 89, 90]⟩ : ByteArray).extract ((ji9) : Int).toNat ((IntKind.u64.wrap ((ji9) + 1)) : Int).toNat).size + x3_1.size ≤ 9223372036854775807) = true := decide_eq_true c13
                          try have c13b2 : (9223372036854775807 < ((⟨#[48, 49, 50, 51, 52, 53, 54, 55, 56, 57, 97, 98, 99, 100, 101, 102, 103, 104, 105, 106, 107, 108, 109, 110, 111, 112, 113, 114, 115, 116, 117, 118, 119, 120, 121, 122, 65, 66, 67, 68, 69, 70, 71, 72, 73, 74, 75, 76, 77, 78, 79, 80, 81, 82, 83, 84, 85, 86, 87, 88, 89, 90]⟩ : ByteArray).extract ((ji9) : Int).toNat ((IntKind.u64.wrap ((ji9) + 1)) : Int).toNat).size + x3_1.size) = False := eq_false (Nat.not_lt.2 c13)
                          try (have c13q := c13; rw [ByteArray.size_extract, Nat.min_eq_left (by show _ ≤ Array.size _; simp only [List.size_toArray, List.length_cons, List.length_nil]; omega)] at c13q; have c13b3 := eq_false (Nat.not_lt.2 c13q); clear c13q)
                          have H' := Aside0.mk H
                          clear H
                          go_wp2
                          go_roundg k1
                          case measure => have := HK1.out; omega
                          case rel => exact ⟨(IntKind.u64.wrap (Int.tdiv x0_1 62)), (((⟨#[48, 49, 50, 51, 52, 53, 54, 55, 56, 57, 97, 98, 99, 100, 101, 102, 103, 104, 105, 106, 107, 108, 109, 110, 111, 112, 113, 114, 115, 116, 117, 118, 119, 120, 121, 122, 65, 66, 67, 68, 69, 70, 71, 72, 73, 74, 75, 76, 77, 78, 79, 80, 81, 82, 83, 84, 85, 86, 87, 88, 89, 90]⟩ : ByteArray).extract ((ji9) : Int).toNat ((IntKind.u64.wrap ((ji9) + 1)) : Int).toNat) ++ x3_1), (by first | rfl | (simp; done) | (simp [*]; done)), (by first | rfl | (simp; done) | (simp only [← hji9] <;> (first | rfl | simp)) | (simp [*]; done)), H', ⟨by have := HK1.out; omega⟩, by repeat (first | exact Drawn0.refl _ | apply Drawn0.step)⟩
                        · rw [if_neg c13] at H
                          exact absurd H (by simp)
                      · rw [if_neg c12] at H
                        exact absurd H (by simp)
                    · rw [if_neg c11] at H
                      exact absurd H (by simp)
                  · rw [if_neg c10] at H
                    exact absurd H (by simp)
                · rw [if_neg c8] at H
                  have c8b0 : decide (0 < x0_1) = false := decide_eq_false c8
                  clear c8
                  obtain rfl := Option.some.inj H
                  go_wp2
                  go_ret
                  exact ⟨by first | rfl | (simp; done) | (simp only [← hji3] <;> (first | rfl | simp)) | (simp [*]; done), by repeat (first | exact Drawn0.refl _ | apply Drawn0.step)⟩
          · rw [if_neg c7] at H
            exact absurd H (by simp)
        · rw [if_neg c6] at H
          exact absurd H (by simp)
      · rw [if_neg c5] at H
        exact absurd H (by simp)
    · rw [if_neg c4] at H
      exact absurd H (by simp)
  · rw [if_neg c2] at H
    have c2b0 : decide (0 < a0) = false := decide_eq_false c2
    clear c2
    obtain rfl := Option.some.inj H
    go_enter Tryz.func41, Tryz.ntmps41
    go_wp2
    go_ret
    exact ⟨by first | rfl | (simp; done) | (simp [*]; done), by repeat (first | exact Drawn0.refl _ | apply Drawn0.step)⟩

/-! ### spec_IdDisambiguator: function 35 -/
def spec_IdDisambiguator.f (k : Nat) (a0 : Int) : Option (ByteArray) := if a0 = 0 then (some (⟨#[]⟩ : ByteArray)) else ((spec_IdBase62.f k (IntKind.u64.wrap (a0 - 1))).bind fun t110 => (if 1 + t110.size ≤ 9223372036854775807 then (some ((⟨#[115]⟩ : ByteArray) ++ t110)) else (none)))
theorem spec_IdDisambiguator.mono : ∀ a0 k, LeO (spec_IdDisambiguator.f k a0) (spec_IdDisambiguator.f (k + 1) a0) := by
  intro a0 k
  unfold spec_IdDisambiguator.f
  repeat' first
      | (with_reducible exact spec_IdBase62.mono _ _)
      | (with_reducible exact LeO.refl _)
      | (with_reducible exact LeO.none _)
      | (with_reducible refine LeO.ite ?_ ?_)
      | (with_reducible refine LeO.bind ?_ (fun _ => ?_))
      | exact spec_IdBase62.mono _ _
      | exact LeO.none _
      | refine LeO.ite ?_ ?_
      | refine LeO.bind ?_ (fun _ => ?_)
set_option maxHeartbeats 8000000 in
set_option maxRecDepth 100000 in
theorem spec_IdDisambiguator.calls (k : Nat) (a0 : Int) (r : ByteArray) (w : World) (h : spec_IdDisambiguator.f k a0 = some r) :
    Calls Tryz.prog 35 #[.int .u64 a0] w fun e w' => e = .returned (.string r) ∧ Drawn0 w w' := by
  have H : (if a0 = 0 then (some (⟨#[]⟩ : ByteArray)) else ((spec_IdBase62.f k (IntKind.u64.wrap (a0 - 1))).bind fun t110 => (if 1 + t110.size ≤ 9223372036854775807 then (some ((⟨#[115]⟩ : ByteArray) ++ t110)) else (none)))) = some r := h
  clear h
  by_cases c2 : a0 = 0
  · rw [if_pos c2] at H
    have c2b0 : (a0 == 0) = true := beq_iff_eq.mpr c2
    have c2b1 : (a0 != 0) = false := bne_eq_false_iff_eq.mpr c2
    clear c2
    obtain rfl := Option.some.inj H
    go_enter Tryz.func35, Tryz.ntmps35
    go_wp2
    go_ret
    exact ⟨by first | rfl | (simp; done) | (simp [*]; done), by repeat (first | exact Drawn0.refl _ | apply Drawn0.step)⟩
  · rw [if_neg c2] at H
    have c2b0 : (a0 == 0) = false := beq_eq_false_iff_ne.mpr c2
    have c2b1 : (a0 != 0) = true := bne_iff_ne.mpr c2
    replace H := Option.bind_eq_some_iff.mp H
    obtain ⟨t110, A30, H⟩ := H
    replace H : (if 1 + t110.size ≤ 9223372036854775807 then (some ((⟨#[115]⟩ : ByteArray) ++ t110)) else (none)) = some r := H
    have A3 := Aside0.mk A30
    clear A30
    by_cases c4 : 1 + t110.size ≤ 9223372036854775807
    · rw [if_pos c4] at H
      have c4b0 := eq_true c4
      have c4b1 : decide (1 + t110.size ≤ 9223372036854775807) = true := decide_eq_true c4
      try have c4b2 : (9223372036854775807 < 1 + t110.size) = False := eq_false (Nat.not_lt.2 c4)
      obtain rfl := Option.some.inj H
      go_enter Tryz.func35, Tryz.ntmps35
      go_wp2_with (first | (go_at_call 15; refine (idCut_at _ _ _ _ _ _ (by assumption) (by assumption)).mono ?_; rintro e w_ ⟨rfl, rfl⟩) | ((with_reducible refine gate_callee (f := 41) rfl ?_); refine goesL_ (some 7) rfl rfl Tryz.func41 (by kernel_rfl) rfl #[.int .u64 (IntKind.u64.wrap (a0 - 1))] rfl (by (try simp only [List.map_toArray, List.map_cons, List.map_nil]); first | done | rfl | (simp only [List.length_drop, List.length_take]; rfl)) ?_; (with_reducible refine (spec_IdBase62.calls k (IntKind.u64.wrap (a0 - 1)) t110 _ A3.out).mono ?_); rintro e w' ⟨rfl, ⟨nd, rfl⟩⟩; refine ⟨_, rfl, ?_⟩))
      go_ret
      exact ⟨by first | rfl | (simp; done) | (simp [*]; done), by repeat (first | exact Drawn0.refl _ | apply Drawn0.step)⟩
    · rw [if_neg c4] at H
      exact absurd H (by simp)

/-! ### spec_idIdentifier: function 34 -/
def spec_idIdentifier.f (k : Nat) (a0 : ByteArray) (a1 : Int) : Option (ByteArray) := (spec_IdDisambiguator.f k a1).bind fun t111 => ((spec_IdWritten.f a0).bind fun t112 => (if t111.size + t112.size ≤ 9223372036854775807 then (some (t111 ++ t112)) else (none)))
theorem spec_idIdentifier.mono : ∀ a0 a1 k, LeO (spec_idIdentifier.f k a0 a1) (spec_idIdentifier.f (k + 1) a0 a1) := by
  intro a0 a1 k
  unfold spec_idIdentifier.f
  repeat' first
      | (with_reducible exact spec_IdDisambiguator.mono _ _)
      | (with_reducible exact LeO.refl _)
      | (with_reducible exact LeO.none _)
      | (with_reducible refine LeO.ite ?_ ?_)
      | (with_reducible refine LeO.bind ?_ (fun _ => ?_))
      | exact spec_IdDisambiguator.mono _ _
      | exact LeO.none _
      | refine LeO.ite ?_ ?_
      | refine LeO.bind ?_ (fun _ => ?_)
set_option maxHeartbeats 8000000 in
set_option maxRecDepth 100000 in
theorem spec_idIdentifier.calls (k : Nat) (a0 : ByteArray) (a1 : Int) (r : ByteArray) (w : World) (hT_ : DoorIs w) (h : spec_idIdentifier.f k a0 a1 = some r) :
    Calls Tryz.prog 34 #[.string a0, .int .u64 a1] w fun e w' => e = .returned (.string r) ∧ Below w.heap.size w w' := by
  have HB := Aside0.mk (Below.refl w.heap.size w)
  have H : ((spec_IdDisambiguator.f k a1).bind fun t111 => ((spec_IdWritten.f a0).bind fun t112 => (if t111.size + t112.size ≤ 9223372036854775807 then (some (t111 ++ t112)) else (none)))) = some r := h
  clear h
  replace H := Option.bind_eq_some_iff.mp H
  obtain ⟨t111, A30, H⟩ := H
  replace H : ((spec_IdWritten.f a0).bind fun t112 => (if t111.size + t112.size ≤ 9223372036854775807 then (some (t111 ++ t112)) else (none))) = some r := H
  have A3 := Aside0.mk A30
  clear A30
  replace H := Option.bind_eq_some_iff.mp H
  obtain ⟨t112, A40, H⟩ := H
  replace H : (if t111.size + t112.size ≤ 9223372036854775807 then (some (t111 ++ t112)) else (none)) = some r := H
  have A4 := Aside0.mk A40
  clear A40
  by_cases c5 : t111.size + t112.size ≤ 9223372036854775807
  · rw [if_pos c5] at H
    have c5b0 := eq_true c5
    have c5b1 : decide (t111.size + t112.size ≤ 9223372036854775807) = true := decide_eq_true c5
    try have c5b2 : (9223372036854775807 < t111.size + t112.size) = False := eq_false (Nat.not_lt.2 c5)
    obtain rfl := Option.some.inj H
    go_enter Tryz.func34, Tryz.ntmps34
    go_wp2_with (first | (go_at_call 15; refine (idCut_at _ _ _ _ _ _ (by assumption) (by assumption)).mono ?_; rintro e w_ ⟨rfl, rfl⟩) | ((with_reducible refine gate_callee (f := 35) rfl ?_); refine goesL_ (some 6) rfl rfl Tryz.func35 (by kernel_rfl) rfl #[.int .u64 a1] rfl (by (try simp only [List.map_toArray, List.map_cons, List.map_nil]); first | done | rfl | (simp only [List.length_drop, List.length_take]; rfl)) ?_; (with_reducible refine (spec_IdDisambiguator.calls k a1 t111 _ A3.out).mono ?_); rintro e w' ⟨rfl, ⟨nd, rfl⟩⟩; refine ⟨_, rfl, ?_⟩) | ((with_reducible refine gate_callee (f := 40) rfl ?_); refine goesL_ (some 8) rfl rfl Tryz.func40 (by kernel_rfl) rfl #[.string a0] rfl (by (try simp only [List.map_toArray, List.map_cons, List.map_nil]); first | done | rfl | (simp only [List.length_drop, List.length_take]; rfl)) ?_; (with_reducible refine (spec_IdWritten.calls a0 t112 _ (show DoorIs _ from ?side1) A4.out).mono ?_); (case side1 => exact Stays.below hT_ (by first | (repeat (first | (with_reducible first | exact HB.out | apply below_alloc | apply pw_below_drewN | apply below_drew1) | exact HB.out)) | (repeat (first | exact Below.refl _ _ | apply below_drew1 | apply pw_below_drewN)))); rintro e w6 ⟨rfl, hb⟩; refine ⟨_, rfl, ?_⟩; have n0_ := Aside0.mk (below_step (by repeat (first | (with_reducible first | exact HB.out | apply below_alloc | apply pw_below_drewN | apply below_drew1) | exact HB.out)) hb); clear HB; have HB := n0_; clear n0_; (try clear hb); (try clear hb2); (try clear hk); (try clear hi)))
    go_ret
    exact ⟨by first | rfl | (simp [errW_none, errW_some] <;> rfl) | (simp [*, errW_none, errW_some] <;> rfl), by repeat (first | (with_reducible first | exact HB.out | apply below_alloc | apply pw_below_drewN | apply below_drew1) | exact HB.out)⟩
  · rw [if_neg c5] at H
    exact absurd H (by simp)

/-! ### spec_IdSymbol: function 18 -/
def spec_IdSymbol.l0 : Nat → List (S43) → ByteArray → List (S43) → Int → Int → Option (ByteArray)
  | 0, _, _, _, _, _ => none
  | k + 1, x2, x7, x15, x16, x17 => if x17 < x16 then (if 0 ≤ x17 then (if x17 < (x15.length : Int) then ((spec_idIdentifier.f k ((rd_T43 x15 x17).f1) ((rd_T43 x15 x17).f2)).bind fun t116 => (if ((rd_T43 x15 x17).f1).toList = ([] : List UInt8) then (if x17 = (wrap64 ((x2.length : Int) - 1)) then ((spec_IdDisambiguator.f k ((rd_T43 x15 x17).f2)).bind fun t117 => (if t117.size + 1 ≤ 9223372036854775807 then (if 1 + (Utf8.encode (wrap32 ((rd_T43 x15 x17).f0))).size ≤ 9223372036854775807 then (if ((⟨#[78]⟩ : ByteArray) ++ (Utf8.encode (wrap32 ((rd_T43 x15 x17).f0)))).size + x7.size ≤ 9223372036854775807 then (if (((⟨#[78]⟩ : ByteArray) ++ (Utf8.encode (wrap32 ((rd_T43 x15 x17).f0)))) ++ x7).size + (t117 ++ (⟨#[48]⟩ : ByteArray)).size ≤ 9223372036854775807 then (spec_IdSymbol.l0 k x2 ((((⟨#[78]⟩ : ByteArray) ++ (Utf8.encode (wrap32 ((rd_T43 x15 x17).f0)))) ++ x7) ++ (t117 ++ (⟨#[48]⟩ : ByteArray))) x15 x16 (wrap64 (x17 + 1))) else (none)) else (none)) else (none)) else (none))) else (if 1 + (Utf8.encode (wrap32 ((rd_T43 x15 x17).f0))).size ≤ 9223372036854775807 then (if ((⟨#[78]⟩ : ByteArray) ++ (Utf8.encode (wrap32 ((rd_T43 x15 x17).f0)))).size + x7.size ≤ 9223372036854775807 then (if (((⟨#[78]⟩ : ByteArray) ++ (Utf8.encode (wrap32 ((rd_T43 x15 x17).f0)))) ++ x7).size + t116.size ≤ 9223372036854775807 then (spec_IdSymbol.l0 k x2 ((((⟨#[78]⟩ : ByteArray) ++ (Utf8.encode (wrap32 ((rd_T43 x15 x17).f0)))) ++ x7) ++ t116) x15 x16 (wrap64 (x17 + 1))) else (none)) else (none)) else (none))) else (if 1 + (Utf8.encode (wrap32 ((rd_T43 x15 x17).f0))).size ≤ 9223372036854775807 then (if ((⟨#[78]⟩ : ByteArray) ++ (Utf8.encode (wrap32 ((rd_T43 x15 x17).f0)))).size + x7.size ≤ 9223372036854775807 then (if (((⟨#[78]⟩ : ByteArray) ++ (Utf8.encode (wrap32 ((rd_T43 x15 x17).f0)))) ++ x7).size + t116.size ≤ 9223372036854775807 then (spec_IdSymbol.l0 k x2 ((((⟨#[78]⟩ : ByteArray) ++ (Utf8.encode (wrap32 ((rd_T43 x15 x17).f0)))) ++ x7) ++ t116) x15 x16 (wrap64 (x17 + 1))) else (none)) else (none)) else (none)))) else (none)) else (none)) else (some x7)
def spec_IdSymbol.f (k : Nat) (a0 : ByteArray) (a1 : Int) (l2 : List (S43)) : Option (ByteArray) := (spec_idIdentifier.f k a0 a1).bind fun t113 => (if 1 + t113.size ≤ 9223372036854775807 then (spec_IdSymbol.l0 k l2 ((⟨#[67]⟩ : ByteArray) ++ t113) l2 (l2.length : Int) 0) else (none))
theorem spec_IdSymbol.mono_l : ∀ k, (∀ y0 y1 y2 y3 y4, LeO (spec_IdSymbol.l0 k y0 y1 y2 y3 y4) (spec_IdSymbol.l0 (k + 1) y0 y1 y2 y3 y4))
  | 0 => fun _ _ _ _ _ r h => by simp [spec_IdSymbol.l0] at h
  | k + 1 => by
    have ih0 := spec_IdSymbol.mono_l k
    · intro y0 y1 y2 y3 y4
      unfold spec_IdSymbol.l0
      repeat' first
      | (with_reducible exact ih0 _ _ _ _ _)
      | (with_reducible exact spec_IdDisambiguator.mono _ _)
      | (with_reducible exact spec_idIdentifier.mono _ _ _)
      | (with_reducible exact LeO.refl _)
      | (with_reducible exact LeO.none _)
      | (with_reducible refine LeO.ite ?_ ?_)
      | (with_reducible refine LeO.bind ?_ (fun _ => ?_))
      | exact ih0 _ _ _ _ _
      | exact spec_IdDisambiguator.mono _ _
      | exact spec_idIdentifier.mono _ _ _
      | exact LeO.none _
      | refine LeO.ite ?_ ?_
      | refine LeO.bind ?_ (fun _ => ?_)
theorem spec_IdSymbol.mono : ∀ a0 a1 a2 k, LeO (spec_IdSymbol.f k a0 a1 a2) (spec_IdSymbol.f (k + 1) a0 a1 a2) := by
  intro a0 a1 a2 k
  have ih0 := spec_IdSymbol.mono_l k
  unfold spec_IdSymbol.f
  repeat' first
      | (with_reducible exact ih0 _ _ _ _ _)
      | (with_reducible exact spec_IdDisambiguator.mono _ _)
      | (with_reducible exact spec_idIdentifier.mono _ _ _)
      | (with_reducible exact LeO.refl _)
      | (with_reducible exact LeO.none _)
      | (with_reducible refine LeO.ite ?_ ?_)
      | (with_reducible refine LeO.bind ?_ (fun _ => ?_))
      | exact ih0 _ _ _ _ _
      | exact spec_IdDisambiguator.mono _ _
      | exact spec_idIdentifier.mono _ _ _
      | exact LeO.none _
      | refine LeO.ite ?_ ?_
      | refine LeO.bind ?_ (fun _ => ?_)
set_option maxHeartbeats 8000000 in
set_option maxRecDepth 100000 in
theorem spec_IdSymbol.calls (k : Nat) (a0 : ByteArray) (a1 : Int) (A2 : Option Addr) (c2 : Nat) (l2 : List (S43)) (r : ByteArray) (w : World) (hr2 : Kd.C k43 w A2 l2.length l2) (hc2 : l2.length ≤ c2) (hT_ : DoorIs w) (h : spec_IdSymbol.f k a0 a1 l2 = some r) :
    Calls Tryz.prog 18 #[.string a0, .int .u64 a1, .slice A2 l2.length c2] w fun e w' => e = .returned (.string r) ∧ Below w.heap.size w w' := by
  have hu43 := Tryz.underlying43
  have HR2 := Aside0.mk hr2
  have HC2 := Aside0.mk hc2
  clear hr2 hc2
  have HB := Aside0.mk (Below.refl w.heap.size w)
  have H : ((spec_idIdentifier.f k a0 a1).bind fun t113 => (if 1 + t113.size ≤ 9223372036854775807 then (spec_IdSymbol.l0 k l2 ((⟨#[67]⟩ : ByteArray) ++ t113) l2 (l2.length : Int) 0) else (none))) = some r := h
  clear h
  replace H := Option.bind_eq_some_iff.mp H
  obtain ⟨t113, A40, H⟩ := H
  replace H : (if 1 + t113.size ≤ 9223372036854775807 then (spec_IdSymbol.l0 k l2 ((⟨#[67]⟩ : ByteArray) ++ t113) l2 (l2.length : Int) 0) else (none)) = some r := H
  have A4 := Aside0.mk A40
  clear A40
  by_cases c5 : 1 + t113.size ≤ 9223372036854775807
  · rw [if_pos c5] at H
    have c5b0 := eq_true c5
    have c5b1 : decide (1 + t113.size ≤ 9223372036854775807) = true := decide_eq_true c5
    try have c5b2 : (9223372036854775807 < 1 + t113.size) = False := eq_false (Nat.not_lt.2 c5)
    have H' := Aside0.mk H
    clear H
    go_enter Tryz.func18, Tryz.ntmps18
    go_wp2_with (first | (go_at_call 15; refine (idCut_at _ _ _ _ _ _ (by assumption) (by assumption)).mono ?_; rintro e w_ ⟨rfl, rfl⟩) | ((with_reducible refine gate_callee (f := 34) rfl ?_); refine goesL_ (some 13) rfl rfl Tryz.func34 (by kernel_rfl) rfl #[.string a0, .int .u64 a1] rfl (by (try simp only [List.map_toArray, List.map_cons, List.map_nil]); first | done | rfl | (simp only [List.length_drop, List.length_take]; rfl)) ?_; (with_reducible refine (spec_idIdentifier.calls k a0 a1 t113 _ (show DoorIs _ from ?side1) A4.out).mono ?_); (case side1 => exact Stays.below hT_ (by first | (repeat (first | (with_reducible first | exact HB.out | apply below_alloc | apply pw_below_drewN | apply below_drew1) | exact HB.out)) | (repeat (first | exact Below.refl _ _ | apply below_drew1 | apply pw_below_drewN)))); rintro e w6 ⟨rfl, hb⟩; refine ⟨_, rfl, ?_⟩; have n0_ := Aside0.mk (below_step (by repeat (first | (with_reducible first | exact HB.out | apply below_alloc | apply pw_below_drewN | apply below_drew1) | exact HB.out)) hb); clear HB; have HB := n0_; clear n0_; (try clear hb); (try clear hb2); (try clear hk); (try clear hi)))
    go_loopg [7, 17] k (fun kq v7 v17 w' => ∃ (x7_1 : ByteArray) (x17_1 : Int), v7 = .string x7_1 ∧ v17 = .int .i64 x17_1 ∧ Aside0 (spec_IdSymbol.l0 kq l2 x7_1 l2 (l2.length : Int) x17_1 = some r) ∧ Aside0 (kq ≤ k) ∧ Aside0 (Below w.heap.size w w'))
    case atStart => exact ⟨((⟨#[67]⟩ : ByteArray) ++ t113), (0), (by first | rfl | (simp; done) | (simp [*]; done)), (by first | rfl | (simp; done) | (simp [*]; done)), H', ⟨Nat.le_refl _⟩, ⟨by repeat (first | (with_reducible first | exact HB.out | apply below_alloc | apply pw_below_drewN | apply below_drew1) | exact HB.out)⟩⟩
    case round =>
      clear H'
      try clear c1
      try clear c2
      try clear p2
      try clear c3
      try clear c5
      try clear c5b0
      try clear c5b1
      try clear c5b2
      obtain ⟨x7_1, x17_1, rfl, rfl, HA, HK1, HB⟩ := hrel
      cases gk with
      | zero => exact absurd HA.out (by simp [spec_IdSymbol.l0])
      | succ k1 =>
        have H := HA.out
        clear HA
        simp only [spec_IdSymbol.l0] at H
        by_cases c7 : x17_1 < (l2.length : Int)
        · rw [if_pos c7] at H
          have c7b0 : decide (x17_1 < (l2.length : Int)) = true := decide_eq_true c7
          clear c7
          by_cases c8 : 0 ≤ x17_1
          · rw [if_pos c8] at H
            have c8b0 : decide (0 ≤ x17_1) = true := decide_eq_true c8
            clear c8
            by_cases c9 : x17_1 < (l2.length : Int)
            · rw [if_pos c9] at H
              have c9b0 : decide (x17_1 < (l2.length : Int)) = true := decide_eq_true c9
              clear c9
              replace H := Option.bind_eq_some_iff.mp H
              obtain ⟨t116, A100, H⟩ := H
              replace H : (if ((rd_T43 l2 x17_1).f1).toList = ([] : List UInt8) then (if x17_1 = (wrap64 ((l2.length : Int) - 1)) then ((spec_IdDisambiguator.f k1 ((rd_T43 l2 x17_1).f2)).bind fun t117 => (if t117.size + 1 ≤ 9223372036854775807 then (if 1 + (Utf8.encode (wrap32 ((rd_T43 l2 x17_1).f0))).size ≤ 9223372036854775807 then (if ((⟨#[78]⟩ : ByteArray) ++ (Utf8.encode (wrap32 ((rd_T43 l2 x17_1).f0)))).size + x7_1.size ≤ 9223372036854775807 then (if (((⟨#[78]⟩ : ByteArray) ++ (Utf8.encode (wrap32 ((rd_T43 l2 x17_1).f0)))) ++ x7_1).size + (t117 ++ (⟨#[48]⟩ : ByteArray)).size ≤ 9223372036854775807 then (spec_IdSymbol.l0 k1 l2 ((((⟨#[78]⟩ : ByteArray) ++ (Utf8.encode (wrap32 ((rd_T43 l2 x17_1).f0)))) ++ x7_1) ++ (t117 ++ (⟨#[48]⟩ : ByteArray))) l2 (l2.length : Int) (wrap64 (x17_1 + 1))) else (none)) else (none)) else (none)) else (none))) else (if 1 + (Utf8.encode (wrap32 ((rd_T43 l2 x17_1).f0))).size ≤ 9223372036854775807 then (if ((⟨#[78]⟩ : ByteArray) ++ (Utf8.encode (wrap32 ((rd_T43 l2 x17_1).f0)))).size + x7_1.size ≤ 9223372036854775807 then (if (((⟨#[78]⟩ : ByteArray) ++ (Utf8.encode (wrap32 ((rd_T43 l2 x17_1).f0)))) ++ x7_1).size + t116.size ≤ 9223372036854775807 then (spec_IdSymbol.l0 k1 l2 ((((⟨#[78]⟩ : ByteArray) ++ (Utf8.encode (wrap32 ((rd_T43 l2 x17_1).f0)))) ++ x7_1) ++ t116) l2 (l2.length : Int) (wrap64 (x17_1 + 1))) else (none)) else (none)) else (none))) else (if 1 + (Utf8.encode (wrap32 ((rd_T43 l2 x17_1).f0))).size ≤ 9223372036854775807 then (if ((⟨#[78]⟩ : ByteArray) ++ (Utf8.encode (wrap32 ((rd_T43 l2 x17_1).f0)))).size + x7_1.size ≤ 9223372036854775807 then (if (((⟨#[78]⟩ : ByteArray) ++ (Utf8.encode (wrap32 ((rd_T43 l2 x17_1).f0)))) ++ x7_1).size + t116.size ≤ 9223372036854775807 then (spec_IdSymbol.l0 k1 l2 ((((⟨#[78]⟩ : ByteArray) ++ (Utf8.encode (wrap32 ((rd_T43 l2 x17_1).f0)))) ++ x7_1) ++ t116) l2 (l2.length : Int) (wrap64 (x17_1 + 1))) else (none)) else (none)) else (none))) = some r := H
              have A10 := Aside0.mk A100
              clear A100
              by_cases c11 : ((rd_T43 l2 x17_1).f1).toList = ([] : List UInt8)
              · rw [if_pos c11] at H
                have c11b0 : (((rd_T43 l2 x17_1).f1).toList == ([] : List UInt8)) = true := beq_iff_eq.mpr c11
                have c11b1 : (((rd_T43 l2 x17_1).f1).toList != ([] : List UInt8)) = false := bne_eq_false_iff_eq.mpr c11
                clear c11
                by_cases c12 : x17_1 = (wrap64 ((l2.length : Int) - 1))
                · rw [if_pos c12] at H
                  have c12b0 : (x17_1 == (wrap64 ((l2.length : Int) - 1))) = true := beq_iff_eq.mpr c12
                  have c12b1 : (x17_1 != (wrap64 ((l2.length : Int) - 1))) = false := bne_eq_false_iff_eq.mpr c12
                  clear c12
                  replace H := Option.bind_eq_some_iff.mp H
                  obtain ⟨t117, A130, H⟩ := H
                  replace H : (if t117.size + 1 ≤ 9223372036854775807 then (if 1 + (Utf8.encode (wrap32 ((rd_T43 l2 x17_1).f0))).size ≤ 9223372036854775807 then (if ((⟨#[78]⟩ : ByteArray) ++ (Utf8.encode (wrap32 ((rd_T43 l2 x17_1).f0)))).size + x7_1.size ≤ 9223372036854775807 then (if (((⟨#[78]⟩ : ByteArray) ++ (Utf8.encode (wrap32 ((rd_T43 l2 x17_1).f0)))) ++ x7_1).size + (t117 ++ (⟨#[48]⟩ : ByteArray)).size ≤ 9223372036854775807 then (spec_IdSymbol.l0 k1 l2 ((((⟨#[78]⟩ : ByteArray) ++ (Utf8.encode (wrap32 ((rd_T43 l2 x17_1).f0)))) ++ x7_1) ++ (t117 ++ (⟨#[48]⟩ : ByteArray))) l2 (l2.length : Int) (wrap64 (x17_1 + 1))) else (none)) else (none)) else (none)) else (none)) = some r := H
                  have A13 := Aside0.mk A130
                  clear A130
                  by_cases c14 : t117.size + 1 ≤ 9223372036854775807
                  · rw [if_pos c14] at H
                    have c14b0 := eq_true c14
                    have c14b1 : decide (t117.size + 1 ≤ 9223372036854775807) = true := decide_eq_true c14
                    try have c14b2 : (9223372036854775807 < t117.size + 1) = False := eq_false (Nat.not_lt.2 c14)
                    by_cases c15 : 1 + (Utf8.encode (wrap32 ((rd_T43 l2 x17_1).f0))).size ≤ 9223372036854775807
                    · rw [if_pos c15] at H
                      have c15b0 := eq_true c15
                      have c15b1 : decide (1 + (Utf8.encode (wrap32 ((rd_T43 l2 x17_1).f0))).size ≤ 9223372036854775807) = true := decide_eq_true c15
                      try have c15b2 : (9223372036854775807 < 1 + (Utf8.encode (wrap32 ((rd_T43 l2 x17_1).f0))).size) = False := eq_false (Nat.not_lt.2 c15)
                      by_cases c16 : ((⟨#[78]⟩ : ByteArray) ++ (Utf8.encode (wrap32 ((rd_T43 l2 x17_1).f0)))).size + x7_1.size ≤ 9223372036854775807
                      · rw [if_pos c16] at H
                        have c16b0 := eq_true c16
                        have c16b1 : decide (((⟨#[78]⟩ : ByteArray) ++ (Utf8.encode (wrap32 ((rd_T43 l2 x17_1).f0)))).size + x7_1.size ≤ 9223372036854775807) = true := decide_eq_true c16
                        try have c16b2 : (9223372036854775807 < ((⟨#[78]⟩ : ByteArray) ++ (Utf8.encode (wrap32 ((rd_T43 l2 x17_1).f0)))).size + x7_1.size) = False := eq_false (Nat.not_lt.2 c16)
                        try have c16b4 : (9223372036854775807 < 1 + (Utf8.encode (wrap32 ((rd_T43 l2 x17_1).f0))).size + x7_1.size) = False := eq_false (by have h_ := c16; (repeat rw [ByteArray.size_append] at h_); exact Nat.not_lt.2 h_)
                        by_cases c17 : (((⟨#[78]⟩ : ByteArray) ++ (Utf8.encode (wrap32 ((rd_T43 l2 x17_1).f0)))) ++ x7_1).size + (t117 ++ (⟨#[48]⟩ : ByteArray)).size ≤ 9223372036854775807
                        · rw [if_pos c17] at H
                          have c17b0 := eq_true c17
                          have c17b1 : decide ((((⟨#[78]⟩ : ByteArray) ++ (Utf8.encode (wrap32 ((rd_T43 l2 x17_1).f0)))) ++ x7_1).size + (t117 ++ (⟨#[48]⟩ : ByteArray)).size ≤ 9223372036854775807) = true := decide_eq_true c17
                          try have c17b2 : (9223372036854775807 < (((⟨#[78]⟩ : ByteArray) ++ (Utf8.encode (wrap32 ((rd_T43 l2 x17_1).f0)))) ++ x7_1).size + (t117 ++ (⟨#[48]⟩ : ByteArray)).size) = False := eq_false (Nat.not_lt.2 c17)
                          try have c17b4 : (9223372036854775807 < 1 + (Utf8.encode (wrap32 ((rd_T43 l2 x17_1).f0))).size + x7_1.size + (t117.size + 1)) = False := eq_false (by have h_ := c17; (repeat rw [ByteArray.size_append] at h_); exact Nat.not_lt.2 h_)
                          have H' := Aside0.mk H
                          clear H
                          have p114 : 0 ≤ (x17_1 : Int) := of_decide_eq_true (by first | (with_reducible assumption) | assumption)
                          have q114 : x17_1 < (l2.length : Int) := of_decide_eq_true (by first | (with_reducible assumption) | assumption)
                          obtain ⟨ad114, e114, hx114_0, hx114_1, hx114_2⟩ := at_T43 HR2.out x17_1 p114 q114
                          cases e114
                          replace hx114_0 := (HB.out.cell (World.block_lt_of_cell? w _ hx114_0)).trans hx114_0
                          replace hx114_1 := (HB.out.cell (World.block_lt_of_cell? w _ hx114_1)).trans hx114_1
                          replace hx114_2 := (HB.out.cell (World.block_lt_of_cell? w _ hx114_2)).trans hx114_2
                          replace p114 := eq_true p114
                          replace q114 := eq_true q114
                          go_wp2_with (first | (go_at_call 15; refine (idCut_at _ _ _ _ _ _ (by assumption) (by assumption)).mono ?_; rintro e w_ ⟨rfl, rfl⟩) | ((with_reducible refine gate_dst (N := 9) rfl ?_); (try (refine gate_guard (by rfl) ?_; dsimp only)); refine box_event ?hg (N := 9) ?hd (cs := #[.int .u8 0, .string (⟨#[]⟩ : ByteArray), .int .u64 0]) (t := 43) ?hr ?_; (case hd => rfl); (case hg => rfl); (case hr => first | (go_simp; done) | (go_simp; rfl)); intro gb115 hg w18 hbox hb; have n0_ := Aside0.mk (below_step (by repeat (first | (with_reducible first | exact HB.out | apply below_alloc | apply pw_below_drewN | apply below_drew1) | exact HB.out)) hb); have n1_ := Aside0.mk (hbox); have n2_ := Aside0.mk ((by rw [hg]; exact (below_size (by repeat (first | (with_reducible first | exact HB.out | apply below_alloc | apply pw_below_drewN | apply below_drew1) | exact HB.out))) : w.heap.size ≤ gb115)); have n3_ := Aside0.mk ((by rw [hg]; exact (below_size (by repeat (first | (with_reducible first | exact HB.out | apply below_alloc | apply pw_below_drewN | apply below_drew1) | exact HB.out))) : w.heap.size ≤ gb115)); clear HB; have HB := n0_; have BK115 := n1_; have GW115 := n2_; have GE115 := n3_; clear n0_ n1_ n2_ n3_; clear hb hbox hg; have hcz19_0 : w18.cell? ⟨gb115, 0, none⟩ = some (.int .u8 0) := (blk_cell BK115.out 0).trans rfl; have hcz19_1 : w18.cell? ⟨gb115, 1, none⟩ = some (.string (⟨#[]⟩ : ByteArray)) := (blk_cell BK115.out 1).trans rfl; have hcz19_2 : w18.cell? ⟨gb115, 2, none⟩ = some (.int .u64 0) := (blk_cell BK115.out 2).trans rfl; have hfz19_0 := blk_frozen BK115.out 0; have hfz19_1 := blk_frozen BK115.out 1; have hfz19_2 := blk_frozen BK115.out 2) | ((with_reducible refine gate_callee (f := 34) rfl ?_); refine goesL_ (some 26) rfl rfl Tryz.func34 (by kernel_rfl) rfl #[.string ((rd_T43 l2 x17_1).f1), .int .u64 ((rd_T43 l2 x17_1).f2)] rfl (by (try simp only [List.map_toArray, List.map_cons, List.map_nil]); first | done | rfl | (simp only [List.length_drop, List.length_take]; rfl)) ?_; (with_reducible refine (spec_idIdentifier.calls k1 ((rd_T43 l2 x17_1).f1) ((rd_T43 l2 x17_1).f2) t116 _ (show DoorIs _ from ?side1) A10.out).mono ?_); (case side1 => exact Stays.below hT_ (by first | (repeat (first | (with_reducible first | exact HB.out | apply below_alloc | apply pw_below_drewN | apply below_drew1 | refine below_set ?_ GE115.out) | exact HB.out)) | (repeat (first | exact Below.refl _ _ | apply below_drew1 | apply pw_below_drewN)))); rintro e w20 ⟨rfl, hb⟩; refine ⟨_, rfl, ?_⟩; have n0_ := Aside0.mk (blk_below (g := gb115) (o := .cells #[.int .u8 ((rd_T43 l2 x17_1).f0), .string ((rd_T43 l2 x17_1).f1), .int .u64 ((rd_T43 l2 x17_1).f2)] 43 (0, 0)) (by (with_reducible repeat (first | refine blk_drewN ?_ _ | refine blk_drew ?_ | refine blk_alloc ?_ _)); refine blk_put (cs := #[.int .u8 ((rd_T43 l2 x17_1).f0), .string ((rd_T43 l2 x17_1).f1), .int .u64 0]) ?_ 2 _ rfl; (with_reducible repeat (first | refine blk_drewN ?_ _ | refine blk_drew ?_ | refine blk_alloc ?_ _)); refine blk_put (cs := #[.int .u8 ((rd_T43 l2 x17_1).f0), .string (⟨#[]⟩ : ByteArray), .int .u64 0]) ?_ 1 _ rfl; (with_reducible repeat (first | refine blk_drewN ?_ _ | refine blk_drew ?_ | refine blk_alloc ?_ _)); refine blk_put (cs := #[.int .u8 0, .string (⟨#[]⟩ : ByteArray), .int .u64 0]) ?_ 0 _ rfl; (with_reducible repeat (first | refine blk_drewN ?_ _ | refine blk_drew ?_ | refine blk_alloc ?_ _)); exact BK115.out) hb); have n1_ := Aside0.mk (below_step (by repeat (first | (with_reducible first | exact HB.out | apply below_alloc | apply pw_below_drewN | apply below_drew1 | refine below_set ?_ GE115.out) | exact HB.out)) hb); clear BK115; clear HB; have BK115 := n0_; have HB := n1_; clear n0_ n1_; (try clear hb); (try clear hb2); (try clear hk); (try clear hi); have hcz21_0 : w20.cell? ⟨gb115, 0, none⟩ = some (.int .u8 ((rd_T43 l2 x17_1).f0)) := (blk_cell BK115.out 0).trans rfl; have hcz21_1 : w20.cell? ⟨gb115, 1, none⟩ = some (.string ((rd_T43 l2 x17_1).f1)) := (blk_cell BK115.out 1).trans rfl; have hcz21_2 : w20.cell? ⟨gb115, 2, none⟩ = some (.int .u64 ((rd_T43 l2 x17_1).f2)) := (blk_cell BK115.out 2).trans rfl; have hfz21_0 := blk_frozen BK115.out 0; have hfz21_1 := blk_frozen BK115.out 1; have hfz21_2 := blk_frozen BK115.out 2) | ((with_reducible refine gate_callee (f := 35) rfl ?_); refine goesL_ (some 39) rfl rfl Tryz.func35 (by kernel_rfl) rfl #[.int .u64 ((rd_T43 l2 x17_1).f2)] rfl (by (try simp only [List.map_toArray, List.map_cons, List.map_nil]); first | done | rfl | (simp only [List.length_drop, List.length_take]; rfl)) ?_; (with_reducible refine (spec_IdDisambiguator.calls k1 ((rd_T43 l2 x17_1).f2) t117 _ A13.out).mono ?_); rintro e w' ⟨rfl, ⟨nd, rfl⟩⟩; refine ⟨_, rfl, ?_⟩))
                          go_roundg k1
                          case measure => have := HK1.out; omega
                          case rel => exact ⟨((((⟨#[78]⟩ : ByteArray) ++ (Utf8.encode (wrap32 ((rd_T43 l2 x17_1).f0)))) ++ x7_1) ++ (t117 ++ (⟨#[48]⟩ : ByteArray))), (wrap64 (x17_1 + 1)), (by first | rfl | (simp; done) | (simp [*]; done)), (by first | rfl | (simp; done) | (simp [*]; done)), H', ⟨by have := HK1.out; omega⟩, ⟨by repeat (first | (with_reducible first | exact HB.out | apply below_alloc | apply pw_below_drewN | apply below_drew1 | refine below_set ?_ GE115.out) | exact HB.out)⟩⟩
                        · rw [if_neg c17] at H
                          exact absurd H (by simp)
                      · rw [if_neg c16] at H
                        exact absurd H (by simp)
                    · rw [if_neg c15] at H
                      exact absurd H (by simp)
                  · rw [if_neg c14] at H
                    exact absurd H (by simp)
                · rw [if_neg c12] at H
                  have c12b0 : (x17_1 == (wrap64 ((l2.length : Int) - 1))) = false := beq_eq_false_iff_ne.mpr c12
                  have c12b1 : (x17_1 != (wrap64 ((l2.length : Int) - 1))) = true := bne_iff_ne.mpr c12
                  by_cases c22 : 1 + (Utf8.encode (wrap32 ((rd_T43 l2 x17_1).f0))).size ≤ 9223372036854775807
                  · rw [if_pos c22] at H
                    have c22b0 := eq_true c22
                    have c22b1 : decide (1 + (Utf8.encode (wrap32 ((rd_T43 l2 x17_1).f0))).size ≤ 9223372036854775807) = true := decide_eq_true c22
                    try have c22b2 : (9223372036854775807 < 1 + (Utf8.encode (wrap32 ((rd_T43 l2 x17_1).f0))).size) = False := eq_false (Nat.not_lt.2 c22)
                    by_cases c23 : ((⟨#[78]⟩ : ByteArray) ++ (Utf8.encode (wrap32 ((rd_T43 l2 x17_1).f0)))).size + x7_1.size ≤ 9223372036854775807
                    · rw [if_pos c23] at H
                      have c23b0 := eq_true c23
                      have c23b1 : decide (((⟨#[78]⟩ : ByteArray) ++ (Utf8.encode (wrap32 ((rd_T43 l2 x17_1).f0)))).size + x7_1.size ≤ 9223372036854775807) = true := decide_eq_true c23
                      try have c23b2 : (9223372036854775807 < ((⟨#[78]⟩ : ByteArray) ++ (Utf8.encode (wrap32 ((rd_T43 l2 x17_1).f0)))).size + x7_1.size) = False := eq_false (Nat.not_lt.2 c23)
                      try have c23b4 : (9223372036854775807 < 1 + (Utf8.encode (wrap32 ((rd_T43 l2 x17_1).f0))).size + x7_1.size) = False := eq_false (by have h_ := c23; (repeat rw [ByteArray.size_append] at h_); exact Nat.not_lt.2 h_)
                      by_cases c24 : (((⟨#[78]⟩ : ByteArray) ++ (Utf8.encode (wrap32 ((rd_T43 l2 x17_1).f0)))) ++ x7_1).size + t116.size ≤ 9223372036854775807
                      · rw [if_pos c24] at H
                        have c24b0 := eq_true c24
                        have c24b1 : decide ((((⟨#[78]⟩ : ByteArray) ++ (Utf8.encode (wrap32 ((rd_T43 l2 x17_1).f0)))) ++ x7_1).size + t116.size ≤ 9223372036854775807) = true := decide_eq_true c24
                        try have c24b2 : (9223372036854775807 < (((⟨#[78]⟩ : ByteArray) ++ (Utf8.encode (wrap32 ((rd_T43 l2 x17_1).f0)))) ++ x7_1).size + t116.size) = False := eq_false (Nat.not_lt.2 c24)
                        try have c24b4 : (9223372036854775807 < 1 + (Utf8.encode (wrap32 ((rd_T43 l2 x17_1).f0))).size + x7_1.size + t116.size) = False := eq_false (by have h_ := c24; (repeat rw [ByteArray.size_append] at h_); exact Nat.not_lt.2 h_)
                        have H' := Aside0.mk H
                        clear H
                        have p114 : 0 ≤ (x17_1 : Int) := of_decide_eq_true (by first | (with_reducible assumption) | assumption)
                        have q114 : x17_1 < (l2.length : Int) := of_decide_eq_true (by first | (with_reducible assumption) | assumption)
                        obtain ⟨ad114, e114, hx114_0, hx114_1, hx114_2⟩ := at_T43 HR2.out x17_1 p114 q114
                        cases e114
                        replace hx114_0 := (HB.out.cell (World.block_lt_of_cell? w _ hx114_0)).trans hx114_0
                        replace hx114_1 := (HB.out.cell (World.block_lt_of_cell? w _ hx114_1)).trans hx114_1
                        replace hx114_2 := (HB.out.cell (World.block_lt_of_cell? w _ hx114_2)).trans hx114_2
                        replace p114 := eq_true p114
                        replace q114 := eq_true q114
                        go_wp2_with (first | (go_at_call 15; refine (idCut_at _ _ _ _ _ _ (by assumption) (by assumption)).mono ?_; rintro e w_ ⟨rfl, rfl⟩) | ((with_reducible refine gate_dst (N := 9) rfl ?_); (try (refine gate_guard (by rfl) ?_; dsimp only)); refine box_event ?hg (N := 9) ?hd (cs := #[.int .u8 0, .string (⟨#[]⟩ : ByteArray), .int .u64 0]) (t := 43) ?hr ?_; (case hd => rfl); (case hg => rfl); (case hr => first | (go_simp; done) | (go_simp; rfl)); intro gb115 hg w25 hbox hb; have n0_ := Aside0.mk (below_step (by repeat (first | (with_reducible first | exact HB.out | apply below_alloc | apply pw_below_drewN | apply below_drew1) | exact HB.out)) hb); have n1_ := Aside0.mk (hbox); have n2_ := Aside0.mk ((by rw [hg]; exact (below_size (by repeat (first | (with_reducible first | exact HB.out | apply below_alloc | apply pw_below_drewN | apply below_drew1) | exact HB.out))) : w.heap.size ≤ gb115)); have n3_ := Aside0.mk ((by rw [hg]; exact (below_size (by repeat (first | (with_reducible first | exact HB.out | apply below_alloc | apply pw_below_drewN | apply below_drew1) | exact HB.out))) : w.heap.size ≤ gb115)); clear HB; have HB := n0_; have BK115 := n1_; have GW115 := n2_; have GE115 := n3_; clear n0_ n1_ n2_ n3_; clear hb hbox hg; have hcz26_0 : w25.cell? ⟨gb115, 0, none⟩ = some (.int .u8 0) := (blk_cell BK115.out 0).trans rfl; have hcz26_1 : w25.cell? ⟨gb115, 1, none⟩ = some (.string (⟨#[]⟩ : ByteArray)) := (blk_cell BK115.out 1).trans rfl; have hcz26_2 : w25.cell? ⟨gb115, 2, none⟩ = some (.int .u64 0) := (blk_cell BK115.out 2).trans rfl; have hfz26_0 := blk_frozen BK115.out 0; have hfz26_1 := blk_frozen BK115.out 1; have hfz26_2 := blk_frozen BK115.out 2) | ((with_reducible refine gate_callee (f := 34) rfl ?_); refine goesL_ (some 26) rfl rfl Tryz.func34 (by kernel_rfl) rfl #[.string ((rd_T43 l2 x17_1).f1), .int .u64 ((rd_T43 l2 x17_1).f2)] rfl (by (try simp only [List.map_toArray, List.map_cons, List.map_nil]); first | done | rfl | (simp only [List.length_drop, List.length_take]; rfl)) ?_; (with_reducible refine (spec_idIdentifier.calls k1 ((rd_T43 l2 x17_1).f1) ((rd_T43 l2 x17_1).f2) t116 _ (show DoorIs _ from ?side1) A10.out).mono ?_); (case side1 => exact Stays.below hT_ (by first | (repeat (first | (with_reducible first | exact HB.out | apply below_alloc | apply pw_below_drewN | apply below_drew1 | refine below_set ?_ GE115.out) | exact HB.out)) | (repeat (first | exact Below.refl _ _ | apply below_drew1 | apply pw_below_drewN)))); rintro e w27 ⟨rfl, hb⟩; refine ⟨_, rfl, ?_⟩; have n0_ := Aside0.mk (blk_below (g := gb115) (o := .cells #[.int .u8 ((rd_T43 l2 x17_1).f0), .string ((rd_T43 l2 x17_1).f1), .int .u64 ((rd_T43 l2 x17_1).f2)] 43 (0, 0)) (by (with_reducible repeat (first | refine blk_drewN ?_ _ | refine blk_drew ?_ | refine blk_alloc ?_ _)); refine blk_put (cs := #[.int .u8 ((rd_T43 l2 x17_1).f0), .string ((rd_T43 l2 x17_1).f1), .int .u64 0]) ?_ 2 _ rfl; (with_reducible repeat (first | refine blk_drewN ?_ _ | refine blk_drew ?_ | refine blk_alloc ?_ _)); refine blk_put (cs := #[.int .u8 ((rd_T43 l2 x17_1).f0), .string (⟨#[]⟩ : ByteArray), .int .u64 0]) ?_ 1 _ rfl; (with_reducible repeat (first | refine blk_drewN ?_ _ | refine blk_drew ?_ | refine blk_alloc ?_ _)); refine blk_put (cs := #[.int .u8 0, .string (⟨#[]⟩ : ByteArray), .int .u64 0]) ?_ 0 _ rfl; (with_reducible repeat (first | refine blk_drewN ?_ _ | refine blk_drew ?_ | refine blk_alloc ?_ _)); exact BK115.out) hb); have n1_ := Aside0.mk (below_step (by repeat (first | (with_reducible first | exact HB.out | apply below_alloc | apply pw_below_drewN | apply below_drew1 | refine below_set ?_ GE115.out) | exact HB.out)) hb); clear BK115; clear HB; have BK115 := n0_; have HB := n1_; clear n0_ n1_; (try clear hb); (try clear hb2); (try clear hk); (try clear hi); have hcz28_0 : w27.cell? ⟨gb115, 0, none⟩ = some (.int .u8 ((rd_T43 l2 x17_1).f0)) := (blk_cell BK115.out 0).trans rfl; have hcz28_1 : w27.cell? ⟨gb115, 1, none⟩ = some (.string ((rd_T43 l2 x17_1).f1)) := (blk_cell BK115.out 1).trans rfl; have hcz28_2 : w27.cell? ⟨gb115, 2, none⟩ = some (.int .u64 ((rd_T43 l2 x17_1).f2)) := (blk_cell BK115.out 2).trans rfl; have hfz28_0 := blk_frozen BK115.out 0; have hfz28_1 := blk_frozen BK115.out 1; have hfz28_2 := blk_frozen BK115.out 2))
                        go_roundg k1
                        case measure => have := HK1.out; omega
                        case rel => exact ⟨((((⟨#[78]⟩ : ByteArray) ++ (Utf8.encode (wrap32 ((rd_T43 l2 x17_1).f0)))) ++ x7_1) ++ t116), (wrap64 (x17_1 + 1)), (by first | rfl | (simp; done) | (simp [*]; done)), (by first | rfl | (simp; done) | (simp [*]; done)), H', ⟨by have := HK1.out; omega⟩, ⟨by repeat (first | (with_reducible first | exact HB.out | apply below_alloc | apply pw_below_drewN | apply below_drew1 | refine below_set ?_ GE115.out) | exact HB.out)⟩⟩
                      · rw [if_neg c24] at H
                        exact absurd H (by simp)
                    · rw [if_neg c23] at H
                      exact absurd H (by simp)
                  · rw [if_neg c22] at H
                    exact absurd H (by simp)
              · rw [if_neg c11] at H
                have c11b0 : (((rd_T43 l2 x17_1).f1).toList == ([] : List UInt8)) = false := beq_eq_false_iff_ne.mpr c11
                have c11b1 : (((rd_T43 l2 x17_1).f1).toList != ([] : List UInt8)) = true := bne_iff_ne.mpr c11
                by_cases c29 : 1 + (Utf8.encode (wrap32 ((rd_T43 l2 x17_1).f0))).size ≤ 9223372036854775807
                · rw [if_pos c29] at H
                  have c29b0 := eq_true c29
                  have c29b1 : decide (1 + (Utf8.encode (wrap32 ((rd_T43 l2 x17_1).f0))).size ≤ 9223372036854775807) = true := decide_eq_true c29
                  try have c29b2 : (9223372036854775807 < 1 + (Utf8.encode (wrap32 ((rd_T43 l2 x17_1).f0))).size) = False := eq_false (Nat.not_lt.2 c29)
                  by_cases c30 : ((⟨#[78]⟩ : ByteArray) ++ (Utf8.encode (wrap32 ((rd_T43 l2 x17_1).f0)))).size + x7_1.size ≤ 9223372036854775807
                  · rw [if_pos c30] at H
                    have c30b0 := eq_true c30
                    have c30b1 : decide (((⟨#[78]⟩ : ByteArray) ++ (Utf8.encode (wrap32 ((rd_T43 l2 x17_1).f0)))).size + x7_1.size ≤ 9223372036854775807) = true := decide_eq_true c30
                    try have c30b2 : (9223372036854775807 < ((⟨#[78]⟩ : ByteArray) ++ (Utf8.encode (wrap32 ((rd_T43 l2 x17_1).f0)))).size + x7_1.size) = False := eq_false (Nat.not_lt.2 c30)
                    try have c30b4 : (9223372036854775807 < 1 + (Utf8.encode (wrap32 ((rd_T43 l2 x17_1).f0))).size + x7_1.size) = False := eq_false (by have h_ := c30; (repeat rw [ByteArray.size_append] at h_); exact Nat.not_lt.2 h_)
                    by_cases c31 : (((⟨#[78]⟩ : ByteArray) ++ (Utf8.encode (wrap32 ((rd_T43 l2 x17_1).f0)))) ++ x7_1).size + t116.size ≤ 9223372036854775807
                    · rw [if_pos c31] at H
                      have c31b0 := eq_true c31
                      have c31b1 : decide ((((⟨#[78]⟩ : ByteArray) ++ (Utf8.encode (wrap32 ((rd_T43 l2 x17_1).f0)))) ++ x7_1).size + t116.size ≤ 9223372036854775807) = true := decide_eq_true c31
                      try have c31b2 : (9223372036854775807 < (((⟨#[78]⟩ : ByteArray) ++ (Utf8.encode (wrap32 ((rd_T43 l2 x17_1).f0)))) ++ x7_1).size + t116.size) = False := eq_false (Nat.not_lt.2 c31)
                      try have c31b4 : (9223372036854775807 < 1 + (Utf8.encode (wrap32 ((rd_T43 l2 x17_1).f0))).size + x7_1.size + t116.size) = False := eq_false (by have h_ := c31; (repeat rw [ByteArray.size_append] at h_); exact Nat.not_lt.2 h_)
                      have H' := Aside0.mk H
                      clear H
                      have p114 : 0 ≤ (x17_1 : Int) := of_decide_eq_true (by first | (with_reducible assumption) | assumption)
                      have q114 : x17_1 < (l2.length : Int) := of_decide_eq_true (by first | (with_reducible assumption) | assumption)
                      obtain ⟨ad114, e114, hx114_0, hx114_1, hx114_2⟩ := at_T43 HR2.out x17_1 p114 q114
                      cases e114
                      replace hx114_0 := (HB.out.cell (World.block_lt_of_cell? w _ hx114_0)).trans hx114_0
                      replace hx114_1 := (HB.out.cell (World.block_lt_of_cell? w _ hx114_1)).trans hx114_1
                      replace hx114_2 := (HB.out.cell (World.block_lt_of_cell? w _ hx114_2)).trans hx114_2
                      replace p114 := eq_true p114
                      replace q114 := eq_true q114
                      go_wp2_with (first | (go_at_call 15; refine (idCut_at _ _ _ _ _ _ (by assumption) (by assumption)).mono ?_; rintro e w_ ⟨rfl, rfl⟩) | ((with_reducible refine gate_dst (N := 9) rfl ?_); (try (refine gate_guard (by rfl) ?_; dsimp only)); refine box_event ?hg (N := 9) ?hd (cs := #[.int .u8 0, .string (⟨#[]⟩ : ByteArray), .int .u64 0]) (t := 43) ?hr ?_; (case hd => rfl); (case hg => rfl); (case hr => first | (go_simp; done) | (go_simp; rfl)); intro gb115 hg w32 hbox hb; have n0_ := Aside0.mk (below_step (by repeat (first | (with_reducible first | exact HB.out | apply below_alloc | apply pw_below_drewN | apply below_drew1) | exact HB.out)) hb); have n1_ := Aside0.mk (hbox); have n2_ := Aside0.mk ((by rw [hg]; exact (below_size (by repeat (first | (with_reducible first | exact HB.out | apply below_alloc | apply pw_below_drewN | apply below_drew1) | exact HB.out))) : w.heap.size ≤ gb115)); have n3_ := Aside0.mk ((by rw [hg]; exact (below_size (by repeat (first | (with_reducible first | exact HB.out | apply below_alloc | apply pw_below_drewN | apply below_drew1) | exact HB.out))) : w.heap.size ≤ gb115)); clear HB; have HB := n0_; have BK115 := n1_; have GW115 := n2_; have GE115 := n3_; clear n0_ n1_ n2_ n3_; clear hb hbox hg; have hcz33_0 : w32.cell? ⟨gb115, 0, none⟩ = some (.int .u8 0) := (blk_cell BK115.out 0).trans rfl; have hcz33_1 : w32.cell? ⟨gb115, 1, none⟩ = some (.string (⟨#[]⟩ : ByteArray)) := (blk_cell BK115.out 1).trans rfl; have hcz33_2 : w32.cell? ⟨gb115, 2, none⟩ = some (.int .u64 0) := (blk_cell BK115.out 2).trans rfl; have hfz33_0 := blk_frozen BK115.out 0; have hfz33_1 := blk_frozen BK115.out 1; have hfz33_2 := blk_frozen BK115.out 2) | ((with_reducible refine gate_callee (f := 34) rfl ?_); refine goesL_ (some 26) rfl rfl Tryz.func34 (by kernel_rfl) rfl #[.string ((rd_T43 l2 x17_1).f1), .int .u64 ((rd_T43 l2 x17_1).f2)] rfl (by (try simp only [List.map_toArray, List.map_cons, List.map_nil]); first | done | rfl | (simp only [List.length_drop, List.length_take]; rfl)) ?_; (with_reducible refine (spec_idIdentifier.calls k1 ((rd_T43 l2 x17_1).f1) ((rd_T43 l2 x17_1).f2) t116 _ (show DoorIs _ from ?side1) A10.out).mono ?_); (case side1 => exact Stays.below hT_ (by first | (repeat (first | (with_reducible first | exact HB.out | apply below_alloc | apply pw_below_drewN | apply below_drew1 | refine below_set ?_ GE115.out) | exact HB.out)) | (repeat (first | exact Below.refl _ _ | apply below_drew1 | apply pw_below_drewN)))); rintro e w34 ⟨rfl, hb⟩; refine ⟨_, rfl, ?_⟩; have n0_ := Aside0.mk (blk_below (g := gb115) (o := .cells #[.int .u8 ((rd_T43 l2 x17_1).f0), .string ((rd_T43 l2 x17_1).f1), .int .u64 ((rd_T43 l2 x17_1).f2)] 43 (0, 0)) (by (with_reducible repeat (first | refine blk_drewN ?_ _ | refine blk_drew ?_ | refine blk_alloc ?_ _)); refine blk_put (cs := #[.int .u8 ((rd_T43 l2 x17_1).f0), .string ((rd_T43 l2 x17_1).f1), .int .u64 0]) ?_ 2 _ rfl; (with_reducible repeat (first | refine blk_drewN ?_ _ | refine blk_drew ?_ | refine blk_alloc ?_ _)); refine blk_put (cs := #[.int .u8 ((rd_T43 l2 x17_1).f0), .string (⟨#[]⟩ : ByteArray), .int .u64 0]) ?_ 1 _ rfl; (with_reducible repeat (first | refine blk_drewN ?_ _ | refine blk_drew ?_ | refine blk_alloc ?_ _)); refine blk_put (cs := #[.int .u8 0, .string (⟨#[]⟩ : ByteArray), .int .u64 0]) ?_ 0 _ rfl; (with_reducible repeat (first | refine blk_drewN ?_ _ | refine blk_drew ?_ | refine blk_alloc ?_ _)); exact BK115.out) hb); have n1_ := Aside0.mk (below_step (by repeat (first | (with_reducible first | exact HB.out | apply below_alloc | apply pw_below_drewN | apply below_drew1 | refine below_set ?_ GE115.out) | exact HB.out)) hb); clear BK115; clear HB; have BK115 := n0_; have HB := n1_; clear n0_ n1_; (try clear hb); (try clear hb2); (try clear hk); (try clear hi); have hcz35_0 : w34.cell? ⟨gb115, 0, none⟩ = some (.int .u8 ((rd_T43 l2 x17_1).f0)) := (blk_cell BK115.out 0).trans rfl; have hcz35_1 : w34.cell? ⟨gb115, 1, none⟩ = some (.string ((rd_T43 l2 x17_1).f1)) := (blk_cell BK115.out 1).trans rfl; have hcz35_2 : w34.cell? ⟨gb115, 2, none⟩ = some (.int .u64 ((rd_T43 l2 x17_1).f2)) := (blk_cell BK115.out 2).trans rfl; have hfz35_0 := blk_frozen BK115.out 0; have hfz35_1 := blk_frozen BK115.out 1; have hfz35_2 := blk_frozen BK115.out 2))
                      go_roundg k1
                      case measure => have := HK1.out; omega
                      case rel => exact ⟨((((⟨#[78]⟩ : ByteArray) ++ (Utf8.encode (wrap32 ((rd_T43 l2 x17_1).f0)))) ++ x7_1) ++ t116), (wrap64 (x17_1 + 1)), (by first | rfl | (simp; done) | (simp [*]; done)), (by first | rfl | (simp; done) | (simp [*]; done)), H', ⟨by have := HK1.out; omega⟩, ⟨by repeat (first | (with_reducible first | exact HB.out | apply below_alloc | apply pw_below_drewN | apply below_drew1 | refine below_set ?_ GE115.out) | exact HB.out)⟩⟩
                    · rw [if_neg c31] at H
                      exact absurd H (by simp)
                  · rw [if_neg c30] at H
                    exact absurd H (by simp)
                · rw [if_neg c29] at H
                  exact absurd H (by simp)
            · rw [if_neg c9] at H
              exact absurd H (by simp)
          · rw [if_neg c8] at H
            exact absurd H (by simp)
        · rw [if_neg c7] at H
          have c7b0 : decide (x17_1 < (l2.length : Int)) = false := decide_eq_false c7
          clear c7
          obtain rfl := Option.some.inj H
          go_wp2
          go_ret
          exact ⟨by first | rfl | (simp [errW_none, errW_some] <;> rfl) | (simp [*, errW_none, errW_some] <;> rfl), by repeat (first | (with_reducible first | exact HB.out | apply below_alloc | apply pw_below_drewN | apply below_drew1) | exact HB.out)⟩
  · rw [if_neg c5] at H
    exact absurd H (by simp)

end Go.Proofs.YtdmkdclockmjbaaGreatDoor.PFnMaxLengthSpecial
